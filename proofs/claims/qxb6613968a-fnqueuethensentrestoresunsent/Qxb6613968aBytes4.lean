/-
  Seat b6613968a. The walk of zzBytes_FnQueueThenSentRestoresUnsent (21): laid by a small program, one loop a list. By an AI agent.
-/
import Derived.Test.Qxb6613968aProg
import Derived.Test.Qxb6613968aBytes
namespace Go.Proofs.Qxb6613968a
open Go.RowKit
set_option linter.unusedVariables false
set_option linter.unusedSimpArgs false

set_option maxHeartbeats 4000000 in
set_option maxRecDepth 100000 in
theorem bytes21_any (N0 N1 N2 : List ByteArray) (D0 D1 D2 : List Sl) (n0a i0a d0a n1a i1a d1a n2a i2a d2a : Option Addr) (n0c i0l i0c d0c n1c i1l i1c d1c n2c i2l i2c d2c : Nat) (u : Int) (tok : Bool) (w : World)
    (bN0 : N0.length ≤ maxLen) (bI0 : i0l ≤ maxLen) (bD0 : D0.length ≤ maxLen) (sN0 : ∀ i, (h : i < N0.length) → N0[i].size ≤ maxLen) (sD0 : ∀ i, (h : i < D0.length) → D0[i].n ≤ maxLen) (rN0 : RowAt w n0a (N0.map Value.string)) (rD0 : RowAt w d0a (D0.map Sl.v))
    (bN1 : N1.length ≤ maxLen) (bI1 : i1l ≤ maxLen) (bD1 : D1.length ≤ maxLen) (sN1 : ∀ i, (h : i < N1.length) → N1[i].size ≤ maxLen) (sD1 : ∀ i, (h : i < D1.length) → D1[i].n ≤ maxLen) (rN1 : RowAt w n1a (N1.map Value.string)) (rD1 : RowAt w d1a (D1.map Sl.v))
    (bN2 : N2.length ≤ maxLen) (bI2 : i2l ≤ maxLen) (bD2 : D2.length ≤ maxLen) (sN2 : ∀ i, (h : i < N2.length) → N2[i].size ≤ maxLen) (sD2 : ∀ i, (h : i < D2.length) → D2[i].n ≤ maxLen) (rN2 : RowAt w n2a (N2.map Value.string)) (rD2 : RowAt w d2a (D2.map Sl.v)) :
    Calls Try.prog 21 #[.slice n0a N0.length n0c, .slice i0a i0l i0c, .slice d0a D0.length d0c, .slice n1a N1.length n1c, .slice i1a i1l i1c, .slice d1a D1.length d1c, .int .i64 u, .bool tok, .slice n2a N2.length n2c, .slice i2a i2l i2c, .slice d2a D2.length d2c] w fun e w' => BytesRet N0 N1 N2 i0l i1l i2l D0 D1 D2 e ∧ w' = w := by
  unfold maxLen at *
  go_enter Try.func21, Try.ntmps21
  by_cases hN0 : N0.length ≤ 1048576
  case neg =>
    go_wp2
    go_ret
    exact ⟨⟨false, rfl, fun h => by cases h⟩, rfl⟩
  go_wp2
  go_loop [23, 24] (fun t i => ∃ (k : Nat) (z : Int), k ≤ N0.length ∧ i = .int .i64 k ∧ t = .int .i64 z ∧ 0 ≤ z ∧ z ≤ 1048576 ∧ Hid (∀ j, (h : j < N0.length) → j < k → N0[j].size ≤ 1048576)) (fun _ i => N0.length - (intOf i).toNat)
  case atStart => exact ⟨0, _, Nat.zero_le _, rfl, rfl, by omega, by omega, fun j h hk => by omega⟩
  case round =>
    obtain ⟨kN0, zN0, hkN0, rfl, rfl, hz0N0, hz1N0, hsN0⟩ := hrel
    by_cases hltN0 : kN0 < N0.length
    case pos =>
      obtain ⟨b, off, e, hc⟩ := rN0 kN0 (by simpa using hltN0)
      subst e
      have hsz := sN0 kN0 hltN0
      have HS : Hid (∀ j, (h : j < N0.length) → j < kN0 + 1 → N0[kN0].size ≤ 1048576 → N0[j].size ≤ 1048576) := by
        intro j h hj he
        by_cases e : j = kN0
        · subst e; exact he
        · exact hsN0.out j h (by omega)
      simp only [List.getElem_map] at hc
      generalize N0[kN0] = s at hc hsz HS
      clear rN0 rD0 sN0 sD0 rN1 rD1 sN1 sD1 rN2 rD2 sN2 sD2
      by_cases hb1 : s.size ≤ 1048576
      case neg =>
        go_wp2
        go_ret
        exact ⟨⟨false, rfl, fun h => by cases h⟩, rfl⟩
      by_cases hb2 : zN0 + (s.size : Int) ≤ 1048576
      case neg =>
        go_wp2
        go_ret
        exact ⟨⟨false, rfl, fun h => by cases h⟩, rfl⟩
      go_wp2
      go_round
      case rel => exact ⟨kN0 + 1, _, by omega, by go_num, rfl, by omega, by omega, fun j h hj => HS.out j h hj hb1⟩
      case measure => simp [intOf]; omega
    have HN0 : Hid (∀ j, (h : j < N0.length) → N0[j].size ≤ 1048576) := fun j h => hsN0.out j h (by omega)
    clear hsN0
    by_cases hI0 : i0l ≤ 1048576
    case neg =>
      go_wp2
      go_ret
      exact ⟨⟨false, rfl, fun h => by cases h⟩, rfl⟩
    by_cases hI0z : zN0 + (i0l : Int) ≤ 1048576
    case neg =>
      go_wp2
      go_ret
      exact ⟨⟨false, rfl, fun h => by cases h⟩, rfl⟩
    by_cases hD0 : D0.length ≤ 1048576
    case neg =>
      go_wp2
      go_ret
      exact ⟨⟨false, rfl, fun h => by cases h⟩, rfl⟩
    by_cases hD0z : (zN0 + (i0l : Int)) + (D0.length : Int) ≤ 1048576
    case neg =>
      go_wp2
      go_ret
      exact ⟨⟨false, rfl, fun h => by cases h⟩, rfl⟩
    go_wp2
    go_loop [23, 25] (fun t i => ∃ (k : Nat) (z : Int), k ≤ D0.length ∧ i = .int .i64 k ∧ t = .int .i64 z ∧ 0 ≤ z ∧ z ≤ 1048576 ∧ Hid (∀ j, (h : j < D0.length) → j < k → D0[j].n ≤ 1048576)) (fun _ i => D0.length - (intOf i).toNat)
    case atStart => exact ⟨0, _, Nat.zero_le _, rfl, rfl, by omega, by omega, fun j h hk => by omega⟩
    case round =>
      obtain ⟨kD0, zD0, hkD0, rfl, rfl, hz0D0, hz1D0, hsD0⟩ := hrel
      by_cases hltD0 : kD0 < D0.length
      case pos =>
        obtain ⟨b, off, e, hc⟩ := rD0 kD0 (by simpa using hltD0)
        subst e
        have hsz := sD0 kD0 hltD0
        have HS : Hid (∀ j, (h : j < D0.length) → j < kD0 + 1 → D0[kD0].n ≤ 1048576 → D0[j].n ≤ 1048576) := by
          intro j h hj he
          by_cases e : j = kD0
          · subst e; exact he
          · exact hsD0.out j h (by omega)
        simp only [List.getElem_map, Sl.v] at hc
        generalize D0[kD0] = s at hc hsz HS
        obtain ⟨sa, sn, sc⟩ := s
        simp only at hc hsz HS
        clear rN0 rD0 sN0 sD0 rN1 rD1 sN1 sD1 rN2 rD2 sN2 sD2
        by_cases hb1 : sn ≤ 1048576
        case neg =>
          go_wp2
          go_ret
          exact ⟨⟨false, rfl, fun h => by cases h⟩, rfl⟩
        by_cases hb2 : zD0 + (sn : Int) ≤ 1048576
        case neg =>
          go_wp2
          go_ret
          exact ⟨⟨false, rfl, fun h => by cases h⟩, rfl⟩
        go_wp2
        go_round
        case rel => exact ⟨kD0 + 1, _, by omega, by go_num, rfl, by omega, by omega, fun j h hj => HS.out j h hj hb1⟩
        case measure => simp [intOf]; omega
      have HD0 : Hid (∀ j, (h : j < D0.length) → D0[j].n ≤ 1048576) := fun j h => hsD0.out j h (by omega)
      clear hsD0
      by_cases hN1 : N1.length ≤ 1048576
      case neg =>
        go_wp2
        go_ret
        exact ⟨⟨false, rfl, fun h => by cases h⟩, rfl⟩
      by_cases hN1z : zD0 + (N1.length : Int) ≤ 1048576
      case neg =>
        go_wp2
        go_ret
        exact ⟨⟨false, rfl, fun h => by cases h⟩, rfl⟩
      go_wp2
      go_loop [23, 26] (fun t i => ∃ (k : Nat) (z : Int), k ≤ N1.length ∧ i = .int .i64 k ∧ t = .int .i64 z ∧ 0 ≤ z ∧ z ≤ 1048576 ∧ Hid (∀ j, (h : j < N1.length) → j < k → N1[j].size ≤ 1048576)) (fun _ i => N1.length - (intOf i).toNat)
      case atStart => exact ⟨0, _, Nat.zero_le _, rfl, rfl, by omega, by omega, fun j h hk => by omega⟩
      case round =>
        obtain ⟨kN1, zN1, hkN1, rfl, rfl, hz0N1, hz1N1, hsN1⟩ := hrel
        by_cases hltN1 : kN1 < N1.length
        case pos =>
          obtain ⟨b, off, e, hc⟩ := rN1 kN1 (by simpa using hltN1)
          subst e
          have hsz := sN1 kN1 hltN1
          have HS : Hid (∀ j, (h : j < N1.length) → j < kN1 + 1 → N1[kN1].size ≤ 1048576 → N1[j].size ≤ 1048576) := by
            intro j h hj he
            by_cases e : j = kN1
            · subst e; exact he
            · exact hsN1.out j h (by omega)
          simp only [List.getElem_map] at hc
          generalize N1[kN1] = s at hc hsz HS
          clear rN0 rD0 sN0 sD0 rN1 rD1 sN1 sD1 rN2 rD2 sN2 sD2
          by_cases hb1 : s.size ≤ 1048576
          case neg =>
            go_wp2
            go_ret
            exact ⟨⟨false, rfl, fun h => by cases h⟩, rfl⟩
          by_cases hb2 : zN1 + (s.size : Int) ≤ 1048576
          case neg =>
            go_wp2
            go_ret
            exact ⟨⟨false, rfl, fun h => by cases h⟩, rfl⟩
          go_wp2
          go_round
          case rel => exact ⟨kN1 + 1, _, by omega, by go_num, rfl, by omega, by omega, fun j h hj => HS.out j h hj hb1⟩
          case measure => simp [intOf]; omega
        have HN1 : Hid (∀ j, (h : j < N1.length) → N1[j].size ≤ 1048576) := fun j h => hsN1.out j h (by omega)
        clear hsN1
        by_cases hI1 : i1l ≤ 1048576
        case neg =>
          go_wp2
          go_ret
          exact ⟨⟨false, rfl, fun h => by cases h⟩, rfl⟩
        by_cases hI1z : zN1 + (i1l : Int) ≤ 1048576
        case neg =>
          go_wp2
          go_ret
          exact ⟨⟨false, rfl, fun h => by cases h⟩, rfl⟩
        by_cases hD1 : D1.length ≤ 1048576
        case neg =>
          go_wp2
          go_ret
          exact ⟨⟨false, rfl, fun h => by cases h⟩, rfl⟩
        by_cases hD1z : (zN1 + (i1l : Int)) + (D1.length : Int) ≤ 1048576
        case neg =>
          go_wp2
          go_ret
          exact ⟨⟨false, rfl, fun h => by cases h⟩, rfl⟩
        go_wp2
        go_loop [23, 27] (fun t i => ∃ (k : Nat) (z : Int), k ≤ D1.length ∧ i = .int .i64 k ∧ t = .int .i64 z ∧ 0 ≤ z ∧ z ≤ 1048576 ∧ Hid (∀ j, (h : j < D1.length) → j < k → D1[j].n ≤ 1048576)) (fun _ i => D1.length - (intOf i).toNat)
        case atStart => exact ⟨0, _, Nat.zero_le _, rfl, rfl, by omega, by omega, fun j h hk => by omega⟩
        case round =>
          obtain ⟨kD1, zD1, hkD1, rfl, rfl, hz0D1, hz1D1, hsD1⟩ := hrel
          by_cases hltD1 : kD1 < D1.length
          case pos =>
            obtain ⟨b, off, e, hc⟩ := rD1 kD1 (by simpa using hltD1)
            subst e
            have hsz := sD1 kD1 hltD1
            have HS : Hid (∀ j, (h : j < D1.length) → j < kD1 + 1 → D1[kD1].n ≤ 1048576 → D1[j].n ≤ 1048576) := by
              intro j h hj he
              by_cases e : j = kD1
              · subst e; exact he
              · exact hsD1.out j h (by omega)
            simp only [List.getElem_map, Sl.v] at hc
            generalize D1[kD1] = s at hc hsz HS
            obtain ⟨sa, sn, sc⟩ := s
            simp only at hc hsz HS
            clear rN0 rD0 sN0 sD0 rN1 rD1 sN1 sD1 rN2 rD2 sN2 sD2
            by_cases hb1 : sn ≤ 1048576
            case neg =>
              go_wp2
              go_ret
              exact ⟨⟨false, rfl, fun h => by cases h⟩, rfl⟩
            by_cases hb2 : zD1 + (sn : Int) ≤ 1048576
            case neg =>
              go_wp2
              go_ret
              exact ⟨⟨false, rfl, fun h => by cases h⟩, rfl⟩
            go_wp2
            go_round
            case rel => exact ⟨kD1 + 1, _, by omega, by go_num, rfl, by omega, by omega, fun j h hj => HS.out j h hj hb1⟩
            case measure => simp [intOf]; omega
          have HD1 : Hid (∀ j, (h : j < D1.length) → D1[j].n ≤ 1048576) := fun j h => hsD1.out j h (by omega)
          clear hsD1
          by_cases hN2 : N2.length ≤ 1048576
          case neg =>
            go_wp2
            go_ret
            exact ⟨⟨false, rfl, fun h => by cases h⟩, rfl⟩
          by_cases hN2z : zD1 + (N2.length : Int) ≤ 1048576
          case neg =>
            go_wp2
            go_ret
            exact ⟨⟨false, rfl, fun h => by cases h⟩, rfl⟩
          go_wp2
          go_loop [23, 28] (fun t i => ∃ (k : Nat) (z : Int), k ≤ N2.length ∧ i = .int .i64 k ∧ t = .int .i64 z ∧ 0 ≤ z ∧ z ≤ 1048576 ∧ Hid (∀ j, (h : j < N2.length) → j < k → N2[j].size ≤ 1048576)) (fun _ i => N2.length - (intOf i).toNat)
          case atStart => exact ⟨0, _, Nat.zero_le _, rfl, rfl, by omega, by omega, fun j h hk => by omega⟩
          case round =>
            obtain ⟨kN2, zN2, hkN2, rfl, rfl, hz0N2, hz1N2, hsN2⟩ := hrel
            by_cases hltN2 : kN2 < N2.length
            case pos =>
              obtain ⟨b, off, e, hc⟩ := rN2 kN2 (by simpa using hltN2)
              subst e
              have hsz := sN2 kN2 hltN2
              have HS : Hid (∀ j, (h : j < N2.length) → j < kN2 + 1 → N2[kN2].size ≤ 1048576 → N2[j].size ≤ 1048576) := by
                intro j h hj he
                by_cases e : j = kN2
                · subst e; exact he
                · exact hsN2.out j h (by omega)
              simp only [List.getElem_map] at hc
              generalize N2[kN2] = s at hc hsz HS
              clear rN0 rD0 sN0 sD0 rN1 rD1 sN1 sD1 rN2 rD2 sN2 sD2
              by_cases hb1 : s.size ≤ 1048576
              case neg =>
                go_wp2
                go_ret
                exact ⟨⟨false, rfl, fun h => by cases h⟩, rfl⟩
              by_cases hb2 : zN2 + (s.size : Int) ≤ 1048576
              case neg =>
                go_wp2
                go_ret
                exact ⟨⟨false, rfl, fun h => by cases h⟩, rfl⟩
              go_wp2
              go_round
              case rel => exact ⟨kN2 + 1, _, by omega, by go_num, rfl, by omega, by omega, fun j h hj => HS.out j h hj hb1⟩
              case measure => simp [intOf]; omega
            have HN2 : Hid (∀ j, (h : j < N2.length) → N2[j].size ≤ 1048576) := fun j h => hsN2.out j h (by omega)
            clear hsN2
            by_cases hI2 : i2l ≤ 1048576
            case neg =>
              go_wp2
              go_ret
              exact ⟨⟨false, rfl, fun h => by cases h⟩, rfl⟩
            by_cases hI2z : zN2 + (i2l : Int) ≤ 1048576
            case neg =>
              go_wp2
              go_ret
              exact ⟨⟨false, rfl, fun h => by cases h⟩, rfl⟩
            by_cases hD2 : D2.length ≤ 1048576
            case neg =>
              go_wp2
              go_ret
              exact ⟨⟨false, rfl, fun h => by cases h⟩, rfl⟩
            by_cases hD2z : (zN2 + (i2l : Int)) + (D2.length : Int) ≤ 1048576
            case neg =>
              go_wp2
              go_ret
              exact ⟨⟨false, rfl, fun h => by cases h⟩, rfl⟩
            go_wp2
            go_loop [23, 29] (fun t i => ∃ (k : Nat) (z : Int), k ≤ D2.length ∧ i = .int .i64 k ∧ t = .int .i64 z ∧ 0 ≤ z ∧ z ≤ 1048576 ∧ Hid (∀ j, (h : j < D2.length) → j < k → D2[j].n ≤ 1048576)) (fun _ i => D2.length - (intOf i).toNat)
            case atStart => exact ⟨0, _, Nat.zero_le _, rfl, rfl, by omega, by omega, fun j h hk => by omega⟩
            case round =>
              obtain ⟨kD2, zD2, hkD2, rfl, rfl, hz0D2, hz1D2, hsD2⟩ := hrel
              by_cases hltD2 : kD2 < D2.length
              case pos =>
                obtain ⟨b, off, e, hc⟩ := rD2 kD2 (by simpa using hltD2)
                subst e
                have hsz := sD2 kD2 hltD2
                have HS : Hid (∀ j, (h : j < D2.length) → j < kD2 + 1 → D2[kD2].n ≤ 1048576 → D2[j].n ≤ 1048576) := by
                  intro j h hj he
                  by_cases e : j = kD2
                  · subst e; exact he
                  · exact hsD2.out j h (by omega)
                simp only [List.getElem_map, Sl.v] at hc
                generalize D2[kD2] = s at hc hsz HS
                obtain ⟨sa, sn, sc⟩ := s
                simp only at hc hsz HS
                clear rN0 rD0 sN0 sD0 rN1 rD1 sN1 sD1 rN2 rD2 sN2 sD2
                by_cases hb1 : sn ≤ 1048576
                case neg =>
                  go_wp2
                  go_ret
                  exact ⟨⟨false, rfl, fun h => by cases h⟩, rfl⟩
                by_cases hb2 : zD2 + (sn : Int) ≤ 1048576
                case neg =>
                  go_wp2
                  go_ret
                  exact ⟨⟨false, rfl, fun h => by cases h⟩, rfl⟩
                go_wp2
                go_round
                case rel => exact ⟨kD2 + 1, _, by omega, by go_num, rfl, by omega, by omega, fun j h hj => HS.out j h hj hb1⟩
                case measure => simp [intOf]; omega
              have HD2 : Hid (∀ j, (h : j < D2.length) → D2[j].n ≤ 1048576) := fun j h => hsD2.out j h (by omega)
              clear hsD2
              go_wp2
              go_ret
              exact ⟨⟨true, rfl, fun _ => ⟨⟨hN0, HN0.out, hI0, hD0, HD0.out⟩, ⟨hN1, HN1.out, hI1, hD1, HD1.out⟩, ⟨hN2, HN2.out, hI2, hD2, HD2.out⟩⟩⟩, rfl⟩

end Go.Proofs.Qxb6613968a
