/-
  Seat b6613197a. The walk of zzBytes_FnTermCountMemberIgnoresJoining (10): laid by a small program, one loop a list. By an AI agent.
-/
import Derived.Test.Qxb6613197aProg
import Derived.Test.Qxb6613197aBasic
namespace Go.Proofs.Qxb6613197a
open Go.RowKit
set_option linter.unusedVariables false
set_option linter.unusedSimpArgs false

/-- the lengths that the guard has seen to be at most 2^20 -/
structure Small (N : List ByteArray) : Prop where
  ln : N.length ≤ 1048576
  sn : ∀ j, (h : j < N.length) → N[j].size ≤ 1048576

/-- what the guard 10 answers -/
def Bytes10 (N0 N1 N2 : List ByteArray) (S0 S1 : ByteArray) (e : Ending) : Prop :=
  ∃ b : Bool, e = .returned (.bool b) ∧ (b = true → Small N0 ∧ S0.size ≤ 1048576 ∧ Small N1 ∧ S1.size ≤ 1048576 ∧ Small N2)

set_option maxHeartbeats 4000000 in
set_option maxRecDepth 100000 in
theorem bytes10_any (N0 N1 N2 : List ByteArray) (S0 S1 : ByteArray) (n0a n1a n2a : Option Addr) (n0c n1c n2c : Nat) (u1 u2 : Int) (w : World)
    (bN0 : N0.length ≤ maxLen) (sN0 : ∀ i, (h : i < N0.length) → N0[i].size ≤ maxLen) (rN0 : RowAt w n0a (N0.map Value.string))
    (bN1 : N1.length ≤ maxLen) (sN1 : ∀ i, (h : i < N1.length) → N1[i].size ≤ maxLen) (rN1 : RowAt w n1a (N1.map Value.string))
    (bN2 : N2.length ≤ maxLen) (sN2 : ∀ i, (h : i < N2.length) → N2[i].size ≤ maxLen) (rN2 : RowAt w n2a (N2.map Value.string))
    (bS0 : S0.size ≤ maxLen)
    (bS1 : S1.size ≤ maxLen) :
    Calls Try.prog 10 #[.slice n0a N0.length n0c, .int .u64 u1, .int .u64 u2, .string S0, .slice n1a N1.length n1c, .string S1, .slice n2a N2.length n2c] w fun e w' => Bytes10 N0 N1 N2 S0 S1 e ∧ w' = w := by
  unfold maxLen at *
  go_enter Try.func10, Try.ntmps10
  by_cases hN0 : N0.length ≤ 1048576
  case neg =>
    go_wp2
    go_ret
    exact ⟨⟨false, rfl, fun h => by cases h⟩, rfl⟩
  go_wp2
  go_loop [15, 16] (fun t i => ∃ (k : Nat) (z : Int), k ≤ N0.length ∧ i = .int .i64 k ∧ t = .int .i64 z ∧ 0 ≤ z ∧ z ≤ 1048576 ∧ Hid (∀ j, (h : j < N0.length) → j < k → N0[j].size ≤ 1048576)) (fun _ i => N0.length - (intOf i).toNat)
  case atStart => exact ⟨0, _, Nat.zero_le _, rfl, rfl, by omega, by omega, fun j h hk => by omega⟩
  case round =>
    obtain ⟨kN0, zN0, hkN0, rfl, rfl, hz0N0, hz1N0, hsN0⟩ := hrel
    by_cases hltN0 : kN0 < N0.length
    case pos =>
      obtain ⟨b, off, e, hc⟩ := rN0 kN0 (by simpa using hltN0)
      subst e
      have hsz := sN0 kN0 hltN0
      have HS : Hid (∀ j, (h : j < N0.length) → j < kN0 + 1 → N0[kN0].size ≤ 1048576 → N0[j].size ≤ 1048576) := by
        intro j h hj he
        by_cases e : j = kN0
        · subst e; exact he
        · exact hsN0.out j h (by omega)
      simp only [List.getElem_map] at hc
      generalize N0[kN0] = s at hc hsz HS
      clear rN0 sN0 rN1 sN1 rN2 sN2
      by_cases hb1 : s.size ≤ 1048576
      case neg =>
        go_wp2
        go_ret
        exact ⟨⟨false, rfl, fun h => by cases h⟩, rfl⟩
      by_cases hb2 : zN0 + (s.size : Int) ≤ 1048576
      case neg =>
        go_wp2
        go_ret
        exact ⟨⟨false, rfl, fun h => by cases h⟩, rfl⟩
      go_wp2
      go_round
      case rel => exact ⟨kN0 + 1, _, by omega, by go_num, rfl, by omega, by omega, fun j h hj => HS.out j h hj hb1⟩
      case measure => simp [intOf]; omega
    have HN0 : Hid (∀ j, (h : j < N0.length) → N0[j].size ≤ 1048576) := fun j h => hsN0.out j h (by omega)
    clear hsN0
    by_cases hS0 : S0.size ≤ 1048576
    case neg =>
      go_wp2
      go_ret
      exact ⟨⟨false, rfl, fun h => by cases h⟩, rfl⟩
    by_cases hS0z : zN0 + (S0.size : Int) ≤ 1048576
    case neg =>
      go_wp2
      go_ret
      exact ⟨⟨false, rfl, fun h => by cases h⟩, rfl⟩
    by_cases hN1 : N1.length ≤ 1048576
    case neg =>
      go_wp2
      go_ret
      exact ⟨⟨false, rfl, fun h => by cases h⟩, rfl⟩
    by_cases hN1z : (zN0 + (S0.size : Int)) + (N1.length : Int) ≤ 1048576
    case neg =>
      go_wp2
      go_ret
      exact ⟨⟨false, rfl, fun h => by cases h⟩, rfl⟩
    go_wp2
    go_loop [15, 17] (fun t i => ∃ (k : Nat) (z : Int), k ≤ N1.length ∧ i = .int .i64 k ∧ t = .int .i64 z ∧ 0 ≤ z ∧ z ≤ 1048576 ∧ Hid (∀ j, (h : j < N1.length) → j < k → N1[j].size ≤ 1048576)) (fun _ i => N1.length - (intOf i).toNat)
    case atStart => exact ⟨0, _, Nat.zero_le _, rfl, rfl, by omega, by omega, fun j h hk => by omega⟩
    case round =>
      obtain ⟨kN1, zN1, hkN1, rfl, rfl, hz0N1, hz1N1, hsN1⟩ := hrel
      by_cases hltN1 : kN1 < N1.length
      case pos =>
        obtain ⟨b, off, e, hc⟩ := rN1 kN1 (by simpa using hltN1)
        subst e
        have hsz := sN1 kN1 hltN1
        have HS : Hid (∀ j, (h : j < N1.length) → j < kN1 + 1 → N1[kN1].size ≤ 1048576 → N1[j].size ≤ 1048576) := by
          intro j h hj he
          by_cases e : j = kN1
          · subst e; exact he
          · exact hsN1.out j h (by omega)
        simp only [List.getElem_map] at hc
        generalize N1[kN1] = s at hc hsz HS
        clear rN0 sN0 rN1 sN1 rN2 sN2
        by_cases hb1 : s.size ≤ 1048576
        case neg =>
          go_wp2
          go_ret
          exact ⟨⟨false, rfl, fun h => by cases h⟩, rfl⟩
        by_cases hb2 : zN1 + (s.size : Int) ≤ 1048576
        case neg =>
          go_wp2
          go_ret
          exact ⟨⟨false, rfl, fun h => by cases h⟩, rfl⟩
        go_wp2
        go_round
        case rel => exact ⟨kN1 + 1, _, by omega, by go_num, rfl, by omega, by omega, fun j h hj => HS.out j h hj hb1⟩
        case measure => simp [intOf]; omega
      have HN1 : Hid (∀ j, (h : j < N1.length) → N1[j].size ≤ 1048576) := fun j h => hsN1.out j h (by omega)
      clear hsN1
      by_cases hS1 : S1.size ≤ 1048576
      case neg =>
        go_wp2
        go_ret
        exact ⟨⟨false, rfl, fun h => by cases h⟩, rfl⟩
      by_cases hS1z : zN1 + (S1.size : Int) ≤ 1048576
      case neg =>
        go_wp2
        go_ret
        exact ⟨⟨false, rfl, fun h => by cases h⟩, rfl⟩
      by_cases hN2 : N2.length ≤ 1048576
      case neg =>
        go_wp2
        go_ret
        exact ⟨⟨false, rfl, fun h => by cases h⟩, rfl⟩
      by_cases hN2z : (zN1 + (S1.size : Int)) + (N2.length : Int) ≤ 1048576
      case neg =>
        go_wp2
        go_ret
        exact ⟨⟨false, rfl, fun h => by cases h⟩, rfl⟩
      go_wp2
      go_loop [15, 18] (fun t i => ∃ (k : Nat) (z : Int), k ≤ N2.length ∧ i = .int .i64 k ∧ t = .int .i64 z ∧ 0 ≤ z ∧ z ≤ 1048576 ∧ Hid (∀ j, (h : j < N2.length) → j < k → N2[j].size ≤ 1048576)) (fun _ i => N2.length - (intOf i).toNat)
      case atStart => exact ⟨0, _, Nat.zero_le _, rfl, rfl, by omega, by omega, fun j h hk => by omega⟩
      case round =>
        obtain ⟨kN2, zN2, hkN2, rfl, rfl, hz0N2, hz1N2, hsN2⟩ := hrel
        by_cases hltN2 : kN2 < N2.length
        case pos =>
          obtain ⟨b, off, e, hc⟩ := rN2 kN2 (by simpa using hltN2)
          subst e
          have hsz := sN2 kN2 hltN2
          have HS : Hid (∀ j, (h : j < N2.length) → j < kN2 + 1 → N2[kN2].size ≤ 1048576 → N2[j].size ≤ 1048576) := by
            intro j h hj he
            by_cases e : j = kN2
            · subst e; exact he
            · exact hsN2.out j h (by omega)
          simp only [List.getElem_map] at hc
          generalize N2[kN2] = s at hc hsz HS
          clear rN0 sN0 rN1 sN1 rN2 sN2
          by_cases hb1 : s.size ≤ 1048576
          case neg =>
            go_wp2
            go_ret
            exact ⟨⟨false, rfl, fun h => by cases h⟩, rfl⟩
          by_cases hb2 : zN2 + (s.size : Int) ≤ 1048576
          case neg =>
            go_wp2
            go_ret
            exact ⟨⟨false, rfl, fun h => by cases h⟩, rfl⟩
          go_wp2
          go_round
          case rel => exact ⟨kN2 + 1, _, by omega, by go_num, rfl, by omega, by omega, fun j h hj => HS.out j h hj hb1⟩
          case measure => simp [intOf]; omega
        have HN2 : Hid (∀ j, (h : j < N2.length) → N2[j].size ≤ 1048576) := fun j h => hsN2.out j h (by omega)
        clear hsN2
        go_wp2
        go_ret
        exact ⟨⟨true, rfl, fun _ => ⟨⟨hN0, HN0.out⟩, hS0, ⟨hN1, HN1.out⟩, hS1, ⟨hN2, HN2.out⟩⟩⟩, rfl⟩

end Go.Proofs.Qxb6613197a
