/-
  Seat b6613197a. The walk of FnTermCountMemberIgnoresJoining (4). Its head is laid by a small program, one loop a list. By an AI agent.
-/
import Derived.Test.Qxb6613197aBytes10
import Derived.Test.Qxb6613197aZzMem
namespace Go.Proofs.Qxb6613197a
open Go.RowKit
set_option linter.unusedVariables false
set_option linter.unusedSimpArgs false

theorem below_drewN' (w : World) (m : Nat) : Below w.heap.size w (w.drewN m) := by
  induction m with
  | zero => exact Below.refl _ _
  | succ m ih => exact ih.drew

set_option maxHeartbeats 4000000 in
set_option maxRecDepth 100000 in
theorem main4_any (N0 N1 N2 : List ByteArray) (S0 S1 : ByteArray) (n0a n1a n2a : Option Addr) (n0c n1c n2c : Nat) (u1 u2 : Int) (w : World)
    (bN0 : N0.length ≤ maxLen) (sN0 : ∀ i, (h : i < N0.length) → N0[i].size ≤ maxLen) (rN0 : RowAt w n0a (N0.map Value.string)) (hN0 : Held (· < w.heap.size) n0a N0.length) (nN0 : n0a = none → N0.length = 0 ∧ n0c = 0)
    (bN1 : N1.length ≤ maxLen) (sN1 : ∀ i, (h : i < N1.length) → N1[i].size ≤ maxLen) (rN1 : RowAt w n1a (N1.map Value.string)) (hN1 : Held (· < w.heap.size) n1a N1.length) (nN1 : n1a = none → N1.length = 0 ∧ n1c = 0)
    (bN2 : N2.length ≤ maxLen) (sN2 : ∀ i, (h : i < N2.length) → N2[i].size ≤ maxLen) (rN2 : RowAt w n2a (N2.map Value.string)) (hN2 : Held (· < w.heap.size) n2a N2.length) (nN2 : n2a = none → N2.length = 0 ∧ n2c = 0)
    (bS0 : S0.size ≤ maxLen) (bS1 : S1.size ≤ maxLen) :
    Calls Try.prog 4 #[.slice n0a N0.length n0c, .int .u64 u1, .int .u64 u2, .string S0, .slice n1a N1.length n1c, .string S1, .slice n2a N2.length n2c] w fun e w' => e = .returned (.bool true) ∧ Below w.heap.size w w' := by
  go_enter Try.func4, Try.ntmps4
  go_wp2_with fail
  refine (bytes10_any N0 N1 N2 S0 S1 n0a n1a n2a n0c n1c n2c u1 u2 w bN0 sN0 rN0 bN1 sN1 rN1 bN2 sN2 rN2 bS0 bS1).mono ?_
  rintro e w9 ⟨⟨b, rfl, hb⟩, hw9⟩
  rw [hw9]
  clear hw9 w9
  cases b
  case false =>
    go_wp2
    go_ret
    exact ⟨rfl, Below.refl _ _⟩
  obtain ⟨⟨l0, s0⟩, q0, ⟨l1, s1⟩, q1, ⟨l2, s2⟩⟩ := hb rfl
  clear hb bN0 bN1 bN2 sN0 sN1 sN2 bS0 bS1
  by_cases m0 : N0.length ≤ 4096
  case neg =>
    go_wp2
    go_ret
    exact ⟨rfl, Below.refl _ _⟩
  by_cases m1 : N1.length ≤ 4096
  case neg =>
    go_wp2
    go_ret
    exact ⟨rfl, Below.refl _ _⟩
  by_cases m2 : N2.length ≤ 4096
  case neg =>
    go_wp2
    go_ret
    exact ⟨rfl, Below.refl _ _⟩
  by_cases p1 : (S0.size : Int) + (S1.size : Int) ≤ 1048576
  case neg =>
    go_wp2
    go_ret
    exact ⟨rfl, Below.refl _ _⟩
  go_wp2
  go_loop [15, 16] (fun t i => ∃ (k : Nat) (z : Int), k ≤ N0.length ∧ i = .int .i64 k ∧ t = .int .i64 z ∧ 0 ≤ z ∧ z ≤ 1048576) (fun _ i => N0.length - (intOf i).toNat)
  case atStart => exact ⟨0, _, Nat.zero_le _, rfl, rfl, by omega, by omega⟩
  case round =>
    obtain ⟨k0, z0, hk0, rfl, rfl, hz00, hz10⟩ := hrel
    by_cases hlt0 : k0 < N0.length
    case pos =>
      obtain ⟨b, off, e, hc⟩ := rN0 k0 (by simpa using hlt0)
      subst e
      have hsz := s0 k0 hlt0
      simp only [List.getElem_map] at hc
      generalize N0[k0] = s at hc hsz
      clear rN0 rN1 rN2 hN0 hN1 hN2 s0 s1 s2 nN0 nN1 nN2
      by_cases hb2 : z0 + (16 + (s.size : Int)) ≤ 1048576
      case neg =>
        go_wp2
        go_ret
        exact ⟨rfl, Below.refl _ _⟩
      go_wp2
      go_round
      case rel => exact ⟨k0 + 1, _, by omega, by go_num, rfl, by omega, by omega⟩
      case measure => simp [intOf]; omega
    go_wp2
    go_loop [15, 17] (fun t i => ∃ (k : Nat) (z : Int), k ≤ N1.length ∧ i = .int .i64 k ∧ t = .int .i64 z ∧ 0 ≤ z ∧ z ≤ 1048576) (fun _ i => N1.length - (intOf i).toNat)
    case atStart => exact ⟨0, _, Nat.zero_le _, rfl, rfl, by omega, by omega⟩
    case round =>
      obtain ⟨k1, z1, hk1, rfl, rfl, hz01, hz11⟩ := hrel
      by_cases hlt1 : k1 < N1.length
      case pos =>
        obtain ⟨b, off, e, hc⟩ := rN1 k1 (by simpa using hlt1)
        subst e
        have hsz := s1 k1 hlt1
        simp only [List.getElem_map] at hc
        generalize N1[k1] = s at hc hsz
        clear rN0 rN1 rN2 hN0 hN1 hN2 s0 s1 s2 nN0 nN1 nN2
        by_cases hb2 : z1 + (16 + (s.size : Int)) ≤ 1048576
        case neg =>
          go_wp2
          go_ret
          exact ⟨rfl, Below.refl _ _⟩
        go_wp2
        go_round
        case rel => exact ⟨k1 + 1, _, by omega, by go_num, rfl, by omega, by omega⟩
        case measure => simp [intOf]; omega
      go_wp2
      go_loop [15, 18] (fun t i => ∃ (k : Nat) (z : Int), k ≤ N2.length ∧ i = .int .i64 k ∧ t = .int .i64 z ∧ 0 ≤ z ∧ z ≤ 1048576) (fun _ i => N2.length - (intOf i).toNat)
      case atStart => exact ⟨0, _, Nat.zero_le _, rfl, rfl, by omega, by omega⟩
      case round =>
        obtain ⟨k2, z2, hk2, rfl, rfl, hz02, hz12⟩ := hrel
        by_cases hlt2 : k2 < N2.length
        case pos =>
          obtain ⟨b, off, e, hc⟩ := rN2 k2 (by simpa using hlt2)
          subst e
          have hsz := s2 k2 hlt2
          simp only [List.getElem_map] at hc
          generalize N2[k2] = s at hc hsz
          clear rN0 rN1 rN2 hN0 hN1 hN2 s0 s1 s2 nN0 nN1 nN2
          by_cases hb2 : z2 + (16 + (s.size : Int)) ≤ 1048576
          case neg =>
            go_wp2
            go_ret
            exact ⟨rfl, Below.refl _ _⟩
          go_wp2
          go_round
          case rel => exact ⟨k2 + 1, _, by omega, by go_num, rfl, by omega, by omega⟩
          case measure => simp [intOf]; omega
        by_cases hz : N0.length = 0
        case pos =>
          have hz' : ((N0.length : Int) == 0) = true := by rw [hz]; rfl
          go_wp2
          go_ret
          exact ⟨rfl, Below.refl _ _⟩
        have hz' : ((N0.length : Int) == 0) = false := by rw [beq_eq_false_iff_ne]; omega
        have hpos : 0 < N0.length := by omega
        go_wp2_with fail
        refine (clone_any N0 n0a n0c w l0 nN0 hN0 rN0).mono ?_
        rintro e wa ⟨aa, ac, rfl, _, _, ra, ha, ba⟩
        rw [List.length_map] at *
        have sa : w.heap.size ≤ wa.heap.size := ba.size
        go_wp2_with fail
        refine (clone_any N0 n0a n0c wa l0 nN0 (hN0.mono fun b h => Nat.lt_of_lt_of_le h sa) (rN0.same (Same.of_below ba fun b h => h) (by rw [List.length_map]; exact hN0))).mono ?_
        rintro e wb ⟨ab, bc, rfl, _, _, rb, hb, bb⟩
        rw [List.length_map] at *
        have sb : wa.heap.size ≤ wb.heap.size := bb.size
        have bwb : Below w.heap.size w wb := ba.trans (bb.mono sa)
        go_wp2_with fail
        refine (clone_any N1 n1a n1c wb l1 nN1 (hN1.mono fun b h => Nat.lt_of_lt_of_le h (Nat.le_trans sa sb)) (rN1.same (Same.of_below bwb fun b h => h) (by rw [List.length_map]; exact hN1))).mono ?_
        rintro e wc ⟨a1, c1, rfl, _, _, _, _, bc'⟩
        rw [List.length_map] at *
        have sc : wb.heap.size ≤ wc.heap.size := bc'.size
        have bwc : Below w.heap.size w wc := bwb.trans (bc'.mono (Nat.le_trans sa sb))
        go_wp2_with fail
        refine (clone_any N2 n2a n2c wc l2 nN2 (hN2.mono fun b h => Nat.lt_of_lt_of_le h (Nat.le_trans sa (Nat.le_trans sb sc))) (rN2.same (Same.of_below bwc fun b h => h) (by rw [List.length_map]; exact hN2))).mono ?_
        rintro e wd ⟨a2, c2, rfl, _, _, _, _, bd⟩
        rw [List.length_map] at *
        have sd : wc.heap.size ≤ wd.heap.size := bd.size
        go_wp2_with fail
        refine (newElection_any aa a1 N0.length ac N1.length c1 u1 u2 0 0 S0 wd).mono ?_
        rintro e we ⟨rfl, E1, be⟩
        have se : wd.heap.size ≤ we.heap.size := be.size
        go_wp2_with fail
        refine (newElection_any ab a2 N0.length bc N2.length c2 u1 u2 0 0 S1 we).mono ?_
        rintro e wf ⟨rfl, E2, bf⟩
        have sf : we.heap.size ≤ wf.heap.size := bf.size
        have E1' := E1.later bf
        clear E1
        go_wp2_with fail
        refine (zz_member E1' hpos l0).mono ?_
        rintro e wg ⟨rfl, bg⟩
        have sg : wf.heap.size ≤ wg.heap.size := bg.size
        have E2' : Hid (El (wg.alloc (.cells #[.slice aa N0.length ac, .int .u64 u1, .int .u64 u2] 29)) we.heap.size (.slice ab N0.length bc) u1 u2 S1 (.slice a2 N2.length c2)) := E2.later (bg.alloc sg _)
        clear E1' E2
        go_wp2_with fail
        refine (zz_member E2'.out hpos l0).mono ?_
        rintro e wh ⟨rfl, bh⟩
        clear E2'
        have hsz : wg.heap.size < (wg.alloc (.cells #[.slice aa N0.length ac, .int .u64 u1, .int .u64 u2] 29)).heap.size := by simp
        have hsz1 : wg.heap.size < wh.heap.size := Nat.lt_of_lt_of_le hsz bh.size
        have d0 := (bh.cell (p := ⟨wg.heap.size, 0, none⟩) hsz).trans (World.cell?_alloc_new _ _ _ _)
        have d1 := (bh.cell (p := ⟨wg.heap.size, 1, none⟩) hsz).trans (World.cell?_alloc_new _ _ _ _)
        have d2 := (bh.cell (p := ⟨wg.heap.size, 2, none⟩) hsz).trans (World.cell?_alloc_new _ _ _ _)
        simp at d0 d1 d2
        have A1 : (N0.length : Int) < 2 * ((N0.length : Int) / 2 + 1) := by omega
        have A2 : decide (2 * ((N0.length : Int) / 2) ≤ (N0.length : Int)) = true := decide_eq_true (by omega)
        have bwd : Below w.heap.size w wd := bwc.trans (bd.mono (by omega))
        have bwg : Below w.heap.size w wg := ((bwd.trans (be.mono (by omega))).trans (bf.mono (by omega))).trans (bg.mono (by omega))
        have HB : Hid (Below w.heap.size w (wh.alloc (.cells #[.slice ab N0.length bc, .int .u64 u1, .int .u64 u2] 29))) := ((bwg.alloc (by omega) _).trans (bh.mono (by simp; omega))).alloc (by omega) _
        have R0 : Hid (RowAt (wh.alloc (.cells #[.slice ab N0.length bc, .int .u64 u1, .int .u64 u2] 29)) n0a (N0.map Value.string)) := rN0.same (Same.of_below HB.out fun b h => h) (by rw [List.length_map]; exact hN0)
        have bag : Below wa.heap.size wa (wh.alloc (.cells #[.slice ab N0.length bc, .int .u64 u1, .int .u64 u2] 29)) := (((((((bb.trans (bc'.mono (by omega))).trans (bd.mono (by omega))).trans (be.mono (by omega))).trans (bf.mono (by omega))).trans (bg.mono (by omega))).alloc (by omega) _).trans (bh.mono (by simp; omega))).alloc (by omega) _
        have RA : Hid (RowAt (wh.alloc (.cells #[.slice ab N0.length bc, .int .u64 u1, .int .u64 u2] 29)) aa (N0.map Value.string)) := ra.same (Same.of_below (S := Span w.heap.size wa.heap.size) bag fun b h => h.2) (by rw [List.length_map]; exact ha)
        have bbg : Below wb.heap.size wb (wh.alloc (.cells #[.slice ab N0.length bc, .int .u64 u1, .int .u64 u2] 29)) := ((((((bc'.trans (bd.mono (by omega))).trans (be.mono (by omega))).trans (bf.mono (by omega))).trans (bg.mono (by omega))).alloc (by omega) _).trans (bh.mono (by simp; omega))).alloc (by omega) _
        have RB : Hid (RowAt (wh.alloc (.cells #[.slice ab N0.length bc, .int .u64 u1, .int .u64 u2] 29)) ab (N0.map Value.string)) := rb.same (Same.of_below (S := Span wa.heap.size wb.heap.size) bbg fun b h => h.2) (by rw [List.length_map]; exact hb)
        clear ra rb rN0 rN1 rN2 hN0 hN1 hN2 nN0 nN1 nN2 s0 s1 s2 ha hb ba bb bc' bd be bf bg bh bwb bwc bwd bwg bag bbg
        go_wp2_with fail
        refine (same_same aa n0a N0.length ac n0c N0 _ rfl l0 RA.out R0.out).mono ?_
        rintro e w9 ⟨rfl, m, hw9⟩
        rw [hw9]
        clear hw9 w9
        go_wp2_with fail
        refine (same_same ab n0a N0.length bc n0c N0 _ rfl l0 (RB.out.drewN m) (R0.out.drewN m)).mono ?_
        rintro e w9 ⟨rfl, m2, hw9⟩
        rw [hw9]
        clear hw9 w9
        go_wp2
        go_ret
        exact ⟨rfl, HB.out.trans ((below_drewN' _ _).mono HB.out.size)⟩


end Go.Proofs.Qxb6613197a
