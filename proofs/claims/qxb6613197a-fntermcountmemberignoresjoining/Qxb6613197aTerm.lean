/-
  Seat b6613197a. The walks of termCount (11) and ZZtermCount (8). By an AI agent.
-/
import Derived.Test.Qxb6613197aElect
namespace Go.Proofs.Qxb6613197a
open Go.RowKit
set_option linter.unusedVariables false
set_option linter.unusedSimpArgs false

set_option maxRecDepth 100000 in
set_option maxHeartbeats 1600000 in
theorem termCount_member {w : World} {B : Nat} {lt lc : Int} {s : ByteArray} {a : Option Addr} {n ac : Nat} {vj : Value} (h : El w B (.slice a n ac) lt lc s vj) (hn0 : 0 < n) (hn : n ≤ 1048576) :
    Calls Try.prog 11 #[.pointer (some ⟨B, 0, none⟩)] w fun e w' => e = .returned (.tuple #[.agg #[.slice a n ac, .int .u64 lt, .int .u64 lc], .int .i64 ((n : Int) / 2 + 1)]) ∧ Below w.heap.size w w' := by
  have hBl := h.blk
  have c0 := h.c0
  have c1 := h.c1
  have c2 := h.c2
  have hE : Hid (El (w.alloc (.cells #[.slice none 0 0, .int .u64 0, .int .u64 0] 29)) B (.slice a n ac) lt lc s vj) := h.later ((Below.refl _ _).alloc (Nat.le_refl _) _)
  have H : Hid (El w B (.slice a n ac) lt lc s vj) := h
  clear h
  go_enter Try.func11, Try.ntmps11
  go_wp2_with fail
  refine (waiting_no hE.out hn0).mono ?_
  rintro e w9 ⟨rfl, hw9⟩
  rw [hw9]
  clear hw9
  go_wp2
  go_region_with (go_at_call 13; go_must (refine (majority_any (a := a) (n := n) (ac := ac) (lt := lt) (lc := lc) (s := s) (vj := vj) ?_ hn).mono ?_; exact hE.out.later ((Below.refl _ _).drew); rintro e w1 ⟨rfl, hw1⟩; rw [hw1]; clear hw1))
  all_goals go_wp2
  all_goals (refine bodyPost_ret (v := .tuple #[.agg #[.slice a n ac, .int .u64 lt, .int .u64 lc], .int .i64 ((n : Int) / 2 + 1)]) (by simp [results, Try.results11, go_sem, Act.put]) rfl ⟨rfl, ((Below.refl _ _).alloc (Nat.le_refl _) _).drew⟩)

end Go.Proofs.Qxb6613197a
