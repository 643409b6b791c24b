/-
  Seat b6613197a. The walk of ZZtermCount (8) on a member's election. By an AI agent.
-/
import Derived.Test.Qxb6613197aTerm
namespace Go.Proofs.Qxb6613197a
open Go.RowKit
set_option linter.unusedVariables false
set_option linter.unusedSimpArgs false

set_option maxRecDepth 100000 in
theorem zz_member {w : World} {B : Nat} {lt lc : Int} {s : ByteArray} {a : Option Addr} {n ac : Nat} {vj : Value} (h : El w B (.slice a n ac) lt lc s vj) (hn0 : 0 < n) (hn : n ≤ 1048576) :
    Calls Try.prog 8 #[.pointer (some ⟨B, 0, none⟩)] w fun e w' => e = .returned (.tuple #[.agg #[.slice a n ac, .int .u64 lt, .int .u64 lc], .int .i64 ((n : Int) / 2 + 1)]) ∧ Below w.heap.size w w' := by
  have hE : Hid (El (w.alloc (.cells #[.slice none 0 0, .int .u64 0, .int .u64 0] 29)) B (.slice a n ac) lt lc s vj) := h.later ((Below.refl _ _).alloc (Nat.le_refl _) _)
  clear h
  go_enter Try.func8, Try.ntmps8
  go_wp2_with fail
  refine (termCount_member hE.out hn0 hn).mono ?_
  rintro e w1 ⟨rfl, hb⟩
  have hsz : w.heap.size < (w.alloc (.cells #[.slice none 0 0, .int .u64 0, .int .u64 0] 29)).heap.size := by simp
  have hsz1 : w.heap.size + 1 ≤ w1.heap.size := Nat.le_trans (Nat.le_of_eq (by simp)) hb.size
  have d0 := (hb.cell (p := ⟨w.heap.size, 0, none⟩) hsz).trans (World.cell?_alloc_new _ _ _ _)
  have d1 := (hb.cell (p := ⟨w.heap.size, 1, none⟩) hsz).trans (World.cell?_alloc_new _ _ _ _)
  have d2 := (hb.cell (p := ⟨w.heap.size, 2, none⟩) hsz).trans (World.cell?_alloc_new _ _ _ _)
  have f0 := (hb.frozen (p := ⟨w.heap.size, 0, none⟩) hsz).trans (World.frozen?_alloc_new _ _ _ _)
  have f1 := (hb.frozen (p := ⟨w.heap.size, 1, none⟩) hsz).trans (World.frozen?_alloc_new _ _ _ _)
  have f2 := (hb.frozen (p := ⟨w.heap.size, 2, none⟩) hsz).trans (World.frozen?_alloc_new _ _ _ _)
  have hb2 : Hid (Below w.heap.size w w1) := ((Below.refl _ w).alloc (Nat.le_refl _) _).trans (hb.mono (Nat.le_of_lt hsz))
  clear hb hsz
  simp at d0 d1 d2
  go_wp2
  exact bodyPost_ret (v := .tuple #[.agg #[.slice a n ac, .int .u64 lt, .int .u64 lc], .int .i64 ((n : Int) / 2 + 1)]) (by simp [results, Try.results8, go_sem, d0, d1, d2]) rfl ⟨rfl, ((hb2.out.setCell (Nat.le_refl _) _).setCell (Nat.le_refl _) _).setCell (Nat.le_refl _) _⟩

end Go.Proofs.Qxb6613197a
