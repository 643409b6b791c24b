/-
  Seat b6613197a. The walk of ZZtermCount (8) on a waiting election. By an AI agent.
-/
import Derived.Test.Qxb6613197aWait
namespace Go.Proofs.Qxb6613197a
open Go.RowKit
set_option linter.unusedVariables false
set_option linter.unusedSimpArgs false

set_option maxRecDepth 100000 in
theorem zz_wait {w : World} {B : Nat} {lt lc : Int} {s : ByteArray} {a : Option Addr} {ac : Nat} (L : List ByteArray) (ja : Option Addr) (n jc : Nat) (h : El w B (.slice a 0 ac) lt lc s (.slice ja n jc)) (hl : L.length = n) (hn : n ≤ 1048576) (hh : Held (· < w.heap.size) ja n) (hrow : RowAt w ja (L.map Value.string)) :
    Calls Try.prog 8 #[.pointer (some ⟨B, 0, none⟩)] w fun e w' => ∃ a c, e = .returned (.tuple #[.agg #[.slice a (without L s).length c, .int .u64 0, .int .u64 0], .int .i64 (((without L s).length : Int) / 2 + 1)]) ∧ RowAt w' a ((without L s).map Value.string) ∧ Held (Span w.heap.size w'.heap.size) a (without L s).length ∧ Below w.heap.size w w' := by
  have hE : Hid (El (w.alloc (.cells #[.slice none 0 0, .int .u64 0, .int .u64 0] 29)) B (.slice a 0 ac) lt lc s (.slice ja n jc)) := h.later ((Below.refl _ _).alloc (Nat.le_refl _) _)
  have hR : Hid (RowAt (w.alloc (.cells #[.slice none 0 0, .int .u64 0, .int .u64 0] 29)) ja (L.map Value.string)) := hrow.same (Same.of_below (S := (· < w.heap.size)) ((Below.refl _ _).alloc (Nat.le_refl _) _) (fun b h => h)) (by rw [List.length_map, hl]; exact hh)
  have hH : Hid (Held (· < (w.alloc (.cells #[.slice none 0 0, .int .u64 0, .int .u64 0] 29)).heap.size) ja n) := hh.mono fun b hb => by simp; omega
  clear h hh hrow
  go_enter Try.func8, Try.ntmps8
  go_wp2_with fail
  refine (termCount_wait L ja n jc hE.out hl hn hH.out hR.out).mono ?_
  rintro e w1 ⟨a1, c1, rfl, hr1, hh1, hb⟩
  obtain ⟨g1, d0, d1, d2, f0, f1, f2⟩ := (Z3.new w).later hb
  have hb2 : Hid (Below w.heap.size w w1) := ((Below.refl _ w).alloc (Nat.le_refl _) _).trans (hb.mono (by simp))
  have hh2 : Hid (Held (Span (w.heap.size + 1) w1.heap.size) a1 (without L s).length) := hh1.mono fun b h => by simpa using h
  have hr2 : Hid (RowAt w1 a1 ((without L s).map Value.string)) := hr1
  clear hb hh1 hr1
  go_wp2
  exact bodyPost_ret (v := .tuple #[.agg #[.slice a1 (without L s).length c1, .int .u64 0, .int .u64 0], .int .i64 (((without L s).length : Int) / 2 + 1)]) (by simp [results, Try.results8, go_sem, d0, d1, d2]) rfl ⟨a1, c1, rfl, three_end hr2.out hh2.out hb2.out _ _ _⟩

end Go.Proofs.Qxb6613197a
