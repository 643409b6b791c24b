/-
  Seat b6613197a. The walk of termCount (11) on a waiting election. By an AI agent.
-/
import Derived.Test.Qxb6613197aElect
import Derived.Deep.DeepCutAuto
namespace Go.Proofs.Qxb6613197a
open Go.RowKit
set_option linter.unusedVariables false
set_option linter.unusedSimpArgs false

/-- a new struct, not yet filled -/
structure Z3 (w : World) (b : Nat) : Prop where
  lt : b < w.heap.size
  d0 : w.cell? ⟨b, 0, none⟩ = some (.slice none 0 0)
  d1 : w.cell? ⟨b, 1, none⟩ = some (.int .u64 0)
  d2 : w.cell? ⟨b, 2, none⟩ = some (.int .u64 0)
  f0 : w.frozen? ⟨b, 0, none⟩ = false
  f1 : w.frozen? ⟨b, 1, none⟩ = false
  f2 : w.frozen? ⟨b, 2, none⟩ = false
theorem Z3.later {w w' : World} {b : Nat} (h : Z3 w b) (hb : Below w.heap.size w w') : Z3 w' b :=
  ⟨Nat.lt_of_lt_of_le h.lt hb.size, (hb.cell (p := ⟨b, 0, none⟩) h.lt).trans h.d0, (hb.cell (p := ⟨b, 1, none⟩) h.lt).trans h.d1, (hb.cell (p := ⟨b, 2, none⟩) h.lt).trans h.d2, (hb.frozen (p := ⟨b, 0, none⟩) h.lt).trans h.f0, (hb.frozen (p := ⟨b, 1, none⟩) h.lt).trans h.f1, (hb.frozen (p := ⟨b, 2, none⟩) h.lt).trans h.f2⟩
theorem Z3.new (w : World) : Z3 (w.alloc (.cells #[.slice none 0 0, .int .u64 0, .int .u64 0] 29)) w.heap.size :=
  ⟨by simp, by rw [World.cell?_alloc_new]; rfl, by rw [World.cell?_alloc_new]; rfl, by rw [World.cell?_alloc_new]; rfl, World.frozen?_alloc_new _ _ _ _, World.frozen?_alloc_new _ _ _ _, World.frozen?_alloc_new _ _ _ _⟩
theorem Z3.one (w : World) : Z3 (w.alloc (.cells #[.slice none 0 0, .int .u64 0, .int .u64 0] 29)).drew w.heap.size := (Z3.new w).later (Below.refl _ _).drew
theorem Z3.two (w : World) : Z3 ((w.alloc (.cells #[.slice none 0 0, .int .u64 0, .int .u64 0] 29)).alloc (.cells #[.slice none 0 0, .int .u64 0, .int .u64 0] 29)).drew w.heap.size := (Z3.new w).later (((Below.refl _ _).alloc (Nat.le_refl _) _).drew)
theorem Z3.two' (w : World) : Z3 ((w.alloc (.cells #[.slice none 0 0, .int .u64 0, .int .u64 0] 29)).alloc (.cells #[.slice none 0 0, .int .u64 0, .int .u64 0] 29)).drew (w.heap.size + 1) := by
  have := (Z3.new (w.alloc (.cells #[.slice none 0 0, .int .u64 0, .int .u64 0] 29))).later (Below.refl _ _).drew
  simpa using this

/-- behind the build of the second struct -/
structure Mid (w W : World) (b : Nat) (v : Value) (a1 : Option Addr) (L' : List ByteArray) : Prop where
  e0 : W.cell? ⟨b, 0, none⟩ = some v
  e1 : W.cell? ⟨b, 1, none⟩ = some (.int .u64 0)
  e2 : W.cell? ⟨b, 2, none⟩ = some (.int .u64 0)
  z : Z3 W w.heap.size
  lt : w.heap.size < b
  row : RowAt W a1 (L'.map Value.string)
  held : Held (Span (w.heap.size + 1) W.heap.size) a1 L'.length
  bel : Below w.heap.size w W

theorem mid_a {w w1 : World} {a1 : Option Addr} {L' : List ByteArray} {v : Value} (hr : RowAt w1 a1 (L'.map Value.string)) (hh : Held (Span (w.alloc (.cells #[.slice none 0 0, .int .u64 0, .int .u64 0] 29)).drew.heap.size w1.heap.size) a1 L'.length)
    (hb : Below (w.alloc (.cells #[.slice none 0 0, .int .u64 0, .int .u64 0] 29)).drew.heap.size (w.alloc (.cells #[.slice none 0 0, .int .u64 0, .int .u64 0] 29)).drew w1) :
    Mid w (w1.alloc (.cells #[v, .int .u64 0, .int .u64 0] 29)) w1.heap.size v a1 L' := by
  have hs : w.heap.size + 1 ≤ w1.heap.size := Nat.le_trans (Nat.le_of_eq (by simp)) hb.size
  have hal : Below w1.heap.size w1 (w1.alloc (.cells #[v, .int .u64 0, .int .u64 0] 29)) := (Below.refl _ _).alloc (Nat.le_refl _) _
  have hh' : Held (Span (w.heap.size + 1) w1.heap.size) a1 L'.length := hh.mono fun b h => by simpa using h
  refine ⟨by rw [World.cell?_alloc_new]; rfl, by rw [World.cell?_alloc_new]; rfl, by rw [World.cell?_alloc_new]; rfl, ((Z3.one w).later hb).later hal, by omega, hr.same (Same.of_below (S := Span (w.heap.size + 1) w1.heap.size) hal fun b h => h.2) (by rw [List.length_map]; exact hh'), hh'.mono fun b h => ⟨h.1, by have := h.2; simp; omega⟩, ?_⟩
  exact ((((Below.refl _ w).alloc (Nat.le_refl _) _).drew).trans (hb.mono (by simp))).trans (hal.mono (by omega))

theorem below_three (w1 : World) (b : Nat) (u0 u1 u2 : Value) : Below b w1 (((w1.setCell ⟨b, 0, none⟩ u0).setCell ⟨b, 1, none⟩ u1).setCell ⟨b, 2, none⟩ u2) := by
  have h0 := (Below.refl b w1).setCell (p := ⟨b, 0, none⟩) (Nat.le_refl _) u0
  have h1 := h0.setCell (p := ⟨b, 1, none⟩) (Nat.le_refl _) u1
  exact h1.setCell (p := ⟨b, 2, none⟩) (Nat.le_refl _) u2
theorem same_three {S : Nat → Prop} (w1 : World) (b : Nat) (u0 u1 u2 : Value) (h : ¬ S b) : Same S w1 (((w1.setCell ⟨b, 0, none⟩ u0).setCell ⟨b, 1, none⟩ u1).setCell ⟨b, 2, none⟩ u2) :=
  ((Same.setCell w1 ⟨b, 0, none⟩ u0 h).trans (Same.setCell _ ⟨b, 1, none⟩ u1 h)).trans (Same.setCell _ ⟨b, 2, none⟩ u2 h)

theorem mid_b {w w1 : World} {a1 : Option Addr} {L' : List ByteArray} {v : Value} (hr : RowAt w1 a1 (L'.map Value.string)) (hh : Held (Span ((w.alloc (.cells #[.slice none 0 0, .int .u64 0, .int .u64 0] 29)).alloc (.cells #[.slice none 0 0, .int .u64 0, .int .u64 0] 29)).drew.heap.size w1.heap.size) a1 L'.length)
    (hb : Below ((w.alloc (.cells #[.slice none 0 0, .int .u64 0, .int .u64 0] 29)).alloc (.cells #[.slice none 0 0, .int .u64 0, .int .u64 0] 29)).drew.heap.size ((w.alloc (.cells #[.slice none 0 0, .int .u64 0, .int .u64 0] 29)).alloc (.cells #[.slice none 0 0, .int .u64 0, .int .u64 0] 29)).drew w1) :
    Mid w (((w1.setCell ⟨w.heap.size + 1, 0, none⟩ v).setCell ⟨w.heap.size + 1, 1, none⟩ (.int .u64 0)).setCell ⟨w.heap.size + 1, 2, none⟩ (.int .u64 0)) (w.heap.size + 1) v a1 L' := by
  have hs : w.heap.size + 2 ≤ w1.heap.size := Nat.le_trans (Nat.le_of_eq (by simp)) hb.size
  have q := (Z3.two' w).later hb
  have hal := below_three w1 (w.heap.size + 1) v (.int .u64 0) (.int .u64 0)
  have hsame := same_three (S := Span (w.heap.size + 2) w1.heap.size) w1 (w.heap.size + 1) v (.int .u64 0) (.int .u64 0) (fun h => by have := h.1; omega)
  have hh' : Held (Span (w.heap.size + 2) w1.heap.size) a1 L'.length := hh.mono fun b h => by simpa using h
  have z0 := (Z3.two w).later hb
  refine ⟨by simp [go_sem, q.d0, q.d1, q.d2], by simp [go_sem, q.d0, q.d1, q.d2], by simp [go_sem, q.d0, q.d1, q.d2], ⟨by simp; omega, by simp [go_sem, z0.d0], by simp [go_sem, z0.d1], by simp [go_sem, z0.d2], by simp [go_sem, z0.f0], by simp [go_sem, z0.f1], by simp [go_sem, z0.f2]⟩, by omega, hr.same hsame (by rw [List.length_map]; exact hh'), hh'.mono fun b h => ⟨by have := h.1; omega, by have := h.2; simp; omega⟩, ?_⟩
  exact ((((Below.refl _ w).alloc (Nat.le_refl _) _).alloc (by simp) _).drew.trans (hb.mono (by simp; omega))).trans (hal.mono (by omega))

theorem three_end {w wc : World} {a1 : Option Addr} {L' : List ByteArray} (hrow : RowAt wc a1 (L'.map Value.string)) (hheld : Held (Span (w.heap.size + 1) wc.heap.size) a1 L'.length) (hbel : Below w.heap.size w wc) (u0 u1 u2 : Value) :
    RowAt (((wc.setCell ⟨w.heap.size, 0, none⟩ u0).setCell ⟨w.heap.size, 1, none⟩ u1).setCell ⟨w.heap.size, 2, none⟩ u2) a1 (L'.map Value.string) ∧ Held (Span w.heap.size (((wc.setCell ⟨w.heap.size, 0, none⟩ u0).setCell ⟨w.heap.size, 1, none⟩ u1).setCell ⟨w.heap.size, 2, none⟩ u2).heap.size) a1 L'.length ∧ Below w.heap.size w (((wc.setCell ⟨w.heap.size, 0, none⟩ u0).setCell ⟨w.heap.size, 1, none⟩ u1).setCell ⟨w.heap.size, 2, none⟩ u2) := by
  have hal := below_three wc w.heap.size u0 u1 u2
  have hsame := same_three (S := Span (w.heap.size + 1) wc.heap.size) wc w.heap.size u0 u1 u2 (fun h => by have := h.1; omega)
  refine ⟨hrow.same hsame (by rw [List.length_map]; exact hheld), hheld.mono fun b h => ⟨by have := h.1; omega, Nat.lt_of_lt_of_le h.2 hal.size⟩, hbel.trans hal⟩

theorem three_end_drew {w wc : World} {a1 : Option Addr} {L' : List ByteArray} (hrow : RowAt wc a1 (L'.map Value.string)) (hheld : Held (Span (w.heap.size + 1) wc.heap.size) a1 L'.length) (hbel : Below w.heap.size w wc) (u0 u1 u2 : Value) :
    RowAt (((wc.setCell ⟨w.heap.size, 0, none⟩ u0).setCell ⟨w.heap.size, 1, none⟩ u1).setCell ⟨w.heap.size, 2, none⟩ u2).drew a1 (L'.map Value.string) ∧ Held (Span w.heap.size (((wc.setCell ⟨w.heap.size, 0, none⟩ u0).setCell ⟨w.heap.size, 1, none⟩ u1).setCell ⟨w.heap.size, 2, none⟩ u2).drew.heap.size) a1 L'.length ∧ Below w.heap.size w (((wc.setCell ⟨w.heap.size, 0, none⟩ u0).setCell ⟨w.heap.size, 1, none⟩ u1).setCell ⟨w.heap.size, 2, none⟩ u2).drew := by
  obtain ⟨h1, h2, h3⟩ := three_end hrow hheld hbel u0 u1 u2
  exact ⟨h1.drewN 1, h2, h3.drew⟩

set_option maxRecDepth 100000 in
set_option maxHeartbeats 1600000 in
theorem termCount_wait {w : World} {B : Nat} {lt lc : Int} {s : ByteArray} {a : Option Addr} {ac : Nat} (L : List ByteArray) (ja : Option Addr) (n jc : Nat) (h : El w B (.slice a 0 ac) lt lc s (.slice ja n jc)) (hl : L.length = n) (hn : n ≤ 1048576) (hh : Held (· < w.heap.size) ja n) (hrow : RowAt w ja (L.map Value.string)) :
    Calls Try.prog 11 #[.pointer (some ⟨B, 0, none⟩)] w fun e w' => ∃ a c, e = .returned (.tuple #[.agg #[.slice a (without L s).length c, .int .u64 0, .int .u64 0], .int .i64 (((without L s).length : Int) / 2 + 1)]) ∧ RowAt w' a ((without L s).map Value.string) ∧ Held (Span w.heap.size w'.heap.size) a (without L s).length ∧ Below w.heap.size w w' := by
  have hBl := h.blk
  have c3 := h.c3
  have c5 := h.c5
  have hE : Hid (El (w.alloc (.cells #[.slice none 0 0, .int .u64 0, .int .u64 0] 29)) B (.slice a 0 ac) lt lc s (.slice ja n jc)) := h.later ((Below.refl _ _).alloc (Nat.le_refl _) _)
  have hM := without_le L s
  clear h
  go_enter Try.func11, Try.ntmps11
  go_wp2_with fail
  refine (waiting_yes hE.out).mono ?_
  rintro e w9 ⟨rfl, hw9⟩
  rw [hw9]
  clear hw9
  go_upto_region 3 with fail
  go_cut [4] (fun p4 wx => ∃ b a1 c1, p4 = .pointer (some ⟨b, 0, none⟩) ∧ Mid w wx b (.slice a1 (without L s).length c1) a1 (without L s))
  case first =>
    go_region_with (go_at_call 14; go_must (refine (remove_of L ja jc n s _ hl hn ?_ ?_).mono ?_; exact hh.mono (fun b hb => by simp; omega); exact hrow.same (Same.of_below (S := (· < w.heap.size)) (by first | exact (((Below.refl _ _).alloc (Nat.le_refl _) _).drew) | exact ((((Below.refl _ _).alloc (Nat.le_refl _) _).alloc (by simp) _).drew)) (fun b h => h)) (by rw [List.length_map, hl]; exact hh); rintro e w1 ⟨a1, c1, rfl, hr1, hh1, hb1⟩; have q1 : Z3 w1 w.heap.size := (by first | exact (Z3.one w).later hb1 | exact (Z3.two w).later hb1); obtain ⟨g1, d0, d1, d2, f0, f1, f2⟩ := q1; first | (have q2 : Z3 w1 (w.heap.size + 1) := Z3.later (Z3.two' w) hb1; obtain ⟨g1', d0', d1', d2', f0', f1', f2'⟩ := q2) | skip))
    all_goals (first
      | (have M := mid_a (w := w) (v := .slice a1 (without L s).length c1) hr1 hh1 hb1
         have HM : Hid _ := M
         clear M hr1 hh1 hb1
         go_wp2_with fail
         go_meet
         exact ⟨_, _, _, rfl, HM.out⟩)
      | (have M := mid_b (w := w) (v := .slice a1 (without L s).length c1) hr1 hh1 hb1
         have HM : Hid _ := M
         clear M hr1 hh1 hb1
         go_wp2_with fail
         go_meet
         exact ⟨_, _, _, rfl, HM.out⟩))
  case rest =>
  obtain ⟨b, a1, c1, rfl, e0, e1, e2, ⟨glt, d0, d1, d2, f0, f1, f2⟩, hlt, hrow', hheld, hbel⟩ := hcut
  clear hE hh hrow c3 c5
  have hB : Hid (Below w.heap.size w wc) := hbel
  clear hbel
  go_wp2
  go_region_with (go_at_call 15; go_must (refine (majorityOf_any _ (by omega) _).mono ?_; rintro e w9 ⟨rfl, hw9⟩; rw [hw9]; clear hw9))
  all_goals go_wp2
  all_goals (refine bodyPost_ret (v := .tuple #[.agg #[.slice a1 (without L s).length c1, .int .u64 0, .int .u64 0], .int .i64 (((without L s).length : Int) / 2 + 1)]) (by simp [results, Try.results11, go_sem, Act.put, d0, d1, d2]) rfl ⟨a1, c1, rfl, three_end_drew hrow' hheld hB.out _ _ _⟩)

end Go.Proofs.Qxb6613197a
