/-
  Seat b6613968a. The reader in memory: what all walks that touch it share. By an AI agent.
-/
import Derived.Test.Qxb6613968aEvents
import Derived.Test.Qxb6613968aChan
namespace Go.Proofs.Qxb6613968a
open Go.Conc Go.RowKit
set_option linter.unusedVariables false
set_option linter.unusedSimpArgs false

/-- the reader in memory: its block, its channel, its two rows of events -/
structure Rd (w : World) (H R c : Nat) (pv rv : Sl) (P Q : List Ev) (u cut : Int) (tok : Bool) : Prop where
  block : ∃ c2, w.heap[R]? = some (.cells #[.chan (some c), .chan (some c2), rv.v, pv.v, .int .i64 u, .int .i64 cut] 55 (0, 0))
  chan : ∃ buf s r, w.heap[c]? = some (.chan 1 buf false s r false) ∧ buf.size = (if tok then 1 else 0)
  pend : w.ownsRow H 60 3 pv.v P.length (evCells P)
  repl : w.ownsRow H 60 3 rv.v Q.length (evCells Q)
  hR : H ≤ R
  hc : H ≤ c
  apart : ∀ k, pv.v.ownBlock = some k → rv.v.ownBlock ≠ some k

theorem owns_base {w : World} {base base' : Nat} {e : TypeId} {size : Nat} {v : Value} {n : Nat} {xs : List Value} (h : w.ownsRow base e size v n xs) (hb : base' ≤ base) : w.ownsRow base' e size v n xs := by
  obtain ⟨h1, h2⟩ := h
  refine ⟨h1, ?_⟩
  rcases h2 with h2 | ⟨g, cap, cur, hv, hg, r⟩
  · exact .inl h2
  · exact .inr ⟨g, cap, cur, hv, Nat.le_trans hb hg, r⟩

/-- what is owned stays owned while its block stays as it was -/
theorem owns_keep {w w' : World} {base : Nat} {e : TypeId} {size : Nat} {v : Value} {n : Nat} {xs : List Value} (h : w.ownsRow base e size v n xs) (hk : ∀ k, v.ownBlock = some k → w'.heap[k]? = w.heap[k]?) : w'.ownsRow base e size v n xs := by
  obtain ⟨h1, h2⟩ := h
  refine ⟨h1, ?_⟩
  rcases h2 with h2 | ⟨g, cap, cur, hv, hg, hh, r⟩
  · exact .inl h2
  · exact .inr ⟨g, cap, cur, hv, hg, by rw [hk g (by rw [hv]; rfl)]; exact hh, r⟩

theorem owns_below {w w' : World} {base B : Nat} {e : TypeId} {size : Nat} {v : Value} {n : Nat} {xs : List Value} (h : w.ownsRow base e size v n xs) (hb : Below B w w') (hB : w.heap.size ≤ B) : w'.ownsRow base e size v n xs :=
  owns_keep h fun k hk => hb.block k (Nat.lt_of_lt_of_le (h.lt k hk).2 hB)

/-- the event's box, and the row of one that append takes it from -/
def bx (s : ByteArray) (i : Int) (d : Sl) : Obj := .cells #[.string s, .int .u64 i, d.v] 60

theorem heap_two (w : World) (o p : Obj) (k : Nat) (hk : k < w.heap.size) : ((w.alloc o).alloc p).heap[k]? = w.heap[k]? := by
  rw [Below.heap_alloc _ _ _ (by simp; omega), Below.heap_alloc _ _ _ hk]
theorem heap_two0 (w : World) (o p : Obj) : ((w.alloc o).alloc p).heap[w.heap.size]? = some o := by
  rw [Below.heap_alloc _ _ _ (by simp)]; exact heap_alloc_new _ _
theorem heap_two1 (w : World) (o p : Obj) : ((w.alloc o).alloc p).heap[w.heap.size + 1]? = some p := by
  have := heap_alloc_new (w.alloc o) p
  simpa using this

theorem lt_of_heap {w : World} {k : Nat} {o : Obj} (h : w.heap[k]? = some o) : k < w.heap.size := by
  rcases Nat.lt_or_ge k w.heap.size with h' | h'
  · exact h'
  · rw [Array.getElem?_eq_none h'] at h; cases h

/-- a row of events is no block of another type -/
theorem owns_ne {w : World} {H R n : Nat} {v : Value} {xs : List Value} {o : Obj} (h : w.ownsRow H 60 3 v n xs) (hR : w.heap[R]? = some o) (ho : ∀ c, o ≠ .cells c 60 (0, 0)) : v.ownBlock ≠ some R := by
  intro e
  rcases h.2 with ⟨h1, _⟩ | ⟨g, cap, cur, hv, hg, hh, r⟩
  · rw [h1] at e; cases e
  · rw [hv] at e
    simp only [Value.ownBlock, Option.some.injEq] at e
    subst e
    rw [hh] at hR
    simp only [Option.some.injEq] at hR
    exact ho cur hR.symm

/-- what a queueing leaves as it was: all old blocks but the reader's own, its channel's, the pending row's -/
structure Kept (w : World) (H R c : Nat) (pv : Sl) (w' : World) : Prop where
  below : Below H w w'
  other : ∀ b, b < w.heap.size → b ≠ R → b ≠ c → pv.v.ownBlock ≠ some b → w'.heap[b]? = w.heap[b]?

section
variable {w w1 X W w4 : World} {H R c g cap : Nat} {pv rv : Sl} {P Q : List Ev} {u cut : Int} {tok : Bool} {o p : Obj}

theorem Rd.ltR (h : Rd w H R c pv rv P Q u cut tok) : R < w.heap.size := lt_of_heap h.block.choose_spec
theorem Rd.ltC (h : Rd w H R c pv rv P Q u cut tok) : c < w.heap.size := by obtain ⟨_, _, _, h1, _⟩ := h.chan; exact lt_of_heap h1
theorem Rd.ne (h : Rd w H R c pv rv P Q u cut tok) : R ≠ c := by
  intro e
  obtain ⟨c2, h1⟩ := h.block
  obtain ⟨_, _, _, h2, _⟩ := h.chan
  rw [e, h2] at h1
  cases h1
theorem Rd.pR (h : Rd w H R c pv rv P Q u cut tok) : pv.v.ownBlock ≠ some R := by
  obtain ⟨c2, h1⟩ := h.block
  exact owns_ne h.pend h1 (by intro c h; cases h)
theorem Rd.pC (h : Rd w H R c pv rv P Q u cut tok) : pv.v.ownBlock ≠ some c := by
  obtain ⟨_, _, _, h1, _⟩ := h.chan
  exact owns_ne h.pend h1 (by intro c h; cases h)
theorem Rd.rR (h : Rd w H R c pv rv P Q u cut tok) : rv.v.ownBlock ≠ some R := by
  obtain ⟨c2, h1⟩ := h.block
  exact owns_ne h.repl h1 (by intro c h; cases h)
theorem Rd.rC (h : Rd w H R c pv rv P Q u cut tok) : rv.v.ownBlock ≠ some c := by
  obtain ⟨_, _, _, h1, _⟩ := h.chan
  exact owns_ne h.repl h1 (by intro c h; cases h)

/-- behind the append: the blocks that are not the pending row's -/
theorem grown_block (h : Rd w H R c pv rv P Q u cut tok) (hg : ((w.alloc o).alloc p).drew.grownBy w1 pv.v.ownBlock) {b : Nat} (hb : b < w.heap.size) (hp : pv.v.ownBlock ≠ some b) : w1.heap[b]? = w.heap[b]? :=
  (hg.block b (by simp; omega) (fun e => hp e.symm)).trans (heap_two w o p b hb)

/-- THE EVENT IS TAKEN. -/
theorem rd_take (h : Rd w H R c pv rv P Q u 0 tok) (hH : H ≤ w.heap.size) (hg : ((w.alloc o).alloc p).drew.grownBy w1 pv.v.ownBlock) {e : Ev}
    (hown : w1.ownsRow H 60 3 (.slice (some ⟨g, 0, none⟩) (P.length + 1) cap) (P.length + 1) (evCells P ++ e.cells)) (hat : pv.v.ownBlock = some g ∨ g = w.heap.size + 2) (u' : Int)
    (e1 : W.heap = ((w1.setCell ⟨R, 3, none⟩ (.slice (some ⟨g, 0, none⟩) (P.length + 1) cap)).setCell ⟨R, 4, none⟩ (.int .i64 u')).heap) (e2 : Below 0 w1 W) (hs : Signalled W c w4) :
    Rd w4 H R c ⟨some ⟨g, 0, none⟩, P.length + 1, cap⟩ rv (P ++ [e]) Q u' 0 true ∧ Kept w H R c pv w4 ∧ (pv.v.ownBlock = some g ∨ w.heap.size ≤ g) := by
  have hRl := h.ltR
  have hCl := h.ltC
  have hne := h.ne
  obtain ⟨c2, hblk⟩ := h.block
  have hR1 : w1.heap[R]? = some (.cells #[.chan (some c), .chan (some c2), rv.v, pv.v, .int .i64 u, .int .i64 0] 55 (0, 0)) := by rw [grown_block h hg hRl h.pR]; exact hblk
  have hRW : W.heap[R]? = some (.cells #[.chan (some c), .chan (some c2), rv.v, .slice (some ⟨g, 0, none⟩) (P.length + 1) cap, .int .i64 u', .int .i64 0] 55 (0, 0)) := by
    rw [e1, heap_setCell_same (heap_setCell_same hR1 3 _) 4 _]
    rfl
  have hoW : ∀ b, b ≠ R → W.heap[b]? = w1.heap[b]? := fun b hb => by rw [e1, Below.heap_setCell _ _ _ _ hb, Below.heap_setCell _ _ _ _ hb]
  have hgR : g ≠ R := by
    intro e
    have := owns_ne hown hR1 (by intro c h; cases h)
    exact this (by rw [← e]; rfl)
  have hgC : g ≠ c := by
    intro e
    have hC1 : w1.heap[c]? = w.heap[c]? := grown_block h hg hCl h.pC
    obtain ⟨_, _, _, h2, _⟩ := h.chan
    rw [h2] at hC1
    have := owns_ne hown hC1 (by intro c h; cases h)
    exact this (by rw [← e]; rfl)
  refine ⟨⟨⟨c2, ?_⟩, ?_, ?_, ?_, h.hR, h.hc, ?_⟩, ⟨?_, ?_⟩, ?_⟩
  · rw [hs.other R hne]; exact hRW
  · obtain ⟨b, s, r, h1, h2⟩ := hs.chan
    exact ⟨b, s, r, h1, by simp [h2]⟩
  · rw [List.length_append, List.length_singleton, evCells_append]
    have : evCells [e] = e.cells := by simp [evCells]
    rw [this]
    refine owns_keep hown fun k hk => ?_
    have hk' : g = k := by
      have : (some g : Option Nat) = some k := hk
      exact Option.some.inj this
    rw [← hk', hs.other g hgC, hoW g hgR]
  · refine owns_keep h.repl fun k hk => ?_
    have hkR : k ≠ R := fun e => h.rR (by rw [hk, e])
    have hkC : k ≠ c := fun e => h.rC (by rw [hk, e])
    rw [hs.other k hkC, hoW k hkR]
    exact grown_block h hg (h.repl.lt k hk).2 (fun e => h.apart k e hk)
  · intro k hk hk'
    have hkg : g = k := by
      have : (some g : Option Nat) = some k := hk
      exact Option.some.inj this
    subst hkg
    rcases hat with hat | hat
    · exact h.apart _ hat hk'
    · have := (h.repl.lt _ hk').2; omega
  · have b1 : Below H w w1 := ((((Below.refl H w).alloc hH o).alloc (by simp; omega) p).drew).grown hg (by simp; omega) (fun k e => (h.pend.lt k e).1)
    refine b1.trans ⟨hs.below.os.trans e2.os, hs.below.tape.trans e2.tape, hs.below.output.trans e2.output, Nat.le_trans e2.size hs.below.size, fun k hk => ?_⟩
    have := h.hR
    have := h.hc
    rw [hs.other k (by omega), hoW k (by omega)]
  · intro b hb hbR hbC hbP
    rw [hs.other b hbC, hoW b hbR]
    exact grown_block h hg hb hbP
  · rcases hat with hat | hat
    · exact .inl hat
    · exact .inr (by omega)
/-- THE COUNT PASSES THE BOUND: the reader is cut, both rows dropped. -/
theorem rd_over (h : Rd w H R c pv rv P Q u 0 tok) (hH : H ≤ w.heap.size) (hg : ((w.alloc o).alloc p).drew.grownBy w1 pv.v.ownBlock) (v3 : Value) (u' : Int)
    (e1 : W.heap = (((((w1.setCell ⟨R, 3, none⟩ v3).setCell ⟨R, 4, none⟩ (.int .i64 u')).setCell ⟨R, 5, none⟩ (.int .i64 1)).setCell ⟨R, 2, none⟩ (.slice none 0 0)).setCell ⟨R, 3, none⟩ (.slice none 0 0)).heap) (e2 : Below 0 w1 W) (hs : Signalled W c w4) :
    Rd w4 H R c ⟨none, 0, 0⟩ ⟨none, 0, 0⟩ [] [] u' 1 true ∧ Kept w H R c pv w4 := by
  have hRl := h.ltR
  have hne := h.ne
  obtain ⟨c2, hblk⟩ := h.block
  have hR1 : w1.heap[R]? = some (.cells #[.chan (some c), .chan (some c2), rv.v, pv.v, .int .i64 u, .int .i64 0] 55 (0, 0)) := by rw [grown_block h hg hRl h.pR]; exact hblk
  have hRW : W.heap[R]? = some (.cells #[.chan (some c), .chan (some c2), .slice none 0 0, .slice none 0 0, .int .i64 u', .int .i64 1] 55 (0, 0)) := by
    rw [e1, heap_setCell_same (heap_setCell_same (heap_setCell_same (heap_setCell_same (heap_setCell_same hR1 3 _) 4 _) 5 _) 2 _) 3 _]
    rfl
  have hoW : ∀ b, b ≠ R → W.heap[b]? = w1.heap[b]? := fun b hb => by rw [e1, Below.heap_setCell _ _ _ _ hb, Below.heap_setCell _ _ _ _ hb, Below.heap_setCell _ _ _ _ hb, Below.heap_setCell _ _ _ _ hb, Below.heap_setCell _ _ _ _ hb]
  refine ⟨⟨⟨c2, ?_⟩, ?_, World.ownsRow_nil _ _ _ _, World.ownsRow_nil _ _ _ _, h.hR, h.hc, ?_⟩, ⟨?_, ?_⟩⟩
  · rw [hs.other R hne]; exact hRW
  · obtain ⟨b, s, r, h1, h2⟩ := hs.chan
    exact ⟨b, s, r, h1, by simp [h2]⟩
  · intro k hk
    cases hk
  · have b1 : Below H w w1 := ((((Below.refl H w).alloc hH o).alloc (by simp; omega) p).drew).grown hg (by simp; omega) (fun k e => (h.pend.lt k e).1)
    refine b1.trans ⟨hs.below.os.trans e2.os, hs.below.tape.trans e2.tape, hs.below.output.trans e2.output, Nat.le_trans e2.size hs.below.size, fun k hk => ?_⟩
    have := h.hR
    have := h.hc
    rw [hs.other k (by omega), hoW k (by omega)]
  · intro b hb hbR hbC hbP
    rw [hs.other b hbC, hoW b hbR]
    exact grown_block h hg hb hbP

/-- the event's box alone -/
theorem rd_alloc (h : Rd w H R c pv rv P Q u cut tok) (hH : H ≤ w.heap.size) (o : Obj) : Rd (w.alloc o) H R c pv rv P Q u cut tok ∧ Kept w H R c pv (w.alloc o) := by
  obtain ⟨c2, hblk⟩ := h.block
  obtain ⟨b, s, r, h1, h2⟩ := h.chan
  exact ⟨⟨⟨c2, by rw [Below.heap_alloc _ _ _ h.ltR]; exact hblk⟩, ⟨b, s, r, by rw [Below.heap_alloc _ _ _ h.ltC]; exact h1, h2⟩, h.pend.alloc _, h.repl.alloc _, h.hR, h.hc, h.apart⟩,
    ⟨(Below.refl _ _).alloc hH _, fun b hb _ _ _ => Below.heap_alloc _ _ _ hb⟩⟩
end

end Go.Proofs.Qxb6613968a
