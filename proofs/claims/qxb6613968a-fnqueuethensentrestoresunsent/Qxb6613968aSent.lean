/-
  Seat b6613968a. The walks of ZZNewChannel (22), (*channel).sent (33), ZZSent (23). By an AI agent.
-/
import Derived.Test.Qxb6613968aRd
import Derived.Test.Qxb6613968aLocks
import Derived.Conc.MuLone
import Derived.WalkKit
namespace Go.Proofs.Qxb6613968a
open Go.Conc Go.RowKit Go.MuLone
set_option linter.unusedVariables false
set_option linter.unusedSimpArgs false

/-- a channel as ZZNewChannel lays it: its lock is free -/
def chBlock (w : World) (C : Nat) : Prop := ∃ cs : Array Value, w.heap[C]? = some (.cells cs 76 (0, 0)) ∧ cs[3]? = some (.int .i32 0)

set_option maxRecDepth 100000 in
theorem newChannel_any (w : World) : Calls Try.prog 22 #[] w fun e w' => e = .returned (.pointer (some ⟨w.heap.size, 0, none⟩)) ∧ chBlock w' w.heap.size ∧ Below w.heap.size w w' := by
  go_enter Try.func22, Try.ntmps22
  go_wp2
  go_ret
  exact ⟨rfl, ⟨_, heap_alloc_new _ _, rfl⟩, (Below.refl _ _).alloc (Nat.le_refl _) _⟩

set_option maxRecDepth 100000 in
theorem sent_cells (C R : Nat) (u t : Int) (w : World) (hne : ¬ C = R) (c3 : w.cell? ⟨C, 3, none⟩ = some (.int .i32 0)) (z3 : w.frozen? ⟨C, 3, none⟩ = false) (c4 : w.cell? ⟨R, 4, none⟩ = some (.int .i64 u)) (z4 : w.frozen? ⟨R, 4, none⟩ = false)
    (hb0 : -9223372036854775808 ≤ u - t) (hb1 : u - t ≤ 9223372036854775807) :
    Calls Try.prog 33 #[.pointer (some ⟨C, 0, none⟩), .pointer (some ⟨R, 0, none⟩), .int .i64 t] w fun e w' => e = .returned (.tuple #[]) ∧
      w' = ((w.setCell ⟨C, 3, none⟩ (.int .i32 1)).setCell ⟨R, 4, none⟩ (.int .i64 (u - t))).setCell ⟨C, 3, none⟩ (.int .i32 0) := by
  have hne' : ¬ R = C := fun e => hne e.symm
  go_enter_defers Try.func33, Try.ntmps33
  go_wp2_with (go_at_call 35; refine (lock_free Try.muLib ⟨C, 3, none⟩ _ c3 z3).mono ?_; rintro e w' ⟨rfl, rfl⟩)
  refine leaves_cons (f := 36) (args := #[.pointer (some ⟨C, 3, none⟩)]) (by simp) (by simp [go_sem]) ?_
  refine (unlock_deferred Try.muLib ⟨C, 3, none⟩ .returning _ ?_ ?_).mono ?_
  · exact (World.cell?_setCell_other _ ⟨R, 4, none⟩ ⟨C, 3, none⟩ _ (by simp)).trans (World.cell?_setCell_same w ⟨C, 3, none⟩ (.int .i32 1) c3)
  · simp [z3]
  rintro e u' w'' ⟨rfl, rfl, rfl⟩
  exact ⟨_, results_none rfl _ _ _, rfl, rfl⟩

theorem zsent_of {C R : Nat} {t : Int} {w : World} {F : World → Prop} (h : Calls Try.prog 33 #[.pointer (some ⟨C, 0, none⟩), .pointer (some ⟨R, 0, none⟩), .int .i64 t] w fun e w' => e = .returned (.tuple #[]) ∧ F w') :
    Calls Try.prog 23 #[.pointer (some ⟨C, 0, none⟩), .pointer (some ⟨R, 0, none⟩), .int .i64 t] w fun e w' => e = .returned (.tuple #[]) ∧ F w' := by
  have HC : Hid (Calls Try.prog 33 #[.pointer (some ⟨C, 0, none⟩), .pointer (some ⟨R, 0, none⟩), .int .i64 t] w fun e w' => e = .returned (.tuple #[]) ∧ F w') := h
  clear h
  go_enter Try.func23, Try.ntmps23
  go_wp2_with fail
  refine HC.out.mono ?_
  rintro e w1 ⟨rfl, hF⟩
  have HF : Hid (F w1) := hF
  clear hF
  go_wp2
  go_end0
  exact ⟨rfl, HF.out⟩

/-- the count goes down by what was sent; all else of the reader stays -/
theorem sent_any {w : World} {H R c C : Nat} {pv rv : Sl} {P Q : List Ev} {u cut : Int} {tok : Bool} (h : Rd w H R c pv rv P Q u cut tok) (hC : chBlock w C) (hHC : H ≤ C) (t : Int) (hb0 : -9223372036854775808 ≤ u - t) (hb1 : u - t ≤ 9223372036854775807) :
    Calls Try.prog 23 #[.pointer (some ⟨C, 0, none⟩), .pointer (some ⟨R, 0, none⟩), .int .i64 t] w fun e w' => e = .returned (.tuple #[]) ∧ Rd w' H R c pv rv P Q (u - t) cut tok ∧ Below H w w' ∧ ∀ b, b ≠ C → b ≠ R → w'.heap[b]? = w.heap[b]? := by
  obtain ⟨cs, hc1, hc2⟩ := hC
  obtain ⟨c2, hblk⟩ := h.block
  obtain ⟨buf, s, r, hch, hz⟩ := h.chan
  have hCR : ¬ C = R := fun e => by rw [e, hblk] at hc1; cases hc1
  have hCc : ¬ C = c := fun e => by rw [e, hch] at hc1; cases hc1
  have hCp : pv.v.ownBlock ≠ some C := owns_ne h.pend hc1 (by intro c h; cases h)
  have hCr : rv.v.ownBlock ≠ some C := owns_ne h.repl hc1 (by intro c h; cases h)
  refine zsent_of ((sent_cells C R u t w hCR (by simp [World.cell?, hc1, hc2]) (by simp [World.frozen?, hc1]) (by simp [World.cell?, hblk]) (by simp [World.frozen?, hblk]) hb0 hb1).mono ?_)
  rintro e w' ⟨rfl, rfl⟩
  have hoth : ∀ b, b ≠ C → b ≠ R → (((w.setCell ⟨C, 3, none⟩ (.int .i32 1)).setCell ⟨R, 4, none⟩ (.int .i64 (u - t))).setCell ⟨C, 3, none⟩ (.int .i32 0)).heap[b]? = w.heap[b]? := fun b h1 h2 => by
    rw [Below.heap_setCell _ _ _ _ h1, Below.heap_setCell _ _ _ _ h2, Below.heap_setCell _ _ _ _ h1]
  have hR' : (((w.setCell ⟨C, 3, none⟩ (.int .i32 1)).setCell ⟨R, 4, none⟩ (.int .i64 (u - t))).setCell ⟨C, 3, none⟩ (.int .i32 0)).heap[R]? = some (.cells #[.chan (some c), .chan (some c2), rv.v, pv.v, .int .i64 (u - t), .int .i64 cut] 55 (0, 0)) := by
    rw [Below.heap_setCell _ _ _ _ (fun e => hCR e.symm), heap_setCell_same (by rw [Below.heap_setCell _ _ _ _ (fun e => hCR e.symm)]; exact hblk)]
    rfl
  refine ⟨rfl, ⟨⟨c2, hR'⟩, ⟨buf, s, r, ?_, hz⟩, ?_, ?_, h.hR, h.hc, h.apart⟩, ?_, hoth⟩
  · rw [hoth c (fun e => hCc e.symm) (fun e => h.ne e.symm)]; exact hch
  · exact owns_keep h.pend fun k hk => hoth k (fun e => hCp (by rw [hk, e])) (fun e => h.pR (by rw [hk, e]))
  · exact owns_keep h.repl fun k hk => hoth k (fun e => hCr (by rw [hk, e])) (fun e => h.rR (by rw [hk, e]))
  · exact (((Below.refl _ _).setCell (p := ⟨C, 3, none⟩) hHC _).setCell (p := ⟨R, 4, none⟩) h.hR _).setCell (p := ⟨C, 3, none⟩) hHC _

end Go.Proofs.Qxb6613968a
