/-
  Seat b6613968a. The walk of (*channelReader).queue (30). By an AI agent.
-/
import Derived.Test.Qxb6613968aRd
import Derived.Deep.RegionLaw
namespace Go.Proofs.Qxb6613968a
open Go.Conc Go.RowKit
set_option linter.unusedVariables false
set_option linter.unusedSimpArgs false

set_option maxRecDepth 100000 in
set_option maxHeartbeats 1600000 in
/-- the reader is not cut, the event goes in, the count stays within the bound -/
theorem queue_take {w : World} {H R c : Nat} {pa : Option Addr} {pc : Nat} {rv : Sl} {P Q : List Ev} {u : Int} {tok : Bool} (h : Rd w H R c ⟨pa, P.length, pc⟩ rv P Q u 0 tok) (hH : H ≤ w.heap.size) (s : ByteArray) (i : Int) (da : Option Addr) (dn dc : Nat)
    (hsm : P.length ≤ 4194304) (hu : -9223372036854775808 ≤ u) (hd : dn ≤ 1048576) (hud : u + dn ≤ 16777216) :
    Calls Try.prog 30 #[.pointer (some ⟨R, 0, none⟩), .agg #[.string s, .int .u64 i, .slice da dn dc]] w fun e w' => e = .returned (.tuple #[]) ∧
      ∃ g cap, Rd w' H R c ⟨some ⟨g, 0, none⟩, P.length + 1, cap⟩ rv (P ++ [⟨s, i, ⟨da, dn, dc⟩⟩]) Q (u + dn) 0 true ∧ Kept w H R c ⟨pa, P.length, pc⟩ w' ∧ ((⟨pa, P.length, pc⟩ : Sl).v.ownBlock = some g ∨ w.heap.size ≤ g) := by
  have hRl := h.ltR
  have HRD : Hid (Rd w H R c ⟨pa, P.length, pc⟩ rv P Q u 0 tok) := h
  have hown := h.pend
  obtain ⟨c2, hblk⟩ := h.block
  have hnR : some R ≠ (Value.slice pa P.length pc).ownBlock := fun e => h.pR e.symm
  have hnX : some w.heap.size ≠ (Value.slice pa P.length pc).ownBlock := fun e => by have := (hown.lt _ e.symm).2; omega
  have hRc := h.ne
  have hch : Hid (∀ w1 : World, ((w.alloc (.cells #[.string s, .int .u64 i, .slice da dn dc] 60)).alloc (.cells #[.string s, .int .u64 i, .slice da dn dc] 60)).drew.grownBy w1 (Value.slice pa P.length pc).ownBlock → ∃ buf s' r, w1.heap[c]? = some (.chan 1 buf false s' r false) ∧ buf.size ≤ 1) := by
    intro w1 hg
    obtain ⟨buf, s', r, h1, h2⟩ := h.chan
    exact ⟨buf, s', r, by rw [grown_block h hg h.ltC h.pC]; exact h1, by rw [h2]; split <;> omega⟩
  clear h
  have c3 : w.cell? ⟨R, 3, none⟩ = some (.slice pa P.length pc) := by simp [World.cell?, hblk, Sl.v]
  have c5 : w.cell? ⟨R, 5, none⟩ = some (.int .i64 0) := by simp [World.cell?, hblk]
  have HB : Hid (w.heap[R]? = some (.cells #[.chan (some c), .chan (some c2), rv.v, .slice pa P.length pc, .int .i64 u, .int .i64 0] 55 (0, 0))) := hblk
  clear hblk
  obtain ⟨i0, hi0, hz0, hz1, hz2⟩ := info_parts Try.info60
  have hoA : Hid (((w.alloc (.cells #[.string s, .int .u64 i, .slice da dn dc] 60)).alloc (.cells #[.string s, .int .u64 i, .slice da dn dc] 60)).drew.ownsRow H 60 3 (.slice pa P.length pc) P.length (evCells P)) := (hown.alloc _).alloc _
  have hnA : Hid (∀ j v, [Value.string s, .int .u64 i, .slice da dn dc][j]? = some v → ((w.alloc (.cells #[.string s, .int .u64 i, .slice da dn dc] 60)).alloc (.cells #[.string s, .int .u64 i, .slice da dn dc] 60)).drew.cell? ((⟨w.heap.size + 1, 0, none⟩ : Addr).add j) = some v) :=
    World.news_of_block (cs := #[.string s, .int .u64 i, .slice da dn dc]) (heap_two1 w _ _)
  have h1A : Hid (∀ v ∈ [Value.string s, .int .u64 i, .slice da dn dc], v.oneCell' = true) := by
    intro v hv
    simp only [List.mem_cons, List.not_mem_nil, or_false] at hv
    rcases hv with rfl | rfl | rfl <;> rfl
  have hgA : Hid (∀ w1 : World, ((w.alloc (.cells #[.string s, .int .u64 i, .slice da dn dc] 60)).alloc (.cells #[.string s, .int .u64 i, .slice da dn dc] 60)).drew.grownBy w1 (Value.slice pa P.length pc).ownBlock →
      w1.heap[R]? = w.heap[R]? ∧ w1.cell? ⟨w.heap.size, 2, none⟩ = some (.slice da dn dc)) := by
    intro w1 hg
    refine ⟨(hg.block R (by simp; omega) hnR).trans (heap_two w _ _ R hRl), ?_⟩
    rw [World.cell?_of_block (w := (w.alloc (.cells #[.string s, .int .u64 i, .slice da dn dc] 60)).alloc (.cells #[.string s, .int .u64 i, .slice da dn dc] 60)) (hg.block w.heap.size (by simp; omega) hnX)]
    simp [World.cell?, heap_two0]
  have hxR : ¬ w.heap.size = R := by omega
  clear hown hnX hnR
  go_enter Try.func30, Try.ntmps30
  go_wp2
  go_region_law (refine step_append_lies _ rfl (.tmp 13) (.tmp 15) 51 rfl H 60 i0 _ 3 48 Try.underlying51 hi0 hz0 hz1 hz2 rfl (by decide) (.slice pa P.length pc) P.length (evCells P) (by simp [Act.eval, Act.put]) hoA.out ⟨w.heap.size + 1, 0, none⟩ 1 1 [.string s, .int .u64 i, .slice da dn dc] (by simp [Act.eval, Act.put]) rfl hnA.out h1A.out (by decide) (by unfold maxLen; omega) (by omega) (by first | (simp; done) | (simp; omega)) _ rfl ?_; intro g cap w1 hown1 hgrow1 hat hlt; have kk := hgA.out w1 hgrow1; obtain ⟨kb, kx⟩ := kk; rw [HB.out] at kb; have k0 : w1.cell? ⟨R, 0, none⟩ = some (.chan (some c)) := (by simp [World.cell?, kb]); have k3 : w1.cell? ⟨R, 3, none⟩ = some (.slice pa P.length pc) := (by simp [World.cell?, kb]); have kf3 : w1.frozen? ⟨R, 3, none⟩ = false := (by simp [World.frozen?, kb]); have kf4 : w1.frozen? ⟨R, 4, none⟩ = false := (by simp [World.frozen?, kb]); have k4 : w1.cell? ⟨R, 4, none⟩ = some (.int .i64 u) := (by simp [World.cell?, kb]); have GR := (show Hid _ from hgrow1); have OW := (show Hid _ from hown1); have HAT := (show Hid _ from hat); clear kb hgrow1 hown1 hat)
  all_goals clear c3 c5
  all_goals go_wp2
  all_goals go_region
  all_goals go_wp2_with fail
  all_goals (
    have hq := hch.out w1 GR.out
    obtain ⟨buf, s', r, hq1, hq2⟩ := hq
    refine (signal_any R c _ ?_ ⟨buf, s', r, ?_, hq2⟩).mono ?_
    · go_simp
    · show ((w1.setCell ⟨R, 3, none⟩ (Value.slice (some ⟨g, 0, none⟩) (P.length + 1) cap)).setCell ⟨R, 4, none⟩ (Value.int .i64 (u + dn))).heap[c]? = _
      rw [Below.heap_setCell _ _ _ _ (fun e => hRc e.symm), Below.heap_setCell _ _ _ _ (fun e => hRc e.symm)]
      exact hq1
    rintro e w4 ⟨rfl, hsig⟩
    have HSIG := (show Hid _ from hsig)
    clear hsig hq1 hq2
    go_wp2
    go_end0
    refine ⟨rfl, g, cap, rd_take (e := ⟨s, i, ⟨da, dn, dc⟩⟩) (g := g) (cap := cap) HRD.out hH GR.out OW.out ?_ (u + dn) ?_ ?_ HSIG.out⟩
    · have := HAT.out
      simpa [Sl.v] using this
    · rfl
    · exact ⟨rfl, rfl, rfl, by simp [World.setCell], fun k hk => by omega⟩)

end Go.Proofs.Qxb6613968a
