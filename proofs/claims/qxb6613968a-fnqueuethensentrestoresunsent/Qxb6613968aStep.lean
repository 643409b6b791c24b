/-
  Seat b6613968a. The reader between two queueings: what the loop's relation says; one queueing. By an AI agent.
-/
import Derived.Test.Qxb6613968aGroups
import Derived.Test.Qxb6613968aQueue
import Derived.Test.Qxb6613968aQueue2
import Derived.Test.Qxb6613968aZq
import Derived.Test.Qxb6613968aAccess
namespace Go.Proofs.Qxb6613968a
open Go.Conc Go.RowKit
set_option linter.unusedVariables false
set_option linter.unusedSimpArgs false

/-- the reader holds the state st; the blocks of S are as they were in w0 and are none of the reader's own that may turn -/
def LoopAt (S : Nat → Prop) (w0 : World) (H R c : Nat) (st : St) (w : World) : Prop :=
  ∃ pa pc ra rc, Rd w H R c ⟨pa, st.P.length, pc⟩ ⟨ra, st.Q.length, rc⟩ st.P st.Q st.u st.cut st.tok ∧ pa.isNone = st.pn ∧ ra.isNone = st.rn ∧ Same S w0 w ∧
    (∀ b, S b → b < w.heap.size ∧ b ≠ R ∧ b ≠ c ∧ (⟨pa, st.P.length, pc⟩ : Sl).v.ownBlock ≠ some b) ∧ H ≤ w.heap.size ∧ Below H w0 w

theorem queue_step {S : Nat → Prop} {w0 w : World} {H R c : Nat} {st : St} (h : LoopAt S w0 H R c st w) (e : Ev) (hP : st.P.length ≤ 4194304) (hu : -9223372036854775808 ≤ st.u) (hd : e.dat.n ≤ 1048576) (hud : st.u + e.dat.n ≤ 9223372036854775807) :
    Calls Try.prog 14 #[.pointer (some ⟨R, 0, none⟩), .string e.name, .int .u64 e.id, .slice e.dat.a e.dat.n e.dat.c] w fun e' w' => e' = .returned (.tuple #[]) ∧ LoopAt S w0 H R c (st.step e) w' := by
  obtain ⟨pa, pc, ra, rc, hrd, h1, h2, h3, h4, h5, h6⟩ := h
  by_cases hc : st.cut = 0
  · rw [hc] at hrd
    by_cases ho : 16777216 < st.u + (e.dat.n : Int)
    · refine zzqueue_of ((queue_over hrd h5 e.name e.id e.dat.a e.dat.n e.dat.c hP hu hd ho hud).mono ?_)
      rintro e' w' ⟨rfl, hr, hk⟩
      refine ⟨rfl, none, 0, none, 0, ?_⟩
      rw [St.step_over hc ho]
      refine ⟨hr, rfl, rfl, fun b hb => (hk.other b (h4 b hb).1 (h4 b hb).2.1 (h4 b hb).2.2.1 (h4 b hb).2.2.2).trans (h3 b hb), fun b hb => ⟨Nat.lt_of_lt_of_le (h4 b hb).1 hk.below.size, (h4 b hb).2.1, (h4 b hb).2.2.1, fun h => by cases h⟩, Nat.le_trans h5 hk.below.size, h6.trans hk.below⟩
    · have ho' : st.u + (e.dat.n : Int) ≤ 16777216 := by omega
      refine zzqueue_of ((queue_take hrd h5 e.name e.id e.dat.a e.dat.n e.dat.c hP hu hd ho').mono ?_)
      rintro e' w' ⟨rfl, g, cap, hr, hk, hg⟩
      refine ⟨rfl, some ⟨g, 0, none⟩, cap, ra, rc, ?_⟩
      rw [St.step_take hc ho']
      have hl : (st.P ++ [e]).length = st.P.length + 1 := by simp
      simp only [hl]
      refine ⟨hr, rfl, h2, fun b hb => (hk.other b (h4 b hb).1 (h4 b hb).2.1 (h4 b hb).2.2.1 (h4 b hb).2.2.2).trans (h3 b hb), fun b hb => ⟨Nat.lt_of_lt_of_le (h4 b hb).1 hk.below.size, (h4 b hb).2.1, (h4 b hb).2.2.1, fun h => ?_⟩, Nat.le_trans h5 hk.below.size, h6.trans hk.below⟩
      have hgb : g = b := by
        have : (some g : Option Nat) = some b := h
        exact Option.some.inj this
      subst hgb
      rcases hg with hg | hg
      · exact (h4 g hb).2.2.2 hg
      · have := (h4 g hb).1; omega
  · refine zzqueue_of ((queue_cut hrd h5 e.name e.id e.dat.a e.dat.n e.dat.c hc).mono ?_)
    rintro e' w' ⟨rfl, hr, hk⟩
    rw [St.step_cut hc]
    exact ⟨rfl, pa, pc, ra, rc, hr, h1, h2, fun b hb => (hk.other b (h4 b hb).1 (h4 b hb).2.1 (h4 b hb).2.2.1 (h4 b hb).2.2.2).trans (h3 b hb), fun b hb => ⟨Nat.lt_of_lt_of_le (h4 b hb).1 hk.below.size, (h4 b hb).2⟩, Nat.le_trans h5 hk.below.size, h6.trans hk.below⟩

theorem LoopAt.later {S : Nat → Prop} {w0 w w' : World} {H R c : Nat} {st : St} (h : LoopAt S w0 H R c st w) (hb : Below w.heap.size w w') : LoopAt S w0 H R c st w' := by
  obtain ⟨pa, pc, ra, rc, hrd, h1, h2, h3, h4, h5, h6⟩ := h
  exact ⟨pa, pc, ra, rc, hrd.later hb, h1, h2, fun b hb' => (hb.block b (h4 b hb').1).trans (h3 b hb'), fun b hb' => ⟨Nat.lt_of_lt_of_le (h4 b hb').1 hb.size, (h4 b hb').2⟩, Nat.le_trans h5 hb.size, h6.trans (hb.mono h5)⟩

/-- the start: behind the making of the reader and the copies of the script -/
theorem loop_start {w6 w7 w10 : World} {R c : Nat} {a1 a2 na ra : Option Addr} {c1 c2 n m : Nat} {P Q : List Ev} {u cut : Int} {tok : Bool} (hP : P.length = n) (hQ : Q.length = m) (h : Rd w7 w6.heap.size R c ⟨a2, n, c2⟩ ⟨a1, m, c1⟩ P Q u cut tok) (h2 : a2.isNone = na.isNone) (h1 : a1.isNone = ra.isNone)
    (hb7 : Below w6.heap.size w6 w7) (hb : Below w7.heap.size w7 w10) :
    LoopAt (fun b => b < w6.heap.size ∨ Span w7.heap.size w10.heap.size b) w10 w6.heap.size R c ⟨P, Q, na.isNone, ra.isNone, u, cut, tok⟩ w10 := by
  subst hP hQ
  have hs7 := hb7.size
  have hs := hb.size
  have hR := h.ltR
  have hC := h.ltC
  have hR' := h.hR
  have hC' := h.hc
  refine ⟨a2, c2, a1, c1, h.later hb, h2, h1, Same.refl _ _, fun b hb' => ?_, by omega, Below.refl _ _⟩
  rcases hb' with hb' | ⟨hb1, hb2⟩
  · refine ⟨by omega, by omega, by omega, fun e => ?_⟩
    have := (h.pend.lt b e).1
    omega
  · refine ⟨hb2, by omega, by omega, fun e => ?_⟩
    have := (h.pend.lt b e).2
    omega

theorem lens_of_dats {w : World} {S : Nat → Prop} {L : List Sl} {X : List (List Int)} (h : DatsAt w S L X) : L.map Sl.n = X.map List.length := by
  apply List.ext_getElem?
  intro i
  rw [List.getElem?_map, List.getElem?_map]
  by_cases hi : i < L.length
  · have hx : i < X.length := by rw [← h.len]; exact hi
    have := (h.each i L[i] X[i] (by simp) (by simp)).len
    simp [hi, hx, this]
  · have hx : ¬ i < X.length := by rw [← h.len]; exact hi
    simp [hi, hx]

theorem run_step_bounds (s : St) (es : List Ev) (k : Nat) (e : Ev) (h : es[k]? = some e) :
    s.u ≤ (s.run (es.take k)).u ∧ (s.run (es.take k)).u + e.dat.n ≤ s.u + tot 0 (es.map fun e => e.dat.n) ∧ (s.run (es.take k)).P.length ≤ s.P.length + k := by
  obtain ⟨h1, h2, h3, h4⟩ := St.run_bounds s (es.take k) _ (Nat.le_refl _)
  obtain ⟨hk, he⟩ := List.getElem?_eq_some_iff.1 h
  have e1 : es = es.take k ++ (e :: es.drop (k + 1)) := by
    rw [← he, List.getElem_cons_drop, List.take_append_drop]
  have e2 : tot 0 (es.map fun e => e.dat.n) = tot 0 ((es.take k).map fun e => e.dat.n) + tot 0 ((e :: es.drop (k + 1)).map fun e => e.dat.n) := by
    conv => lhs; rw [e1]
    rw [List.map_append, tot_append]
  have e3 : e.dat.n ≤ tot 0 ((e :: es.drop (k + 1)).map fun e => e.dat.n) := by simp [tot]
  have e4 : (es.take k).length ≤ k := List.length_take_le _ _
  refine ⟨h1, by omega, by omega⟩

/-- the script's k-th event, and the cells that hold it -/
theorem script_at {w7 w10 : World} {na a8 a9 a10 : Option Addr} {n c8 : Nat} {N : List ByteArray} {I : List Int} {E2 : List Sl} {X : List (List Int)} {S : Nat → Prop} (h : Cl w7 w10 na a8 a9 a10 n c8 N I E2 X) (hS : ∀ b, Span w7.heap.size w10.heap.size b → S b) {k : Nat} (hk : k < n) :
    ∃ e b1 o1 b2 o2 b3 o3, (evs N I E2)[k]? = some e ∧ E2[k]? = some e.dat ∧ a8 = some ⟨b1, o1, none⟩ ∧ a9 = some ⟨b2, o2, none⟩ ∧ a10 = some ⟨b3, o3, none⟩ ∧
      ∀ w : World, Same S w10 w → w.cell? ⟨b1, o1 + k, none⟩ = some (.string e.name) ∧ w.cell? ⟨b2, o2 + k, none⟩ = some (.int .u64 e.id) ∧ w.cell? ⟨b3, o3 + k, none⟩ = some (.slice e.dat.a e.dat.n e.dat.c) := by
  have k1 : k < N.length := by rw [h.src.ln]; exact hk
  have k2 : k < I.length := by rw [h.src.li]; exact hk
  have k3 : k < E2.length := by rw [h.src.ld]; exact hk
  obtain ⟨b1, o1, e1, q1⟩ := h.src.hN.get (k := k) (v := .string N[k]) (by simp [k1])
  obtain ⟨b2, o2, e2, q2⟩ := h.src.hI.get (k := k) (v := .int .u64 I[k]) (by simp [k2])
  obtain ⟨b3, o3, e3, q3⟩ := h.src.hD.get (k := k) (v := E2[k].v) (by simp [k3])
  refine ⟨⟨N[k], I[k], E2[k]⟩, b1, o1, b2, o2, b3, o3, evs_get N I E2 k _ _ _ (by simp) (by simp) (by simp), by simp, e1, e2, e3, fun w hs => ⟨?_, ?_, ?_⟩⟩
  · rw [hs.cell (a := ⟨b1, o1 + k, none⟩) (hS _ (h.hN (by omega) b1 o1 e1))]; exact q1
  · rw [hs.cell (a := ⟨b2, o2 + k, none⟩) (hS _ (h.hI (by omega) b2 o2 e2))]; exact q2
  · rw [hs.cell (a := ⟨b3, o3 + k, none⟩) (hS _ (h.hD (by omega) b3 o3 e3))]; exact q3

end Go.Proofs.Qxb6613968a
