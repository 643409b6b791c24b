/-
  Seat b6613968a. What stands behind the script: the three ends, and the events that are handed back. By an AI agent.
-/
import Derived.Test.Qxb6613968aStep
namespace Go.Proofs.Qxb6613968a
open Go.Conc Go.RowKit
set_option linter.unusedVariables false
set_option linter.unusedSimpArgs false

/-- the three ends of a script -/
theorem run_cases (s : St) (es : List Ev) :
    ((s.cut ≠ 0 ∨ es.length = 0) ∧ s.run es = s) ∨
    (s.cut = 0 ∧ 0 < es.length ∧ (scan s.u (es.map fun e => e.dat.n)).2 = false ∧ s.run es = ⟨s.P ++ es, s.Q, false, s.rn, (scan s.u (es.map fun e => e.dat.n)).1, 0, true⟩) ∨
    (s.cut = 0 ∧ 0 < es.length ∧ (scan s.u (es.map fun e => e.dat.n)).2 = true ∧ s.run es = ⟨[], [], true, true, (scan s.u (es.map fun e => e.dat.n)).1, 1, true⟩) := by
  by_cases h : s.cut = 0
  · cases es with
    | nil => exact .inl ⟨.inr rfl, rfl⟩
    | cons e r =>
      have := St.run_scan s h (e :: r)
      cases hs : (scan s.u ((e :: r).map fun e => e.dat.n)).2 with
      | false =>
        refine .inr (.inl ⟨h, by simp, rfl, ?_⟩)
        rw [this.1 hs]
        simp
      | true =>
        refine .inr (.inr ⟨h, by simp, rfl, ?_⟩)
        rw [this.2 hs]
  · exact .inl ⟨.inl h, St.run_cut h es⟩

theorem evsAt_nil (w : World) (S : Nat → Prop) : EvsAt w S none none none [] [] [] [] :=
  ⟨fun i hi => by simp at hi, fun i hi => by simp at hi, fun i hi => by simp at hi, DatsAt.nil _ _, rfl, rfl⟩

/-- events handed back as three rows -/
theorem evsAt_fields {w : World} {S : Nat → Prop} {ga gb gc : Option Addr} {es : List Ev} {X : List (List Int)} (h1 : RowAt w ga (es.map fun e => .string e.name)) (h2 : RowAt w gb (es.map fun e => .int .u64 e.id)) (h3 : RowAt w gc (es.map fun e => e.dat.v)) (hd : DatsAt w S (es.map Ev.dat) X) :
    EvsAt w S ga gb gc (es.map Ev.name) (es.map Ev.id) (es.map Ev.dat) X := by
  refine ⟨?_, ?_, ?_, hd, by simp, by simp⟩
  · rw [List.map_map]; exact h1
  · rw [List.map_map]; exact h2
  · rw [List.map_map]; exact h3

theorem Arg.evsAt {w : World} {na ia da : Option Addr} {nc ic dc n : Nat} {N : List ByteArray} {I : List Int} {D : List Sl} {X : List (List Int)} (h : Arg w na ia da nc ic dc n n n N I D X) : EvsAt w (· < w.heap.size) na ia da N I D X :=
  ⟨h.rN, h.rI, h.rD, h.dats, by rw [h.eI, h.eN], by rw [h.eD, h.eN]⟩

theorem RowAt.later {w w' : World} {B b n : Nat} {vs : List Value} (h : RowAt w (some ⟨b, 0, none⟩) vs) (hb : Below B w w') (hB : b < B) : RowAt w' (some ⟨b, 0, none⟩) vs :=
  h.same (Same.of_below (S := fun k => k < B) hb fun _ h => h) (Held.new _ _ _ hB)

theorem dats_small {w : World} {S : Nat → Prop} {D : List Sl} {X : List (List Int)} (h : DatsAt w S D X) (hs : ∀ i, (h : i < D.length) → D[i].n ≤ 1048576) : ∀ (i : Nat) (x : List Int), X[i]? = some x → x.length ≤ 1048576 := by
  intro i x hx
  obtain ⟨hi, _⟩ := List.getElem?_eq_some_iff.1 hx
  have hk : i < D.length := by rw [h.len]; exact hi
  rw [← (h.each i D[i] x (by simp) hx).len]
  exact hs i hk

/-- zzEventsAre over what the reader hands back: pending or replayed alone -/
theorem are_one {w : World} {S : Nat → Prop} {ga gb gc na ia da : Option Addr} {nc ic dc n c1 c2 c3 : Nat} {N : List ByteArray} {I : List Int} {D E : List Sl} {X : List (List Int)} (h : Arg w na ia da nc ic dc n n n N I D X) (hs : Small N n D) (hE : E.length = N.length)
    (h1 : RowAt w ga ((evs N I E).map fun e => .string e.name)) (h2 : RowAt w gb ((evs N I E).map fun e => .int .u64 e.id)) (h3 : RowAt w gc ((evs N I E).map fun e => e.dat.v)) (hd : DatsAt w S E X) :
    Calls Try.prog 20 #[.slice ga n c1, .slice gb n c2, .slice gc n c3, .slice na n nc, .slice ia n ic, .slice da n dc, .slice none 0 0, .slice none 0 0, .slice none 0 0] w fun e w' => e = .returned (.bool true) ∧ ∃ m, w' = w.drewN m := by
  have eI : I.length = N.length := by rw [h.eI, h.eN]
  have hf := evsAt_fields h1 h2 h3 (by rw [evs_dats N I E eI hE]; exact hd)
  rw [evs_names N I E eI hE, evs_ids N I E eI hE, evs_dats N I E eI hE] at hf
  refine eventsAre_same N [] I [] E D [] X [] S (· < w.heap.size) (fun _ => False) ga gb gc na ia da none none none c1 c2 c3 nc ic dc 0 0 0 w hs.ln (by simp) (dats_small h.dats hs.sd) (by simp) (by simpa using hf) h.evsAt (evsAt_nil _ _) n n 0 (by simp [h.eN]) h.eN.symm rfl

/-- .. pending and the script behind it -/
theorem are_two {w : World} {S : Nat → Prop} {ga gb gc na ia da ma ja ea : Option Addr} {nc ic dc n mc jc ec m c1 c2 c3 : Nat} {N M : List ByteArray} {I J : List Int} {D D2 E E2 : List Sl} {X X2 : List (List Int)} (h : Arg w na ia da nc ic dc n n n N I D X) (hs : Small N n D) (h' : Arg w ma ja ea mc jc ec m m m M J D2 X2) (hs' : Small M m D2) (hE : E.length = N.length) (hE2 : E2.length = M.length)
    (h1 : RowAt w ga ((evs N I E ++ evs M J E2).map fun e => .string e.name)) (h2 : RowAt w gb ((evs N I E ++ evs M J E2).map fun e => .int .u64 e.id)) (h3 : RowAt w gc ((evs N I E ++ evs M J E2).map fun e => e.dat.v)) (hd : DatsAt w S E X) (hd2 : DatsAt w S E2 X2) (l : Nat) (hl : l = n + m) :
    Calls Try.prog 20 #[.slice ga l c1, .slice gb l c2, .slice gc l c3, .slice na n nc, .slice ia n ic, .slice da n dc, .slice ma m mc, .slice ja m jc, .slice ea m ec] w fun e w' => e = .returned (.bool true) ∧ ∃ m, w' = w.drewN m := by
  have eI : I.length = N.length := by rw [h.eI, h.eN]
  have eJ : J.length = M.length := by rw [h'.eI, h'.eN]
  have hf := evsAt_fields h1 h2 h3 (by rw [List.map_append, evs_dats N I E eI hE, evs_dats M J E2 eJ hE2]; exact hd.append hd2)
  rw [List.map_append, List.map_append, List.map_append, evs_names N I E eI hE, evs_ids N I E eI hE, evs_dats N I E eI hE, evs_names M J E2 eJ hE2, evs_ids M J E2 eJ hE2, evs_dats M J E2 eJ hE2] at hf
  exact eventsAre_same N M I J (E ++ E2) D D2 X X2 S (· < w.heap.size) (· < w.heap.size) ga gb gc na ia da ma ja ea c1 c2 c3 nc ic dc mc jc ec w hs.ln hs'.ln (dats_small h.dats hs.sd) (dats_small h'.dats hs'.sd) hf h.evsAt h'.evsAt l n m (by rw [hl, h.eN, h'.eN]) h.eN.symm h'.eN.symm

/-- .. nothing at all -/
theorem are_none {w : World} {ga gb gc na ia da : Option Addr} {nc ic dc c1 c2 c3 : Nat} : 
    Calls Try.prog 20 #[.slice ga 0 c1, .slice gb 0 c2, .slice gc 0 c3, .slice na 0 nc, .slice ia 0 ic, .slice da 0 dc, .slice none 0 0, .slice none 0 0, .slice none 0 0] w fun e w' => e = .returned (.bool true) ∧ ∃ m, w' = w.drewN m :=
  eventsAre_same [] [] [] [] [] [] [] [] [] (fun _ => False) (fun _ => False) (fun _ => False) ga gb gc na ia da none none none c1 c2 c3 nc ic dc 0 0 0 w (by simp) (by simp) (by simp) (by simp)
    ⟨fun i hi => by simp at hi, fun i hi => by simp at hi, fun i hi => by simp at hi, DatsAt.nil _ _, rfl, rfl⟩ ⟨fun i hi => by simp at hi, fun i hi => by simp at hi, fun i hi => by simp at hi, DatsAt.nil _ _, rfl, rfl⟩ (evsAt_nil _ _) 0 0 0 rfl rfl rfl

/-- ZZReaderPending, ZZReaderReplay with the length under a name -/
def FieldsN (w : World) (ao : Option Addr) (n : Nat) (es : List Ev) (e : Ending) (w' : World) : Prop :=
  e = .returned (.tuple #[.slice (some ⟨w.heap.size, 0, none⟩) n n, .slice (some ⟨w.heap.size + 1, 0, none⟩) n n, .slice (some ⟨w.heap.size + 2, 0, none⟩) n n, .bool ao.isNone]) ∧
  RowAt w' (some ⟨w.heap.size, 0, none⟩) (es.map fun e => .string e.name) ∧ RowAt w' (some ⟨w.heap.size + 1, 0, none⟩) (es.map fun e => .int .u64 e.id) ∧ RowAt w' (some ⟨w.heap.size + 2, 0, none⟩) (es.map fun e => e.dat.v) ∧
  w.heap.size + 3 ≤ w'.heap.size ∧ Below w.heap.size w w'

section
variable {w : World} {H R c : Nat} {pv rv : Sl} {P Q : List Ev} {u cut : Int} {tok : Bool}
theorem pending_of {pa : Option Addr} {pc n : Nat} (hn : P.length = n) (h : Rd w H R c ⟨pa, P.length, pc⟩ rv P Q u cut tok) (hsm : n ≤ 4194304) : Calls Try.prog 15 #[.pointer (some ⟨R, 0, none⟩)] w (FieldsN w pa n P) := by
  subst hn
  exact pending_any h hsm
theorem replay_of {ra : Option Addr} {rc n : Nat} (hn : Q.length = n) (h : Rd w H R c pv ⟨ra, Q.length, rc⟩ P Q u cut tok) (hsm : n ≤ 4194304) : Calls Try.prog 16 #[.pointer (some ⟨R, 0, none⟩)] w (FieldsN w ra n Q) := by
  subst hn
  exact replay_any h hsm
end

theorem tot_take_le (c : Nat) (l : List Nat) (k : Nat) : tot c (l.take k) ≤ tot c l := by
  conv => rhs; rw [← List.take_append_drop k l]
  rw [tot_append]
  omega

/-- carried on: three new rows -/
structure Three (w : World) (b : Nat) (es : List Ev) : Prop where
  r1 : RowAt w (some ⟨b, 0, none⟩) (es.map fun e => .string e.name)
  r2 : RowAt w (some ⟨b + 1, 0, none⟩) (es.map fun e => .int .u64 e.id)
  r3 : RowAt w (some ⟨b + 2, 0, none⟩) (es.map fun e => e.dat.v)
  lt : b + 3 ≤ w.heap.size
theorem Three.later {w w' : World} {b : Nat} {es : List Ev} (h : Three w b es) (hb : Below w.heap.size w w') : Three w' b es := by
  have := h.lt
  exact ⟨h.r1.later (n := 0) hb (by omega), h.r2.later (n := 0) hb (by omega), h.r3.later (n := 0) hb (by omega), Nat.le_trans h.lt hb.size⟩

theorem below_drewN' (w : World) (m : Nat) : Below w.heap.size w (w.drewN m) := by
  induction m with
  | zero => exact Below.refl _ _
  | succ m ih => exact ih.drew

theorem dats_later {w w' : World} {S : Nat → Prop} {D : List Sl} {X : List (List Int)} (h : DatsAt w S D X) (hS : ∀ b, S b → b < w.heap.size) (hb : Below w.heap.size w w') : DatsAt w' S D X := h.same (Same.of_below hb hS)

end Go.Proofs.Qxb6613968a
