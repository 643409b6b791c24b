/-
  Seat b6613968a. Events in memory; the walks of zzMakeEvents (28) and zzEventFields (31). By an AI agent.
-/
import Derived.Test.Qxb6613968aClones
import Derived.Test.Qxb6613968aEquals
namespace Go.Proofs.Qxb6613968a
open Go.RowKit
set_option linter.unusedVariables false
set_option linter.unusedSimpArgs false

structure Ev where
  name : ByteArray
  id : Int
  dat : Sl
def Ev.cells (e : Ev) : List Value := [.string e.name, .int .u64 e.id, e.dat.v]
def evCells : List Ev → List Value
  | [] => []
  | e :: r => e.cells ++ evCells r

theorem evCells_length (es : List Ev) : (evCells es).length = es.length * 3 := by
  induction es with
  | nil => rfl
  | cons e r ih => simp only [evCells, List.length_append, ih, Ev.cells, List.length_cons, List.length_nil]; omega
theorem evCells_append (a b : List Ev) : evCells (a ++ b) = evCells a ++ evCells b := by
  induction a with
  | nil => rfl
  | cons e r ih => simp only [List.cons_append, evCells, ih, List.append_assoc]
theorem evCells_get (es : List Ev) (k j : Nat) (e : Ev) (h : es[k]? = some e) (hj : j < 3) : (evCells es)[k * 3 + j]? = e.cells[j]? := by
  induction es generalizing k with
  | nil => simp at h
  | cons x r ih =>
    cases k with
    | zero =>
      simp at h; subst h
      simp only [evCells, Nat.zero_mul, Nat.zero_add]
      rw [List.getElem?_append_left (by simp [Ev.cells]; omega)]
    | succ k =>
      simp only [evCells]
      rw [List.getElem?_append_right (by simp [Ev.cells]; omega)]
      have e2 : (k + 1) * 3 + j - x.cells.length = k * 3 + j := by simp [Ev.cells]; omega
      rw [e2]
      exact ih k (by simpa using h)

theorem Try.info60 : (Try.prog.info? 60).map (fun i => (i.zero, i.size, i.bytes)) = some (some (.agg #[.string ByteArray.empty, .int .u64 0, .slice none 0 0]), 3, 48) := by kernel_rfl

/-- the events of three rows -/
def evs : List ByteArray → List Int → List Sl → List Ev
  | n :: ns, i :: is, d :: ds => ⟨n, i, d⟩ :: evs ns is ds
  | _, _, _ => []

theorem evs_get (N : List ByteArray) (I : List Int) (D : List Sl) (k : Nat) (s : ByteArray) (i : Int) (d : Sl) (h1 : N[k]? = some s) (h2 : I[k]? = some i) (h3 : D[k]? = some d) : (evs N I D)[k]? = some ⟨s, i, d⟩ := by
  induction N generalizing I D k with
  | nil => simp at h1
  | cons n ns ih =>
    match I, D, h2, h3 with
    | [], _, h2, _ => simp at h2
    | _ :: _, [], _, h3 => simp at h3
    | j :: js, e :: es, h2, h3 =>
      cases k with
      | zero => simp at h1 h2 h3; subst h1 h2 h3; rfl
      | succ k => simp only [evs]; simpa using ih js es k (by simpa using h1) (by simpa using h2) (by simpa using h3)

theorem evs_length (N : List ByteArray) (I : List Int) (D : List Sl) (h1 : I.length = N.length) (h2 : D.length = N.length) : (evs N I D).length = N.length := by
  induction N generalizing I D with
  | nil => cases I <;> cases D <;> simp_all [evs]
  | cons n ns ih =>
    match I, D, h1, h2 with
    | j :: js, e :: es, h1, h2 => simp only [evs, List.length_cons]; rw [ih js es (by simpa using h1) (by simpa using h2)]

section
variable {w : World} {base B k cap : Nat} {xs : List Value}

theorem owns_room (h : w.ownsRow base 60 3 (.slice (some ⟨B, 0, none⟩) k cap) k xs) (hk : k < cap) : ∀ j, j < 3 → (∃ v, w.cell? ⟨B, k * 3 + j, none⟩ = some v) ∧ w.frozen? ⟨B, k * 3 + j, none⟩ = false := by
  intro j hj
  rcases h.2 with ⟨h1, _⟩ | ⟨g, cap', cur, hv, hg, hh, h1, h2, h3, h4⟩
  · cases h1
  · cases hv
    have hlt : k * 3 + j < cur.size := by omega
    exact ⟨⟨cur[k * 3 + j], by simp [World.cell?, hh, hlt]⟩, by simp [World.frozen?, hh]⟩

theorem heap_setCell_same {t : TypeId} {cur : Array Value} {fr : Nat × Nat} (hh : w.heap[B]? = some (.cells cur t fr)) (o : Nat) (v : Value) : (w.setCell ⟨B, o, none⟩ v).heap[B]? = some (.cells (cur.setIfInBounds o v) t fr) := by
  simp [World.setCell, Array.getElem?_modify, hh]

theorem take_set3 (c : List Value) (m : Nat) (x y z : Value) (h : m + 2 < c.length) : (((c.set m x).set (m + 1) y).set (m + 2) z).take (m + 3) = c.take m ++ [x, y, z] := by
  apply List.ext_getElem?
  intro i
  by_cases h1 : i < m
  · rw [List.getElem?_take_of_lt (by omega), List.getElem?_append_left (by simp; omega), List.getElem?_take_of_lt h1]
    rw [List.getElem?_set_ne (by omega), List.getElem?_set_ne (by omega), List.getElem?_set_ne (by omega)]
  · rw [List.getElem?_append_right (by simp; omega)]
    have hm : (c.take m).length = m := by simp; omega
    rw [hm]
    by_cases h2 : i < m + 3
    · rw [List.getElem?_take_of_lt h2]
      have : i = m ∨ i = m + 1 ∨ i = m + 2 := by omega
      rcases this with rfl | rfl | rfl
      · rw [List.getElem?_set_ne (by omega), List.getElem?_set_ne (by omega), List.getElem?_set_self (by omega)]; simp
      · rw [List.getElem?_set_ne (by omega), List.getElem?_set_self (by simp; omega)]; simp
      · rw [List.getElem?_set_self (by simp; omega)]; simp
    · rw [List.getElem?_take_eq_none (by omega)]
      rw [List.getElem?_eq_none (by simp; omega)]

theorem owns_store (h : w.ownsRow base 60 3 (.slice (some ⟨B, 0, none⟩) k cap) k xs) (hk : k < cap) (x y z : Value) :
    (((w.setCell ⟨B, k * 3, none⟩ x).setCell ⟨B, k * 3 + 1, none⟩ y).setCell ⟨B, k * 3 + 2, none⟩ z).ownsRow base 60 3 (.slice (some ⟨B, 0, none⟩) (k + 1) cap) (k + 1) (xs ++ [x, y, z]) := by
  rcases h.2 with ⟨h1, _⟩ | ⟨g, cap', cur, hv, hg, hh, h1, h2, h3, h4⟩
  · cases h1
  · cases hv
    refine ⟨by simp [h.1]; omega, .inr ⟨B, cap, _, rfl, hg, heap_setCell_same (heap_setCell_same (heap_setCell_same hh _ _) _ _) _ _, by omega, h2, by simpa using h3, ?_⟩⟩
    rw [show (k + 1) * 3 = k * 3 + 3 from by omega]
    simp only [Array.toList_setIfInBounds]
    rw [take_set3 _ _ _ _ _ (by simp; omega), h4]
end

theorem owns_drew {w : World} {base : Nat} {e : TypeId} {size : Nat} {v : Value} {n : Nat} {xs : List Value} (h : w.ownsRow base e size v n xs) : w.drew.ownsRow base e size v n xs := h

set_option maxHeartbeats 800000 in
set_option maxRecDepth 100000 in
theorem makeEvents_some (N : List ByteArray) (I : List Int) (D : List Sl) (ad : Addr) (ia da : Option Addr) (nc ic dc n : Nat) (w : World) (hn : n = N.length) (hnb : N.length ≤ 1048576) (hi : I.length = N.length) (hd : D.length = N.length)
    (gN : Held (· < w.heap.size) (some ad) n) (gI : Held (· < w.heap.size) ia n) (gD : Held (· < w.heap.size) da n)
    (hN : RowAt w (some ad) (N.map Value.string)) (hI : RowAt w ia (I.map (Value.int .u64))) (hD : RowAt w da (D.map Sl.v)) :
    Calls Try.prog 28 #[.slice (some ad) n nc, .slice ia n ic, .slice da n dc] w fun e w' =>
      e = .returned (.slice (some ⟨w.heap.size, 0, none⟩) n n) ∧ w'.ownsRow w.heap.size 60 3 (.slice (some ⟨w.heap.size, 0, none⟩) n n) n (evCells (evs N I D)) ∧ Below w.heap.size w w' := by
  have q22 : ∀ (w : World) (a : Option Addr) (n c n' c' : Nat), (binOp .eql 22 (.slice a n c) (.slice none n' c')).run Try.prog w = .ok (.bool a.isNone) w := fun w a n c n' c' => Lib.run_eql_slice_nil w _ _ a n c n' c' Try.underlying22
  obtain ⟨i0, hi0, hz0, hz1, hz2⟩ := info_parts Try.info60
  have hmk : ∀ w : World, (Instr.makeSlice 51 (.int .i64 (n : Int)) (.int .i64 (n : Int))).run Try.prog w = .ok (.slice (some ⟨w.heap.size, 0, none⟩) n n) (w.alloc (.cells (madeCells #[.string ByteArray.empty, .int .u64 0, .slice none 0 0] (n * 3)) 60)) := by
    intro w
    have hr := run_make (P := Try.prog) w 51 60 i0 _ Try.underlying51 hi0 hz0 .i64 .i64 n n (by omega) (Int.le_refl _) (by rw [hz2]; omega) (by omega)
    simpa [hz1, Value.cells] using hr
  clear hi0 hz0 hz1 hz2
  have HI : Hid (I.length = n) := by rw [hn]; exact hi
  have HDl : Hid (D.length = n) := by rw [hn]; exact hd
  have HN : Hid (N.length = n) := hn.symm
  rw [← hn] at hnb
  clear hi hd hn
  go_enter Try.func28, Try.ntmps28
  go_wp2
  clear hmk q22
  have hmade : (w.alloc (.cells (madeCells #[.string ByteArray.empty, .int .u64 0, .slice none 0 0] (n * 3)) 60)).ownsRow w.heap.size 60 3 (.slice (some ⟨w.heap.size, 0, none⟩) 0 n) 0 (evCells []) :=
    World.ownsRow_made w _ n (Nat.le_refl _) (by unfold maxLen; omega) (by rw [size_madeCells])
  go_loopw [16] (fun i wr => ∃ k : Nat, k ≤ n ∧ i = .int .i64 k ∧ wr.ownsRow w.heap.size 60 3 (.slice (some ⟨w.heap.size, 0, none⟩) k n) k (evCells ((evs N I D).take k)) ∧ Below w.heap.size w wr) (fun i _ => n - (intOf i).toNat)
  case atStart => exact ⟨0, Nat.zero_le _, rfl, hmade, (Below.refl _ _).alloc (Nat.le_refl _) _⟩
  case round =>
    clear hmade
    obtain ⟨k, hk, rfl, hr, hb⟩ := hrel
    by_cases hlt : k < n
    · obtain ⟨b1, o1, e1, c1⟩ := hN k (by simp [HN.out, hlt])
      obtain ⟨b2, o2, e2, c2⟩ := hI k (by simp [HI.out, hlt])
      obtain ⟨b3, o3, e3, c3⟩ := hD k (by simp [HDl.out, hlt])
      cases e1
      subst e2 e3
      have f1 := (hb.cell (p := ⟨b1, o1 + k, none⟩) (gN (by omega) b1 o1 rfl)).trans c1
      have f2 := (hb.cell (p := ⟨b2, o2 + k, none⟩) (gI (by omega) b2 o2 rfl)).trans c2
      have f3 := (hb.cell (p := ⟨b3, o3 + k, none⟩) (gD (by omega) b3 o3 rfl)).trans c3
      simp only [List.getElem_map] at f1 f2 f3
      clear c1 c2 c3
      have hk1 : k < N.length := by rw [HN.out]; exact hlt
      have hk2 : k < I.length := by rw [HI.out]; exact hlt
      have hk3 : k < D.length := by rw [HDl.out]; exact hlt
      have HE : Hid ((evs N I D)[k]? = some ⟨N[k], I[k], D[k]⟩) := evs_get N I D k N[k] I[k] D[k] (by simp) (by simp) (by simp)
      generalize N[k] = s at f1 HE
      generalize I[k] = i at f2 HE
      generalize D[k] = d at f3 HE
      obtain ⟨da, dn, dc'⟩ := d
      unfold Sl.v at f3
      simp only at f3
      clear hk1 hk2 hk3
      have hlt' : (k : Int) < (n : Int) := by omega
      obtain ⟨⟨v0, g0⟩, z0⟩ := owns_room hr hlt 0 (by omega)
      obtain ⟨⟨v1, g1⟩, z1⟩ := owns_room hr hlt 1 (by omega)
      obtain ⟨⟨v2, g2⟩, z2⟩ := owns_room hr hlt 2 (by omega)
      simp only [Nat.add_zero] at g0 z0
      have HST := owns_store hr hlt (.string s) (.int .u64 i) (.slice da dn dc')
      have HS : Hid ((((wr.setCell ⟨w.heap.size, k * 3, none⟩ (.string s)).setCell ⟨w.heap.size, k * 3 + 1, none⟩ (.int .u64 i)).setCell ⟨w.heap.size, k * 3 + 2, none⟩ (.slice da dn dc')).ownsRow w.heap.size 60 3 (.slice (some ⟨w.heap.size, 0, none⟩) (k + 1) n) (k + 1) (evCells ((evs N I D).take (k + 1)))) := by
        rw [take_snoc _ _ _ HE.out, evCells_append]
        exact HST
      clear HST hr
      go_wp2
      go_region
      go_wp2
      go_roundw
      case rel => exact ⟨k + 1, by omega, by go_num, HS.out, (((hb.setCell (p := ⟨w.heap.size, k * 3, none⟩) (Nat.le_refl _) _).setCell (p := ⟨w.heap.size, k * 3 + 1, none⟩) (Nat.le_refl _) _).setCell (p := ⟨w.heap.size, k * 3 + 2, none⟩) (Nat.le_refl _) _).drew⟩
      case measure => simp [intOf]; omega
    · have hkn : k = n := by omega
      subst hkn
      have HR : Hid (wr.ownsRow w.heap.size 60 3 (.slice (some ⟨w.heap.size, 0, none⟩) k k) k (evCells (evs N I D))) := by
        have := hr
        rw [List.take_of_length_le (by rw [evs_length _ _ _ (by rw [HI.out, HN.out]) (by rw [HDl.out, HN.out]), HN.out]; exact Nat.le_refl _)] at this
        exact this
      clear hr
      go_wp2
      go_ret
      exact ⟨rfl, HR.out, hb⟩

theorem makeEvents_nil (ia da : Option Addr) (nc ic dc in_ dn : Nat) (w : World) (hc : nc = 0) :
    Calls Try.prog 28 #[.slice none 0 nc, .slice ia in_ ic, .slice da dn dc] w fun e w' => e = .returned (.slice none 0 0) ∧ w' = w := by
  have q22 : ∀ (w : World) (a : Option Addr) (n c n' c' : Nat), (binOp .eql 22 (.slice a n c) (.slice none n' c')).run Try.prog w = .ok (.bool a.isNone) w := fun w a n c n' c' => Lib.run_eql_slice_nil w _ _ a n c n' c' Try.underlying22
  go_enter Try.func28, Try.ntmps28
  go_wp2
  go_ret
  exact ⟨rfl, rfl⟩

/-- the k-th event lies in the three cells from k * 3 on -/
def EvRow (w : World) (ao : Option Addr) (es : List Ev) : Prop :=
  ∀ (k : Nat) (e : Ev), es[k]? = some e → ∃ g off, ao = some ⟨g, off, none⟩ ∧ w.cell? ⟨g, off + k * 3, none⟩ = some (.string e.name) ∧ w.cell? ⟨g, off + k * 3 + 1, none⟩ = some (.int .u64 e.id) ∧ w.cell? ⟨g, off + k * 3 + 2, none⟩ = some (.slice e.dat.a e.dat.n e.dat.c)

theorem evRow_of_owns {w : World} {base : Nat} {ao : Option Addr} {cap : Nat} {es : List Ev} (h : w.ownsRow base 60 3 (.slice ao es.length cap) es.length (evCells es)) : EvRow w ao es := by
  intro k e he
  obtain ⟨hk, _⟩ := List.getElem?_eq_some_iff.1 he
  rcases h.2 with ⟨h1, h2⟩ | ⟨g, cap', cur, hv, hg, hh, h1, h2, h3, h4⟩
  · omega
  · cases hv
    have hc : ∀ j, j < 3 → w.cell? ⟨g, 0 + k * 3 + j, none⟩ = e.cells[j]? := by
      intro j hj
      rw [Nat.zero_add, h.cellAt (k * 3 + j) (by omega), evCells_get es k j e he hj]
    exact ⟨g, 0, rfl, hc 0 (by omega), hc 1 (by omega), hc 2 (by omega)⟩

set_option maxHeartbeats 800000 in
set_option maxRecDepth 100000 in
theorem eventFields_any (es : List Ev) (ao : Option Addr) (cap n : Nat) (w : World) (hn : n = es.length) (hnb : n ≤ 4194304) (hh : Held (· < w.heap.size) ao n) (hE : EvRow w ao es) :
    Calls Try.prog 31 #[.slice ao n cap] w fun e w' =>
      e = .returned (.tuple #[.slice (some ⟨w.heap.size, 0, none⟩) n n, .slice (some ⟨w.heap.size + 1, 0, none⟩) n n, .slice (some ⟨w.heap.size + 2, 0, none⟩) n n]) ∧
      RowAt w' (some ⟨w.heap.size, 0, none⟩) (es.map fun e => .string e.name) ∧ RowAt w' (some ⟨w.heap.size + 1, 0, none⟩) (es.map fun e => .int .u64 e.id) ∧ RowAt w' (some ⟨w.heap.size + 2, 0, none⟩) (es.map fun e => e.dat.v) ∧
      w.heap.size + 3 ≤ w'.heap.size ∧ Below w.heap.size w w' := by
  have hm1 := run_make_row' (P := Try.prog) 22 9 (.string ByteArray.empty) 16 Try.underlying22 Try.info9 rfl .i64 .i64 n (by omega) (by omega)
  have hm2 := run_make_row' (P := Try.prog) 23 35 (.int .u64 0) 8 Try.underlying23 Try.info35 rfl .i64 .i64 n (by omega) (by omega)
  have hm3 := run_make_row' (P := Try.prog) 24 36 (.slice none 0 0) 24 Try.underlying24 Try.info36 rfl .i64 .i64 n (by omega) (by omega)
  have HN : Hid (n = es.length) := hn
  clear hn
  go_enter Try.func31, Try.ntmps31
  go_wp2
  clear hm1 hm2 hm3
  have r1 := (((World.rowIs_made w (.string ByteArray.empty) n 9).alloc (.cells (madeCells #[.int .u64 0] n) 35)).alloc (.cells (madeCells #[.slice none 0 0] n) 36))
  have r2 := ((World.rowIs_made (w.alloc (.cells (madeCells #[.string ByteArray.empty] n) 9)) (.int .u64 0) n 35).alloc (.cells (madeCells #[.slice none 0 0] n) 36))
  have r3 := World.rowIs_made ((w.alloc (.cells (madeCells #[.string ByteArray.empty] n) 9)).alloc (.cells (madeCells #[.int .u64 0] n) 35)) (.slice none 0 0) n 36
  simp only [World.size_alloc] at r2 r3
  have R1 := rowIs_start (es.map fun e => Value.string e.name) r1
  have R2 := rowIs_start (es.map fun e => Value.int .u64 e.id) r2
  have R3 := rowIs_start (es.map fun e => e.dat.v) r3
  clear r1 r2 r3
  go_loopw [20] (fun i wr => ∃ k : Nat, k ≤ n ∧ i = .int .i64 k ∧ wr.rowIs w.heap.size 9 n (part (es.map fun e => Value.string e.name) (.string ByteArray.empty) k) ∧ wr.rowIs (w.heap.size + 1) 35 n (part (es.map fun e => Value.int .u64 e.id) (.int .u64 0) k) ∧
      wr.rowIs (w.heap.size + 2) 36 n (part (es.map fun e => e.dat.v) (.slice none 0 0) k) ∧ Below w.heap.size w wr) (fun i _ => n - (intOf i).toNat)
  case atStart => exact ⟨0, Nat.zero_le _, rfl, R1, R2, R3, (((Below.refl _ _).alloc (Nat.le_refl _) _).alloc (by simp) _).alloc (by simp; omega) _⟩
  case round =>
    clear R1 R2 R3
    obtain ⟨k, hk, rfl, R1, R2, R3, hb⟩ := hrel
    by_cases hlt : k < n
    · obtain ⟨e, he⟩ : ∃ e, es[k]? = some e := ⟨es[k]'(by rw [← HN.out]; exact hlt), by simp⟩
      obtain ⟨g, off, ea, c1, c2, c3⟩ := hE k e he
      subst ea
      have hg := hh (by omega) g off rfl
      have f1 := (hb.cell (p := ⟨g, off + k * 3, none⟩) hg).trans c1
      have f2 := (hb.cell (p := ⟨g, off + k * 3 + 1, none⟩) hg).trans c2
      have f3 := (hb.cell (p := ⟨g, off + k * 3 + 2, none⟩) hg).trans c3
      clear c1 c2 c3
      have S1 := (rowIs_step R1 (v := .string e.name) (by simp [he]))
      have S2 := (rowIs_step R2 (v := .int .u64 e.id) (by simp [he]))
      have z1 := R1.frozen k
      have z2 := R2.frozen k
      have z3 := R3.frozen k
      have d1 := R1.cell hlt
      have d2 := R2.cell hlt
      have d3 := R3.cell hlt
      have T1 : Hid ((((wr.setCell ⟨w.heap.size, k, none⟩ (.string e.name)).setCell ⟨w.heap.size + 1, k, none⟩ (.int .u64 e.id)).setCell ⟨w.heap.size + 2, k, none⟩ (.slice e.dat.a e.dat.n e.dat.c)).rowIs w.heap.size 9 n (part (es.map fun e => Value.string e.name) (.string ByteArray.empty) (k + 1))) :=
        (S1.setOther (by simp) _).setOther (by simp) _
      have T2 : Hid ((((wr.setCell ⟨w.heap.size, k, none⟩ (.string e.name)).setCell ⟨w.heap.size + 1, k, none⟩ (.int .u64 e.id)).setCell ⟨w.heap.size + 2, k, none⟩ (.slice e.dat.a e.dat.n e.dat.c)).rowIs (w.heap.size + 1) 35 n (part (es.map fun e => Value.int .u64 e.id) (.int .u64 0) (k + 1))) :=
        (rowIs_step (R2.setOther (a := ⟨w.heap.size, k, none⟩) (by simp) _) (v := .int .u64 e.id) (by simp [he])).setOther (by simp) _
      have T3 : Hid ((((wr.setCell ⟨w.heap.size, k, none⟩ (.string e.name)).setCell ⟨w.heap.size + 1, k, none⟩ (.int .u64 e.id)).setCell ⟨w.heap.size + 2, k, none⟩ (.slice e.dat.a e.dat.n e.dat.c)).rowIs (w.heap.size + 2) 36 n (part (es.map fun e => e.dat.v) (.slice none 0 0) (k + 1))) :=
        rowIs_step ((R3.setOther (a := ⟨w.heap.size, k, none⟩) (by simp) _).setOther (a := ⟨w.heap.size + 1, k, none⟩) (by simp) _) (v := .slice e.dat.a e.dat.n e.dat.c) (by simp [he, Sl.v])
      clear S1 S2 R1 R2 R3
      have HE : Hid (es[k]? = some e) := he
      clear he
      have n1 : ¬ g = w.heap.size := by omega
      have n2 : ¬ g = w.heap.size + 1 := by omega
      have n3 : ¬ g = w.heap.size + 2 := by omega
      have hlt' : (k : Int) < (n : Int) := by omega
      go_wp2
      go_roundw
      case rel => exact ⟨k + 1, by omega, by go_num, T1.out, T2.out, T3.out, ((hb.setCell (p := ⟨w.heap.size, k, none⟩) (Nat.le_refl _) _).setCell (p := ⟨w.heap.size + 1, k, none⟩) (by simp) _).setCell (p := ⟨w.heap.size + 2, k, none⟩) (by simp) _⟩
      case measure => simp [intOf]; omega
    · have hkn : k = n := by omega
      subst hkn
      have h3 := R3.lt
      have hl := HN.out
      have Q1 : Hid (RowAt wr (some ⟨w.heap.size, 0, none⟩) (es.map fun e => Value.string e.name)) := rowIs_rowAt (t := 9) (z := .string ByteArray.empty) (by have := R1; rw [hl] at this; simpa using this)
      have Q2 : Hid (RowAt wr (some ⟨w.heap.size + 1, 0, none⟩) (es.map fun e => Value.int .u64 e.id)) := rowIs_rowAt (t := 35) (z := .int .u64 0) (by have := R2; rw [hl] at this; simpa using this)
      have Q3 : Hid (RowAt wr (some ⟨w.heap.size + 2, 0, none⟩) (es.map fun e => e.dat.v)) := rowIs_rowAt (t := 36) (z := .slice none 0 0) (by have := R3; rw [hl] at this; simpa using this)
      clear R1 R2 R3 hl
      go_wp2
      go_ret3
      exact ⟨rfl, Q1.out, Q2.out, Q3.out, by omega, hb⟩

end Go.Proofs.Qxb6613968a
