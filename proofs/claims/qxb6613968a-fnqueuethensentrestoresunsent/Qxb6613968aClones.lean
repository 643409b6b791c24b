/-
  Seat b6613968a. The walks of the copies: zzCloneStrings (11), zzCloneWords (12), zzCloneByteSlice (29), zzCloneBytesList (13). By an AI agent.
-/
import Derived.Test.Qxb6613968aProg
import Derived.Test.Qxb6613968aMem
namespace Go.Proofs.Qxb6613968a
open Go.RowKit
set_option linter.unusedVariables false
set_option linter.unusedSimpArgs false

theorem Try.info9 : (Try.prog.info? 9).map (fun i => (i.zero, i.size, i.bytes)) = some (some (.string ByteArray.empty), 1, 16) := by kernel_rfl
theorem Try.info35 : (Try.prog.info? 35).map (fun i => (i.zero, i.size, i.bytes)) = some (some (.int .u64 0), 1, 8) := by kernel_rfl
theorem Try.info36 : (Try.prog.info? 36).map (fun i => (i.zero, i.size, i.bytes)) = some (some (.slice none 0 0), 1, 24) := by kernel_rfl
theorem Try.info5 : (Try.prog.info? 5).map (fun i => (i.zero, i.size, i.bytes)) = some (some (.int .u8 0), 1, 1) := by kernel_rfl

/-- the blocks from lo up to hi -/
def Span (lo hi : Nat) (b : Nat) : Prop := lo ≤ b ∧ b < hi

/-- what a copy hands back: a slice of the same length, nil where it was nil, over a new row of the same values -/
def Cloned (w : World) (ao : Option Addr) (vs : List Value) (e : Ending) (w' : World) : Prop :=
  ∃ ao' cap', e = .returned (.slice ao' vs.length cap') ∧ ao'.isNone = ao.isNone ∧ (ao' = none → vs.length = 0 ∧ cap' = 0) ∧ RowAt w' ao' vs ∧ Held (Span w.heap.size w'.heap.size) ao' vs.length ∧ Below w.heap.size w w'

theorem Cloned.nil {w : World} {ao : Option Addr} {vs : List Value} (h : ao = none) (hv : vs.length = 0) : Cloned w ao vs (.returned (.slice none 0 0)) w :=
  ⟨none, 0, by rw [hv], by rw [h], fun _ => ⟨hv, rfl⟩, fun i hi => by omega, fun h0 => by omega, Below.refl _ _⟩

set_option maxHeartbeats 400000 in
theorem cloneStrings_any (L : List ByteArray) (ao : Option Addr) (cap : Nat) (w : World) (hn : L.length ≤ 1048576) (hnil : ao = none → L.length = 0 ∧ cap = 0) (hh : Held (· < w.heap.size) ao L.length) (hrow : RowAt w ao (L.map Value.string)) :
    Calls Try.prog 11 #[.slice ao L.length cap] w fun e w' => Cloned w ao (L.map Value.string) e w' := by
  have q22 : ∀ (w : World) (a : Option Addr) (n c n' c' : Nat), (binOp .eql 22 (.slice a n c) (.slice none n' c')).run Try.prog w = .ok (.bool a.isNone) w := fun w a n c n' c' => Lib.run_eql_slice_nil w _ _ a n c n' c' Try.underlying22
  cases ha : ao with
  | none =>
    subst ha
    obtain ⟨h1, h2⟩ := hnil rfl
    go_enter Try.func11, Try.ntmps11
    go_wp2
    go_ret
    exact Cloned.nil rfl (by simp [h1])
  | some ad =>
    subst ha
    clear hnil
    have hmk := run_make_row' (P := Try.prog) 22 9 (.string ByteArray.empty) 16 Try.underlying22 Try.info9 rfl .i64 .i64 L.length (by omega) (by omega)
    go_enter Try.func11, Try.ntmps11
    go_wp2
    clear hmk q22
    have hmade := rowIs_start (L.map Value.string) (World.rowIs_made w (.string ByteArray.empty) L.length 9)
    go_loopw [4] (fun i wr => ∃ k : Nat, k ≤ L.length ∧ i = .int .i64 k ∧ wr.rowIs w.heap.size 9 L.length (part (L.map Value.string) (.string ByteArray.empty) k) ∧ Below w.heap.size w wr) (fun i _ => L.length - (intOf i).toNat)
    case atStart => exact ⟨0, Nat.zero_le _, rfl, hmade, (Below.refl _ _).alloc (Nat.le_refl _) _⟩
    case round =>
      clear hmade
      obtain ⟨k, hk, rfl, hr, hb⟩ := hrel
      by_cases hlt : k < L.length
      · obtain ⟨b, off, e, hc⟩ := hrow k (by simpa using hlt)
        cases e
        have hc' := (hb.cell (p := ⟨b, off + k, none⟩) (hh (by omega) b off rfl)).trans hc
        simp only [List.getElem_map] at hc'
        have hfz := hr.frozen k
        have hce := hr.cell hlt
        have hst := rowIs_step hr (show (L.map Value.string)[k]? = some (.string L[k]) by simp [hlt])
        have HST : Hid ((wr.setCell ⟨w.heap.size, k, none⟩ (.string L[k])).rowIs w.heap.size 9 L.length (part (L.map Value.string) (.string ByteArray.empty) (k + 1))) := hst
        clear hst hc hr
        generalize L[k] = s at *
        go_wp2
        go_roundw
        case rel => exact ⟨k + 1, by omega, by go_num, HST.out, hb.setCell (Nat.le_refl _) _⟩
        case measure => simp [intOf]; omega
      · have hkl : k = L.length := by omega
        subst hkl
        have HR : Hid (RowAt wr (some ⟨w.heap.size, 0, none⟩) (L.map Value.string)) := rowIs_rowAt (by simpa using hr)
        have hsz := hr.lt
        clear hr
        go_wp2
        go_ret
        exact ⟨some ⟨w.heap.size, 0, none⟩, L.length, by simp, by simp, by simp, HR.out, Held.new _ _ _ ⟨Nat.le_refl _, hsz⟩, hb⟩

set_option maxHeartbeats 400000 in
theorem cloneWords_any (L : List Int) (ao : Option Addr) (cap : Nat) (w : World) (hn : L.length ≤ 1048576) (hnil : ao = none → L.length = 0 ∧ cap = 0) (hh : Held (· < w.heap.size) ao L.length) (hrow : RowAt w ao (L.map (Value.int .u64))) :
    Calls Try.prog 12 #[.slice ao L.length cap] w fun e w' => Cloned w ao (L.map (Value.int .u64)) e w' := by
  have q23 : ∀ (w : World) (a : Option Addr) (n c n' c' : Nat), (binOp .eql 23 (.slice a n c) (.slice none n' c')).run Try.prog w = .ok (.bool a.isNone) w := fun w a n c n' c' => Lib.run_eql_slice_nil w _ _ a n c n' c' Try.underlying23
  cases ha : ao with
  | none =>
    subst ha
    obtain ⟨h1, h2⟩ := hnil rfl
    go_enter Try.func12, Try.ntmps12
    go_wp2
    go_ret
    exact Cloned.nil rfl (by simp [h1])
  | some ad =>
    subst ha
    clear hnil
    have hmk := run_make_row' (P := Try.prog) 23 35 (.int .u64 0) 8 Try.underlying23 Try.info35 rfl .i64 .i64 L.length (by omega) (by omega)
    go_enter Try.func12, Try.ntmps12
    go_wp2
    clear hmk q23
    have hmade := rowIs_start (L.map (Value.int .u64)) (World.rowIs_made w (.int .u64 0) L.length 35)
    go_loopw [4] (fun i wr => ∃ k : Nat, k ≤ L.length ∧ i = .int .i64 k ∧ wr.rowIs w.heap.size 35 L.length (part (L.map (Value.int .u64)) (.int .u64 0) k) ∧ Below w.heap.size w wr) (fun i _ => L.length - (intOf i).toNat)
    case atStart => exact ⟨0, Nat.zero_le _, rfl, hmade, (Below.refl _ _).alloc (Nat.le_refl _) _⟩
    case round =>
      clear hmade
      obtain ⟨k, hk, rfl, hr, hb⟩ := hrel
      by_cases hlt : k < L.length
      · obtain ⟨b, off, e, hc⟩ := hrow k (by simpa using hlt)
        cases e
        have hc' := (hb.cell (p := ⟨b, off + k, none⟩) (hh (by omega) b off rfl)).trans hc
        simp only [List.getElem_map] at hc'
        have hfz := hr.frozen k
        have hce := hr.cell hlt
        have hst := rowIs_step hr (show (L.map (Value.int .u64))[k]? = some (.int .u64 L[k]) by simp [hlt])
        have HST : Hid ((wr.setCell ⟨w.heap.size, k, none⟩ (.int .u64 L[k])).rowIs w.heap.size 35 L.length (part (L.map (Value.int .u64)) (.int .u64 0) (k + 1))) := hst
        clear hst hc hr
        generalize L[k] = s at *
        go_wp2
        go_roundw
        case rel => exact ⟨k + 1, by omega, by go_num, HST.out, hb.setCell (Nat.le_refl _) _⟩
        case measure => simp [intOf]; omega
      · have hkl : k = L.length := by omega
        subst hkl
        have HR : Hid (RowAt wr (some ⟨w.heap.size, 0, none⟩) (L.map (Value.int .u64))) := rowIs_rowAt (by simpa using hr)
        have hsz := hr.lt
        clear hr
        go_wp2
        go_ret
        exact ⟨some ⟨w.heap.size, 0, none⟩, L.length, by simp, by simp, by simp, HR.out, Held.new _ _ _ ⟨Nat.le_refl _, hsz⟩, hb⟩

set_option maxHeartbeats 400000 in
theorem cloneBytes_any (L : List Int) (ao : Option Addr) (cap : Nat) (w : World) (hn : L.length ≤ 1048576) (hnil : ao = none → L.length = 0 ∧ cap = 0) (hh : Held (· < w.heap.size) ao L.length) (hrow : RowAt w ao (L.map (Value.int .u8))) :
    Calls Try.prog 29 #[.slice ao L.length cap] w fun e w' => Cloned w ao (L.map (Value.int .u8)) e w' := by
  have q36 : ∀ (w : World) (a : Option Addr) (n c n' c' : Nat), (binOp .eql 36 (.slice a n c) (.slice none n' c')).run Try.prog w = .ok (.bool a.isNone) w := fun w a n c n' c' => Lib.run_eql_slice_nil w _ _ a n c n' c' Try.underlying36
  cases ha : ao with
  | none =>
    subst ha
    obtain ⟨h1, h2⟩ := hnil rfl
    go_enter Try.func29, Try.ntmps29
    go_wp2
    go_ret
    exact Cloned.nil rfl (by simp [h1])
  | some ad =>
    subst ha
    clear hnil
    have hmk := run_make_row' (P := Try.prog) 36 5 (.int .u8 0) 1 Try.underlying36 Try.info5 rfl .i64 .i64 L.length (by omega) (by omega)
    go_enter Try.func29, Try.ntmps29
    go_wp2
    clear hmk q36
    have hmade := rowIs_start (L.map (Value.int .u8)) (World.rowIs_made w (.int .u8 0) L.length 5)
    go_loopw [4] (fun i wr => ∃ k : Nat, k ≤ L.length ∧ i = .int .i64 k ∧ wr.rowIs w.heap.size 5 L.length (part (L.map (Value.int .u8)) (.int .u8 0) k) ∧ Below w.heap.size w wr) (fun i _ => L.length - (intOf i).toNat)
    case atStart => exact ⟨0, Nat.zero_le _, rfl, hmade, (Below.refl _ _).alloc (Nat.le_refl _) _⟩
    case round =>
      clear hmade
      obtain ⟨k, hk, rfl, hr, hb⟩ := hrel
      by_cases hlt : k < L.length
      · obtain ⟨b, off, e, hc⟩ := hrow k (by simpa using hlt)
        cases e
        have hc' := (hb.cell (p := ⟨b, off + k, none⟩) (hh (by omega) b off rfl)).trans hc
        simp only [List.getElem_map] at hc'
        have hfz := hr.frozen k
        have hce := hr.cell hlt
        have hst := rowIs_step hr (show (L.map (Value.int .u8))[k]? = some (.int .u8 L[k]) by simp [hlt])
        have HST : Hid ((wr.setCell ⟨w.heap.size, k, none⟩ (.int .u8 L[k])).rowIs w.heap.size 5 L.length (part (L.map (Value.int .u8)) (.int .u8 0) (k + 1))) := hst
        clear hst hc hr
        generalize L[k] = s at *
        go_wp2
        go_roundw
        case rel => exact ⟨k + 1, by omega, by go_num, HST.out, hb.setCell (Nat.le_refl _) _⟩
        case measure => simp [intOf]; omega
      · have hkl : k = L.length := by omega
        subst hkl
        have HR : Hid (RowAt wr (some ⟨w.heap.size, 0, none⟩) (L.map (Value.int .u8))) := rowIs_rowAt (by simpa using hr)
        have hsz := hr.lt
        clear hr
        go_wp2
        go_ret
        exact ⟨some ⟨w.heap.size, 0, none⟩, L.length, by simp, by simp, by simp, HR.out, Held.new _ _ _ ⟨Nat.le_refl _, hsz⟩, hb⟩

/-- .. of a list of byte slices: each of them copied too -/
def ClonedList (w : World) (ao : Option Addr) (X : List (List Int)) (e : Ending) (w' : World) : Prop :=
  ∃ ao' cap', e = .returned (.slice ao' X.length cap') ∧ ao'.isNone = ao.isNone ∧ ∃ L' : List Sl, RowAt w' ao' (L'.map Sl.v) ∧ Held (Span w.heap.size w'.heap.size) ao' X.length ∧ DatsAt w' (Span w.heap.size w'.heap.size) L' X ∧ Below w.heap.size w w'

theorem take_snoc {α : Type} (l : List α) (k : Nat) (x : α) (h : l[k]? = some x) : l.take (k + 1) = l.take k ++ [x] := by
  obtain ⟨hk, hx⟩ := List.getElem?_eq_some_iff.1 h
  rw [List.take_succ_eq_append_getElem hk, hx]

set_option maxHeartbeats 400000 in
theorem cloneBytesList_any (L : List Sl) (X : List (List Int)) (ao : Option Addr) (cap : Nat) (w : World) (hn : L.length ≤ 1048576) (hns : ∀ i, (h : i < L.length) → L[i].n ≤ 1048576)
    (hnil : ao = none → L.length = 0 ∧ cap = 0) (hh : Held (· < w.heap.size) ao L.length) (hrow : RowAt w ao (L.map Sl.v)) (hD : DatsAt w (· < w.heap.size) L X) :
    Calls Try.prog 13 #[.slice ao L.length cap] w fun e w' => ClonedList w ao X e w' := by
  have q24 : ∀ (w : World) (a : Option Addr) (n c n' c' : Nat), (binOp .eql 24 (.slice a n c) (.slice none n' c')).run Try.prog w = .ok (.bool a.isNone) w := fun w a n c n' c' => Lib.run_eql_slice_nil w _ _ a n c n' c' Try.underlying24
  have hlen := hD.len
  cases ha : ao with
  | none =>
    subst ha
    obtain ⟨h1, h2⟩ := hnil rfl
    have hX : X = [] := List.length_eq_zero_iff.1 (by omega)
    subst hX
    clear hlen hD
    go_enter Try.func13, Try.ntmps13
    go_wp2
    go_ret
    exact ⟨none, 0, rfl, rfl, [], fun i hi => by simp at hi, fun h0 => by simp at h0, DatsAt.nil _ _, Below.refl _ _⟩
  | some ad =>
    subst ha
    clear hnil
    have hmk := run_make_row' (P := Try.prog) 24 36 (.slice none 0 0) 24 Try.underlying24 Try.info36 rfl .i64 .i64 L.length (by omega) (by omega)
    have HL : Hid (L.length = X.length) := hlen
    clear hlen
    go_enter Try.func13, Try.ntmps13
    go_wp2
    clear hmk q24
    have hmade := rowIs_start ([] : List Value) (World.rowIs_made w (.slice none 0 0) L.length 36)
    go_loopw [4] (fun i wr => ∃ k : Nat, k ≤ L.length ∧ i = .int .i64 k ∧ ∃ L' : List Sl, Hid (L'.length = k) ∧ wr.rowIs w.heap.size 36 L.length (part (L'.map Sl.v) (.slice none 0 0) k) ∧ DatsAt wr (Span (w.heap.size + 1) wr.heap.size) L' (X.take k) ∧ Below w.heap.size w wr) (fun i _ => L.length - (intOf i).toNat)
    case atStart => exact ⟨0, Nat.zero_le _, rfl, [], rfl, hmade, DatsAt.nil _ _, (Below.refl _ _).alloc (Nat.le_refl _) _⟩
    case round =>
      clear hmade
      obtain ⟨k, hk, rfl, L', hk', hr, hd, hb⟩ := hrel
      by_cases hlt : k < L.length
      · obtain ⟨b, off, e, hc⟩ := hrow k (by simpa using hlt)
        cases e
        have hc' := (hb.cell (p := ⟨b, off + k, none⟩) (hh (by omega) b off rfl)).trans hc
        simp only [List.getElem_map, Sl.v] at hc'
        have hXk : ∃ x, X[k]? = some x := ⟨X[k]'(by rw [← HL.out]; exact hlt), by simp⟩
        obtain ⟨x, hx⟩ := hXk
        have hdk := (hD.each k L[k] x (by simp) hx).same (Same.of_below hb (fun b h => h))
        have hsn := hns k hlt
        generalize L[k] = s at hc' hdk hsn
        obtain ⟨sa, sn, sc⟩ := s
        obtain ⟨hl1, hl2, hl3, hl4⟩ := hdk
        simp only at hc' hl1 hl2 hl3 hl4 hsn
        subst hl1
        have HX : Hid (X[k]? = some x) := hx
        have HR : Hid (wr.rowIs w.heap.size 36 L.length (part (L'.map Sl.v) (.slice none 0 0) k)) := hr
        have HD : Hid (DatsAt wr (Span (w.heap.size + 1) wr.heap.size) L' (X.take k)) := hd
        have hlo := hr.lt
        clear hx hr hd hc
        go_wp2_with fail
        refine (cloneBytes_any x sa sc _ hsn hl2 (hl4.mono fun b h => Nat.lt_of_lt_of_le h hb.size) hl3).mono ?_
        rintro e w1 ⟨ao', cap', rfl, hnn, hnl, hrow', hh', hb'⟩
        simp only [List.length_map] at hh' hnl
        have hrw := rowIs_below HR.out hb' HR.out.lt
        have hkk := hk'.out
        subst hkk
        have hfz := hrw.frozen L'.length
        have hce := hrw.cell hlt
        have hsz1 := hb'.size
        have HST : Hid ((w1.setCell ⟨w.heap.size, L'.length, none⟩ (.slice ao' x.length cap')).rowIs w.heap.size 36 L.length (part ((L' ++ [(⟨ao', x.length, cap'⟩ : Sl)]).map Sl.v) (.slice none 0 0) (L'.length + 1))) := by
          have := rowIs_snoc (v := .slice ao' x.length cap') (show w1.rowIs w.heap.size 36 L.length (part (L'.map Sl.v) (.slice none 0 0) (L'.map Sl.v).length) by simpa using hrw)
          show World.rowIs _ _ _ _ _
          simpa [Sl.v] using this
        have HDS : Hid (DatsAt (w1.setCell ⟨w.heap.size, L'.length, none⟩ (.slice ao' x.length cap')) (Span (w.heap.size + 1) w1.heap.size) (L' ++ [(⟨ao', x.length, cap'⟩ : Sl)]) (X.take (L'.length + 1))) := by
          show DatsAt _ _ _ _
          rw [take_snoc _ _ _ HX.out]
          refine DatsAt.same ?_ (Same.setCell _ _ _ (by simp only [Span]; omega))
          refine DatsAt.append ((HD.out.same (Same.of_below hb' (fun b h => h.2))).mono fun b h => ⟨h.1, Nat.lt_of_lt_of_le h.2 hsz1⟩) (DatsAt.one ⟨rfl, hnl, hrow', hh'.mono fun b h => ⟨by have := h.1; omega, h.2⟩⟩)
        have hb1 := hb.trans (hb'.mono (by omega))
        clear hrow' hrw hh' hnl hnn
        go_wp2
        go_roundw
        case rel => exact ⟨L'.length + 1, by omega, by go_num, _, by show _ = _; simp, HST.out, by simpa using HDS.out, hb1.setCell (Nat.le_refl _) _⟩
        case measure => simp [intOf]; omega
      · have hkk := hk'.out
        have hkl : k = L.length := by omega
        have HR : Hid (RowAt wr (some ⟨w.heap.size, 0, none⟩) (L'.map Sl.v)) := rowIs_rowAt (t := 36) (z := .slice none 0 0) (by have := hr; rw [hkl, ← hkl, ← hkk] at this; simpa using this)
        have hsz := hr.lt
        have HD2 : Hid (DatsAt wr (Span w.heap.size wr.heap.size) L' X) := by
          rw [hkl, List.take_of_length_le (by rw [← HL.out]; exact Nat.le_refl _)] at hd
          exact hd.mono fun b h => ⟨by have := h.1; omega, h.2⟩
        clear hr hd hk' hkk
        subst hkl
        go_wp2
        go_ret
        exact ⟨some ⟨w.heap.size, 0, none⟩, L.length, by rw [HL.out]; rfl, by simp, L', HR.out, Held.new _ _ _ ⟨Nat.le_refl _, hsz⟩, HD2.out, hb⟩

end Go.Proofs.Qxb6613968a
