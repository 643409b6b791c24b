/-
  Seat b6613968a. The arguments in threes (names, ids, data), as they came in and as they were copied; the callees' contracts said over them. By an AI agent.
-/
import Derived.Test.Qxb6613968aSizes
import Derived.Test.Qxb6613968aBytes
import Derived.Test.Qxb6613968aNew
import Derived.Test.Qxb6613968aPure
namespace Go.Proofs.Qxb6613968a
open Go.Conc Go.RowKit
set_option linter.unusedVariables false
set_option linter.unusedSimpArgs false

/-- three slices as they came in -/
structure Arg (w : World) (na ia da : Option Addr) (nc ic dc ln li ld : Nat) (N : List ByteArray) (I : List Int) (D : List Sl) (X : List (List Int)) : Prop where
  eN : N.length = ln
  eI : I.length = li
  eD : D.length = ld
  rN : RowAt w na (N.map Value.string)
  rI : RowAt w ia (I.map (Value.int .u64))
  rD : RowAt w da (D.map Sl.v)
  dats : DatsAt w (· < w.heap.size) D X
  gN : Held (· < w.heap.size) na ln
  gI : Held (· < w.heap.size) ia li
  gD : Held (· < w.heap.size) da ld
  nN : na = none → ln = 0 ∧ nc = 0
  nI : ia = none → li = 0 ∧ ic = 0
  nD : da = none → ld = 0 ∧ dc = 0
  mN : ln ≤ maxLen
  mI : li ≤ maxLen
  mD : ld ≤ maxLen
  sN : ∀ i, (h : i < N.length) → N[i].size ≤ maxLen
  sD : ∀ i, (h : i < D.length) → D[i].n ≤ maxLen

theorem Arg.later {w w' : World} {na ia da : Option Addr} {nc ic dc ln li ld : Nat} {N : List ByteArray} {I : List Int} {D : List Sl} {X : List (List Int)} (h : Arg w na ia da nc ic dc ln li ld N I D X) (hb : Below w.heap.size w w') : Arg w' na ia da nc ic dc ln li ld N I D X := by
  have hs := hb.size
  have sm : Same (· < w.heap.size) w w' := Same.of_below hb fun b h => h
  refine ⟨h.eN, h.eI, h.eD, h.rN.same sm ?_, h.rI.same sm ?_, h.rD.same sm ?_, (h.dats.same sm).mono fun b hb' => Nat.lt_of_lt_of_le hb' hs, h.gN.mono fun b hb' => Nat.lt_of_lt_of_le hb' hs, h.gI.mono fun b hb' => Nat.lt_of_lt_of_le hb' hs, h.gD.mono fun b hb' => Nat.lt_of_lt_of_le hb' hs, h.nN, h.nI, h.nD, h.mN, h.mI, h.mD, h.sN, h.sD⟩
  · rw [List.length_map, h.eN]; exact h.gN
  · rw [List.length_map, h.eI]; exact h.gI
  · rw [List.length_map, h.eD]; exact h.gD

/-- the guard, said over the three threes -/
theorem bytes6_of {w : World} {n0a i0a d0a n1a i1a d1a n2a i2a d2a : Option Addr} {n0c i0c d0c n1c i1c d1c n2c i2c d2c l0 il0 dl0 l1 il1 dl1 l2 il2 dl2 : Nat} {N0 N1 N2 : List ByteArray} {I0 I1 I2 : List Int} {D0 D1 D2 : List Sl} {X0 X1 X2 : List (List Int)}
    (h0 : Arg w n0a i0a d0a n0c i0c d0c l0 il0 dl0 N0 I0 D0 X0) (h1 : Arg w n1a i1a d1a n1c i1c d1c l1 il1 dl1 N1 I1 D1 X1) (h2 : Arg w n2a i2a d2a n2c i2c d2c l2 il2 dl2 N2 I2 D2 X2) (u cut : Int) (tok : Bool) :
    Calls Try.prog 6 #[.slice n0a l0 n0c, .slice i0a il0 i0c, .slice d0a dl0 d0c, .slice n1a l1 n1c, .slice i1a il1 i1c, .slice d1a dl1 d1c, .int .i64 u, .int .i64 cut, .bool tok, .slice n2a l2 n2c, .slice i2a il2 i2c, .slice d2a dl2 d2c] w
      fun e w' => BytesRet N0 N1 N2 il0 il1 il2 D0 D1 D2 e ∧ w' = w := by
  obtain ⟨e0, e0i, e0d, _⟩ := h0
  obtain ⟨e1, e1i, e1d, _⟩ := h1
  obtain ⟨e2, e2i, e2d, _⟩ := h2
  subst e0 e0d e1 e1d e2 e2d
  exact bytes6_any N0 N1 N2 D0 D1 D2 n0a i0a d0a n1a i1a d1a n2a i2a d2a n0c il0 i0c d0c n1c il1 i1c d1c n2c il2 i2c d2c u cut tok w (by assumption) (by assumption) (by assumption) (by assumption) (by assumption) (by assumption) (by assumption) (by assumption) (by assumption) (by assumption) (by assumption) (by assumption) (by assumption) (by assumption) (by assumption) (by assumption) (by assumption) (by assumption) (by assumption) (by assumption) (by assumption)

/-- the size of one three -/
def SizeRet (total : Int) (N : List ByteArray) (li : Nat) (D : List Sl) (e : Ending) : Prop :=
  ∃ r : Int, e = .returned (.int .i64 r) ∧ 0 ≤ r ∧ (r ≤ 1048576 → r = total + tot 16 (N.map ByteArray.size) + 8 * li + tot 24 (D.map Sl.n))

theorem sizeOf_of {w : World} {na ia da : Option Addr} {nc ic dc ln li ld : Nat} {N : List ByteArray} {I : List Int} {D : List Sl} {X : List (List Int)} (h : Arg w na ia da nc ic dc ln li ld N I D X) (hs : Small N li D) (total : Int) (h0 : 0 ≤ total) (h1 : total ≤ 1048576) :
    Calls Try.prog 7 #[.int .i64 total, .slice na ln nc, .slice ia li ic, .slice da ld dc] w fun e w' => SizeRet total N li D e ∧ w' = w := by
  obtain ⟨e1, _, e3, rN, _, rD, _⟩ := h
  subst e1 e3
  exact sizeOf_any total N D na ia da nc li ic dc w h0 h1 hs.ln hs.sn hs.li hs.ld hs.sd rN rD

/-- one copy -/
structure One (w : World) (ao : Option Addr) (n : Nat) (vs : List Value) (a : Option Addr) (c : Nat) (w' : World) : Prop where
  nil : a.isNone = ao.isNone
  nil0 : a = none → n = 0 ∧ c = 0
  row : RowAt w' a vs
  held : Held (Span w.heap.size w'.heap.size) a n
  below : Below w.heap.size w w'

theorem cloneS_of {w : World} {na : Option Addr} {nc ln : Nat} {N : List ByteArray} (e : N.length = ln) (hn : ln ≤ 1048576) (r : RowAt w na (N.map Value.string)) (g : Held (· < w.heap.size) na ln) (nl : na = none → ln = 0 ∧ nc = 0) :
    Calls Try.prog 11 #[.slice na ln nc] w fun e w' => ∃ a c, e = .returned (.slice a ln c) ∧ One w na ln (N.map Value.string) a c w' := by
  subst e
  refine (cloneStrings_any N na nc w hn nl g r).mono ?_
  rintro e w' ⟨a, c, rfl, h1, h2, h3, h4, h5⟩
  simp only [List.length_map] at h2 h4 ⊢
  exact ⟨a, c, rfl, h1, h2, h3, h4, h5⟩
theorem cloneW_of {w : World} {ia : Option Addr} {ic li : Nat} {I : List Int} (e : I.length = li) (hn : li ≤ 1048576) (r : RowAt w ia (I.map (Value.int .u64))) (g : Held (· < w.heap.size) ia li) (nl : ia = none → li = 0 ∧ ic = 0) :
    Calls Try.prog 12 #[.slice ia li ic] w fun e w' => ∃ a c, e = .returned (.slice a li c) ∧ One w ia li (I.map (Value.int .u64)) a c w' := by
  subst e
  refine (cloneWords_any I ia ic w hn nl g r).mono ?_
  rintro e w' ⟨a, c, rfl, h1, h2, h3, h4, h5⟩
  simp only [List.length_map] at h2 h4 ⊢
  exact ⟨a, c, rfl, h1, h2, h3, h4, h5⟩

/-- a copied list of byte slices -/
structure OneL (w : World) (n : Nat) (X : List (List Int)) (a : Option Addr) (D' : List Sl) (w' : World) : Prop where
  row : RowAt w' a (D'.map Sl.v)
  held : Held (Span w.heap.size w'.heap.size) a n
  dats : DatsAt w' (Span w.heap.size w'.heap.size) D' X
  below : Below w.heap.size w w'

theorem cloneL_of {w : World} {da : Option Addr} {dc ld : Nat} {D : List Sl} {X : List (List Int)} (e : D.length = ld) (hn : ld ≤ 1048576) (hs : ∀ i, (h : i < D.length) → D[i].n ≤ 1048576) (r : RowAt w da (D.map Sl.v)) (g : Held (· < w.heap.size) da ld) (nl : da = none → ld = 0 ∧ dc = 0) (hd : DatsAt w (· < w.heap.size) D X) :
    Calls Try.prog 13 #[.slice da ld dc] w fun e w' => ∃ a c D', e = .returned (.slice a ld c) ∧ OneL w ld X a D' w' := by
  subst e
  have hx := hd.len
  refine (cloneBytesList_any D X da dc w hn hs nl g r hd).mono ?_
  rintro e w' ⟨a, c, rfl, h1, D', h2, h3, h4, h5⟩
  rw [← hx] at h3 ⊢
  exact ⟨a, c, D', rfl, h2, h3, h4, h5⟩

/-- a three, copied -/
structure Cl (w w' : World) (na na' ia' da' : Option Addr) (n nc' : Nat) (N : List ByteArray) (I : List Int) (D' : List Sl) (X : List (List Int)) : Prop where
  src : Src w' na' ia' da' n nc' N I D'
  nil : na'.isNone = na.isNone
  dats : DatsAt w' (Span w.heap.size w'.heap.size) D' X
  hN : Held (Span w.heap.size w'.heap.size) na' n
  hI : Held (Span w.heap.size w'.heap.size) ia' n
  hD : Held (Span w.heap.size w'.heap.size) da' n
  below : Below w.heap.size w w'

theorem cl_mk {w w1 w2 w3 : World} {na ia na' ia' da' : Option Addr} {n nc' ic' : Nat} {N : List ByteArray} {I : List Int} {D' : List Sl} {X : List (List Int)} (eN : N.length = n) (eI : I.length = n) (eX : X.length = n) (hn : n ≤ 1048576)
    (h1 : One w na n (N.map Value.string) na' nc' w1) (h2 : One w1 ia n (I.map (Value.int .u64)) ia' ic' w2) (h3 : OneL w2 n X da' D' w3) : Cl w w3 na na' ia' da' n nc' N I D' X := by
  have s1 := h1.below.size
  have s2 := h2.below.size
  have s3 := h3.below.size
  have b12 : Below w1.heap.size w1 w3 := h2.below.trans (h3.below.mono s2)
  have m1 : ∀ b, Span w.heap.size w1.heap.size b → Span w.heap.size w3.heap.size b := fun b h => ⟨h.1, by have := h.2; omega⟩
  have m2 : ∀ b, Span w1.heap.size w2.heap.size b → Span w.heap.size w3.heap.size b := fun b h => ⟨by have := h.1; omega, by have := h.2; omega⟩
  have m3 : ∀ b, Span w2.heap.size w3.heap.size b → Span w.heap.size w3.heap.size b := fun b h => ⟨by have := h.1; omega, by have := h.2; omega⟩
  have lt : ∀ b, Span w.heap.size w3.heap.size b → b < w3.heap.size := fun b h => h.2
  refine ⟨⟨eN, eI, by rw [h3.dats.len, eX], hn, h1.nil0, (h1.held.mono m1).mono lt, (h2.held.mono m2).mono lt, (h3.held.mono m3).mono lt, ?_, ?_, h3.row⟩, h1.nil, h3.dats.mono m3, h1.held.mono m1, h2.held.mono m2, h3.held.mono m3, h1.below.trans (b12.mono s1)⟩
  · exact h1.row.same (Same.of_below (S := Span w.heap.size w1.heap.size) b12 fun b h => h.2) (by rw [List.length_map, eN]; exact h1.held)
  · exact h2.row.same (Same.of_below (S := Span w1.heap.size w2.heap.size) h3.below fun b h => h.2) (by rw [List.length_map, eI]; exact h2.held)

theorem Src.later {w w' : World} {na ia da : Option Addr} {n nc : Nat} {N : List ByteArray} {I : List Int} {D : List Sl} (h : Src w na ia da n nc N I D) (hb : Below w.heap.size w w') : Src w' na ia da n nc N I D := by
  have hs := hb.size
  have sm : Same (· < w.heap.size) w w' := Same.of_below hb fun b h => h
  refine ⟨h.ln, h.li, h.ld, h.small, h.nil, h.gN.mono fun b hb' => Nat.lt_of_lt_of_le hb' hs, h.gI.mono fun b hb' => Nat.lt_of_lt_of_le hb' hs, h.gD.mono fun b hb' => Nat.lt_of_lt_of_le hb' hs, h.hN.same sm ?_, h.hI.same sm ?_, h.hD.same sm ?_⟩
  · rw [List.length_map, h.ln]; exact h.gN
  · rw [List.length_map, h.li]; exact h.gI
  · rw [List.length_map, h.ld]; exact h.gD

end Go.Proofs.Qxb6613968a
