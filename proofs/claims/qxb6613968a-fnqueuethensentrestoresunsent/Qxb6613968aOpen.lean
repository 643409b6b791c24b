/-
  Seat b6613968a. From the row's reading of an argument to what the walks ask of it. By an AI agent.
-/
import Derived.Test.Qxb6613968aGroups
import Derived.ProofKit
import Derived.OpenShut
import Derived.Deep.Strs
import Derived.Deep.Matrix
namespace Go.Proofs.Qxb6613968a
open Go.ChangeShapes Go.WideShapes Go.ChangeAt Go.RowKit Go.Deep
set_option linter.unusedVariables false
set_option linter.unusedSimpArgs false

theorem Try.cells9 : Try.prog.cellsOf 9 = 1 := by kernel_rfl
theorem Try.cells35 : Try.prog.cellsOf 35 = 1 := by kernel_rfl
theorem Try.cells36 : Try.prog.cellsOf 36 = 1 := by kernel_rfl
theorem Try.cells5 : Try.prog.cellsOf 5 = 1 := by kernel_rfl

/-- cells behind an address, as a row -/
theorem rowAt_of_add {W : World} {a : Addr} {vs : List Value} (h : ∀ i, (hi : i < vs.length) → W.cell? (a.add i) = some vs[i]) : RowAt W (some a) vs ∧ Held (· < W.heap.size) (some a) vs.length := by
  obtain ⟨b, off, spot⟩ := a
  by_cases h0 : 0 < vs.length
  · have hc := h 0 h0
    have hspot : spot = none := by simpa [Addr.add] using World.cell?_spot hc
    subst hspot
    refine ⟨fun i hi => ⟨b, off, rfl, ?_⟩, fun _ b' off' e => ?_⟩
    · have := h i hi
      rw [add_plain] at this
      exact this
    · simp only [Option.some.injEq, Addr.mk.injEq] at e
      have := World.block_lt_of_cell? W _ hc
      simp [Addr.add] at this
      rw [← e.1]; exact this
  · exact ⟨fun i hi => by omega, fun h1 => by omega⟩

section
variable {H : Type} {enc : TypeId × Value → H} {W : World} {a : Option Addr} {len cap : Nat} {d : DataW H} {p : List MemPlace}

theorem open_names (h : DataW.Trod enc Try.prog W 0 (fun _ => true) true 22 (.slice a len cap) d p) :
    ∃ N : List ByteArray, N.length = len ∧ RowAt W a (N.map Value.string) ∧ Held (· < W.heap.size) a len ∧ (a = none → len = 0 ∧ cap = 0) ∧ len ≤ maxLen ∧ ∀ i, (h : i < N.length) → N[i].size ≤ maxLen := by
  obtain ⟨fuel, hf⟩ := h
  rcases open_strs Try.underlying22 Try.underlying9 Try.cells9 hf with ⟨hcs, _⟩ | ⟨x, l, c, m, Sx, hcs, _, hl, hm, hmm, _, hcell⟩
  · simp [Value.cells] at hcs
    obtain ⟨rfl, rfl, rfl⟩ := hcs
    exact ⟨[], rfl, fun i hi => by simp at hi, fun h0 => by omega, fun _ => ⟨rfl, rfl⟩, Nat.zero_le _, fun i h => by simp at h⟩
  · simp [Value.cells] at hcs
    obtain ⟨rfl, rfl, rfl⟩ := hcs
    simp only [if_true] at hmm
    subst hmm
    have hr := rowAt_of_add (W := W) (a := x) (vs := ((List.range len).map Sx).map Value.string) (fun i hi => by
      have hi' : i < len := by simpa using hi
      simpa using (hcell i (by omega)).1)
    refine ⟨(List.range len).map Sx, by simp, hr.1, by simpa using hr.2, by simp, by omega, fun i h => ?_⟩
    have hi' : i < len := by simpa using h
    simpa using (hcell i (by omega)).2

theorem open_words (h : DataW.Trod enc Try.prog W 0 (fun _ => true) true 23 (.slice a len cap) d p) :
    ∃ I : List Int, I.length = len ∧ RowAt W a (I.map (Value.int .u64)) ∧ Held (· < W.heap.size) a len ∧ (a = none → len = 0 ∧ cap = 0) ∧ len ≤ maxLen := by
  obtain ⟨fuel, hf⟩ := h
  rcases open_ints Try.underlying23 Try.underlying35 Try.cells35 hf with ⟨hcs, _⟩ | ⟨x, l, c, zs, hcs, _, hl, hm, hz, _, hcell, hwz⟩
  · simp [Value.cells] at hcs
    obtain ⟨rfl, rfl, rfl⟩ := hcs
    exact ⟨[], rfl, fun i hi => by simp at hi, fun h0 => by omega, fun _ => ⟨rfl, rfl⟩, Nat.zero_le _⟩
  · simp [Value.cells] at hcs
    obtain ⟨rfl, rfl, rfl⟩ := hcs
    have hz' : zs.length = cap := by simpa using hz
    have hlen : (zs.take len).length = len := by simp; omega
    have hr := rowAt_of_add (W := W) (a := x) (vs := (zs.take len).map (Value.int .u64)) (fun i hi => by
      have hi' : i < len := by rw [List.length_map, hlen] at hi; exact hi
      have hiz : i < zs.length := by omega
      have := hcell i hiz
      rw [this]
      simp [hiz])
    refine ⟨zs.take len, hlen, hr.1, ?_, by simp, by omega⟩
    have := hr.2
    rw [List.length_map, hlen] at this
    exact this

theorem open_datas (h : DataW.Trod enc Try.prog W 0 (fun _ => true) true 24 (.slice a len cap) d p) :
    ∃ (D : List Sl) (X : List (List Int)), D.length = len ∧ RowAt W a (D.map Sl.v) ∧ DatsAt W (· < W.heap.size) D X ∧ Held (· < W.heap.size) a len ∧ (a = none → len = 0 ∧ cap = 0) ∧ len ≤ maxLen ∧ ∀ i, (h : i < D.length) → D[i].n ≤ maxLen := by
  obtain ⟨fuel, hf⟩ := h
  rcases open_int_rows Try.underlying24 Try.underlying36 Try.underlying5 Try.cells36 Try.cells5 hf with ⟨hcs, _⟩ | ⟨x, l, c, A, L, C, Z, hcs, _, hl, hm, _, hcell⟩
  · simp [Value.cells] at hcs
    obtain ⟨rfl, rfl, rfl⟩ := hcs
    exact ⟨[], [], rfl, fun i hi => by simp at hi, DatsAt.nil _ _, fun h0 => by omega, fun _ => ⟨rfl, rfl⟩, Nat.zero_le _, fun i h => by simp at h⟩
  · simp [Value.cells] at hcs
    obtain ⟨rfl, rfl, rfl⟩ := hcs
    have hr := rowAt_of_add (W := W) (a := x) (vs := ((List.range len).map fun r => (⟨A r, L r, C r⟩ : Sl)).map Sl.v) (fun i hi => by
      have hi' : i < len := by simpa using hi
      simpa [Sl.v] using (hcell i (by omega)).1)
    refine ⟨(List.range len).map fun r => ⟨A r, L r, C r⟩, (List.range len).map fun r => (Z r).take (L r), by simp, hr.1, ⟨by simp, fun i s y h1 h2 => ?_⟩, by simpa using hr.2, by simp, by omega, fun i h => ?_⟩
    · have hi : i < len := by
        obtain ⟨hi, _⟩ := List.getElem?_eq_some_iff.1 h1
        simpa using hi
      simp [hi] at h1 h2
      subst h1 h2
      obtain ⟨_, r1, r2, r3, r4, r5, r6⟩ := hcell i (by omega)
      have hlz : ((Z i).take (L i)).length = L i := by simp; omega
      refine ⟨hlz.symm, fun e => ?_, ?_, ?_⟩
      · have := r5 e
        exact ⟨by simp only; omega, this⟩
      · cases hA : A i with
        | none =>
          intro j hj
          have := r5 hA
          rw [List.length_map, hlz] at hj
          omega
        | some a' =>
          refine (rowAt_of_add (W := W) (a := a') fun j hj => ?_).1
          have hj' : j < L i := by rw [List.length_map, hlz] at hj; exact hj
          have hjz : j < (Z i).length := by omega
          rw [(r6 a' hA).2 j (by omega)]
          simp [hjz]
      · cases hA : A i with
        | none => intro h0 b off e; simp [hA] at e
        | some a' =>
          have := (rowAt_of_add (W := W) (a := a') (vs := ((Z i).take (L i)).map (Value.int .u8)) fun j hj => by
            have hj' : j < L i := by rw [List.length_map, hlz] at hj; exact hj
            have hjz : j < (Z i).length := by omega
            rw [(r6 a' hA).2 j (by omega)]
            simp [hjz]).2
          rw [List.length_map, hlz] at this
          exact this
    · have hi' : i < len := by simpa using h
      obtain ⟨_, r1, r2, _⟩ := hcell i (by omega)
      simp
      omega

/-- one three of arguments -/
theorem arg_of {ia da : Option Addr} {li ic ld dc : Nat} {d1 d2 : DataW H} {p1 p2 : List MemPlace} (h : DataW.Trod enc Try.prog W 0 (fun _ => true) true 22 (.slice a len cap) d p)
    (h1 : DataW.Trod enc Try.prog W 0 (fun _ => true) true 23 (.slice ia li ic) d1 p1) (h2 : DataW.Trod enc Try.prog W 0 (fun _ => true) true 24 (.slice da ld dc) d2 p2) :
    ∃ N I D X, Arg W a ia da cap ic dc len li ld N I D X := by
  obtain ⟨N, e1, q1, q2, q3, q4, q5⟩ := open_names h
  obtain ⟨I, f1, f2, f3, f4, f5⟩ := open_words h1
  obtain ⟨D, X, g1, g2, g3, g4, g5, g6, g7⟩ := open_datas h2
  exact ⟨N, I, D, X, e1, f1, g1, q1, f2, g2, g3, q2, f3, g4, q3, f4, g5, q4, f5, g6, q5, g7⟩
end

end Go.Proofs.Qxb6613968a
