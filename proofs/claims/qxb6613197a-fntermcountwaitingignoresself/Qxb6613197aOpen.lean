/-
  Seat b6613197a. From the row's reading of an argument to what the walks ask of it. By an AI agent.
-/
import Derived.Test.Qxb6613197aProg
import Derived.Test.Qxb6613197aMem
import Derived.ProofKit
import Derived.OpenShut
import Derived.Deep.Strs
namespace Go.Proofs.Qxb6613197a
open Go.ChangeShapes Go.WideShapes Go.ChangeAt Go.RowKit Go.Deep
set_option linter.unusedVariables false
set_option linter.unusedSimpArgs false

theorem Try.cells9 : Try.prog.cellsOf 9 = 1 := by kernel_rfl

/-- cells behind an address, as a row -/
theorem rowAt_of_add {W : World} {a : Addr} {vs : List Value} (h : ∀ i, (hi : i < vs.length) → W.cell? (a.add i) = some vs[i]) : RowAt W (some a) vs ∧ Held (· < W.heap.size) (some a) vs.length := by
  obtain ⟨b, off, spot⟩ := a
  by_cases h0 : 0 < vs.length
  · have hc := h 0 h0
    have hspot : spot = none := by simpa [Addr.add] using World.cell?_spot hc
    subst hspot
    refine ⟨fun i hi => ⟨b, off, rfl, ?_⟩, fun _ b' off' e => ?_⟩
    · have := h i hi
      rw [add_plain] at this
      exact this
    · simp only [Option.some.injEq, Addr.mk.injEq] at e
      have := World.block_lt_of_cell? W _ hc
      simp [Addr.add] at this
      rw [← e.1]; exact this
  · exact ⟨fun i hi => by omega, fun h1 => by omega⟩

section
variable {H : Type} {enc : TypeId × Value → H} {W : World} {a : Option Addr} {len cap : Nat} {d : DataW H} {p : List MemPlace}

theorem open_names (h : DataW.Trod enc Try.prog W 0 (fun _ => true) true 22 (.slice a len cap) d p) :
    ∃ N : List ByteArray, N.length = len ∧ RowAt W a (N.map Value.string) ∧ Held (· < W.heap.size) a len ∧ (a = none → len = 0 ∧ cap = 0) ∧ len ≤ maxLen ∧ ∀ i, (h : i < N.length) → N[i].size ≤ maxLen := by
  obtain ⟨fuel, hf⟩ := h
  rcases open_strs Try.underlying22 Try.underlying9 Try.cells9 hf with ⟨hcs, _⟩ | ⟨x, l, c, m, Sx, hcs, _, hl, hm, hmm, _, hcell⟩
  · simp [Value.cells] at hcs
    obtain ⟨rfl, rfl, rfl⟩ := hcs
    exact ⟨[], rfl, fun i hi => by simp at hi, fun h0 => by omega, fun _ => ⟨rfl, rfl⟩, Nat.zero_le _, fun i h => by simp at h⟩
  · simp [Value.cells] at hcs
    obtain ⟨rfl, rfl, rfl⟩ := hcs
    simp only [if_true] at hmm
    subst hmm
    have hr := rowAt_of_add (W := W) (a := x) (vs := ((List.range len).map Sx).map Value.string) (fun i hi => by
      have hi' : i < len := by simpa using hi
      simpa using (hcell i (by omega)).1)
    refine ⟨(List.range len).map Sx, by simp, hr.1, by simpa using hr.2, by simp, by omega, fun i h => ?_⟩
    have hi' : i < len := by simpa using h
    simpa using (hcell i (by omega)).2
end

end Go.Proofs.Qxb6613197a
