/-
  Seat b6613197a. The walks of b1Clone (6), b1Same (9) where both sides are the same, majorityOf (15). By an AI agent.
-/
import Derived.Test.Qxb6613197aProg
import Derived.Test.Qxb6613197aMem
import Derived.Deep.QuietTactic
import Derived.BigQuiet
namespace Go.Proofs.Qxb6613197a
open Go.RowKit
set_option linter.unusedVariables false
set_option linter.unusedSimpArgs false

theorem Try.info9 : (Try.prog.info? 9).map (fun i => (i.zero, i.size, i.bytes)) = some (some (.string ByteArray.empty), 1, 16) := by kernel_rfl

/-- the blocks from lo up to hi -/
def Span (lo hi : Nat) (b : Nat) : Prop := lo ≤ b ∧ b < hi

/-- what a copy hands back: a slice of the same length, nil where it was nil, over a new row of the same values -/
def Cloned (w : World) (ao : Option Addr) (vs : List Value) (e : Ending) (w' : World) : Prop :=
  ∃ ao' cap', e = .returned (.slice ao' vs.length cap') ∧ ao'.isNone = ao.isNone ∧ (ao' = none → vs.length = 0 ∧ cap' = 0) ∧ RowAt w' ao' vs ∧ Held (Span w.heap.size w'.heap.size) ao' vs.length ∧ Below w.heap.size w w'

theorem Cloned.nil {w : World} {ao : Option Addr} {vs : List Value} (h : ao = none) (hv : vs.length = 0) : Cloned w ao vs (.returned (.slice none 0 0)) w :=
  ⟨none, 0, by rw [hv], by rw [h], fun _ => ⟨hv, rfl⟩, fun i hi => by omega, fun h0 => by omega, Below.refl _ _⟩

set_option maxHeartbeats 400000 in
theorem clone_any (L : List ByteArray) (ao : Option Addr) (cap : Nat) (w : World) (hn : L.length ≤ 1048576) (hnil : ao = none → L.length = 0 ∧ cap = 0) (hh : Held (· < w.heap.size) ao L.length) (hrow : RowAt w ao (L.map Value.string)) :
    Calls Try.prog 6 #[.slice ao L.length cap] w fun e w' => Cloned w ao (L.map Value.string) e w' := by
  have q22 : ∀ (w : World) (a : Option Addr) (n c n' c' : Nat), (binOp .eql 22 (.slice a n c) (.slice none n' c')).run Try.prog w = .ok (.bool a.isNone) w := fun w a n c n' c' => Lib.run_eql_slice_nil w _ _ a n c n' c' Try.underlying22
  cases ha : ao with
  | none =>
    subst ha
    obtain ⟨h1, h2⟩ := hnil rfl
    go_enter Try.func6, Try.ntmps6
    go_wp2
    go_ret
    exact Cloned.nil rfl (by simp [h1])
  | some ad =>
    subst ha
    clear hnil
    have hmk := run_make_row' (P := Try.prog) 22 9 (.string ByteArray.empty) 16 Try.underlying22 Try.info9 rfl .i64 .i64 L.length (by omega) (by omega)
    go_enter Try.func6, Try.ntmps6
    go_wp2
    clear hmk q22
    have hmade := rowIs_start (L.map Value.string) (World.rowIs_made w (.string ByteArray.empty) L.length 9)
    go_loopw [4] (fun i wr => ∃ k : Nat, k ≤ L.length ∧ i = .int .i64 k ∧ wr.rowIs w.heap.size 9 L.length (part (L.map Value.string) (.string ByteArray.empty) k) ∧ Below w.heap.size w wr) (fun i _ => L.length - (intOf i).toNat)
    case atStart => exact ⟨0, Nat.zero_le _, rfl, hmade, (Below.refl _ _).alloc (Nat.le_refl _) _⟩
    case round =>
      clear hmade
      obtain ⟨k, hk, rfl, hr, hb⟩ := hrel
      by_cases hlt : k < L.length
      · obtain ⟨b, off, e, hc⟩ := hrow k (by simpa using hlt)
        cases e
        have hc' := (hb.cell (p := ⟨b, off + k, none⟩) (hh (by omega) b off rfl)).trans hc
        simp only [List.getElem_map] at hc'
        have hfz := hr.frozen k
        have hce := hr.cell hlt
        have hst := rowIs_step hr (show (L.map Value.string)[k]? = some (.string L[k]) by simp [hlt])
        have HST : Hid ((wr.setCell ⟨w.heap.size, k, none⟩ (.string L[k])).rowIs w.heap.size 9 L.length (part (L.map Value.string) (.string ByteArray.empty) (k + 1))) := hst
        clear hst hc hr
        generalize L[k] = s at *
        go_wp2
        go_roundw
        case rel => exact ⟨k + 1, by omega, by go_num, HST.out, hb.setCell (Nat.le_refl _) _⟩
        case measure => simp [intOf]; omega
      · have hkl : k = L.length := by omega
        subst hkl
        have HR : Hid (RowAt wr (some ⟨w.heap.size, 0, none⟩) (L.map Value.string)) := rowIs_rowAt (by simpa using hr)
        have hsz := hr.lt
        clear hr
        go_wp2
        go_ret
        exact ⟨some ⟨w.heap.size, 0, none⟩, L.length, by simp, by simp, by simp, HR.out, Held.new _ _ _ ⟨Nat.le_refl _, hsz⟩, hb⟩

theorem RowAt.drewN {w : World} {ao : Option Addr} {vs : List Value} (h : RowAt w ao vs) (m : Nat) : RowAt (w.drewN m) ao vs := by
  intro i hi
  obtain ⟨b, off, e, hc⟩ := h i hi
  exact ⟨b, off, e, by simpa using hc⟩

set_option maxHeartbeats 400000 in
theorem same_same (a b : Option Addr) (n ca cb : Nat) (x : List ByteArray) (w : World) (hn : n = x.length) (hx : x.length ≤ 1048576) (ha : RowAt w a (x.map Value.string)) (hb : RowAt w b (x.map Value.string)) :
    Calls Try.prog 9 #[.slice a n ca, .slice b n cb] w fun e w' => e = .returned (.bool true) ∧ ∃ m, w' = w.drewN m := by
  subst hn
  go_enter Try.func9, Try.ntmps9
  go_wp2
  go_loopw [5] (fun i wr => ∃ k : Nat, k ≤ x.length ∧ i = .int .i64 k ∧ ∃ m, wr = w.drewN m) (fun i _ => x.length - (intOf i).toNat)
  case atStart => exact ⟨0, Nat.zero_le _, rfl, 0, rfl⟩
  case round =>
    obtain ⟨k, hk, rfl, m, rfl⟩ := hrel
    by_cases hlt : k < x.length
    · obtain ⟨b1, o1, e1, h1⟩ := ha k (by simpa using hlt)
      obtain ⟨b2, o2, e2, h2⟩ := hb k (by simpa using hlt)
      simp only [List.getElem_map] at h1 h2
      generalize x[k] = v at h1 h2
      subst e1
      subst e2
      have hlt' : (k : Int) < (x.length : Int) := by omega
      clear ha hb
      go_wp2
      go_quiet (fail)
      go_wp2
      go_roundw
      case rel => exact ⟨k + 1, by omega, by go_num, _, rfl⟩
      case measure => simp [intOf]; omega
    · go_wp2
      go_ret
      exact ⟨rfl, _, rfl⟩

theorem RowAt.get {w : World} {ao : Option Addr} {vs : List Value} (h : RowAt w ao vs) {k : Nat} {v : Value} (hv : vs[k]? = some v) : ∃ b off, ao = some ⟨b, off, none⟩ ∧ w.cell? ⟨b, off + k, none⟩ = some v := by
  obtain ⟨hk, e⟩ := List.getElem?_eq_some_iff.1 hv
  obtain ⟨b, off, e1, hc⟩ := h k hk
  exact ⟨b, off, e1, by rw [hc, e]⟩

theorem majorityOf_any (n : Nat) (hn : n ≤ 1048576) (w : World) : Calls Try.prog 15 #[.int .i64 n] w fun e w' => e = .returned (.int .i64 ((n / 2 : Nat) + 1 : Int)) ∧ w' = w := by
  go_enter Try.func15, Try.ntmps15
  go_wp2
  go_ret
  exact ⟨ret_int (by omega), rfl⟩

end Go.Proofs.Qxb6613197a
