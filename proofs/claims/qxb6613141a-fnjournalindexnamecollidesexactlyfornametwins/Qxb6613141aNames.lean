/-
  Seat b6613141a. The walks that all four statements share: HasSuffix (16), TrimSuffix (15, 13), Name (8), indexName (14), ZZJournalIndexName (11). By an AI agent.
-/
import Derived.Test.Qxb6613141aProg
import Derived.WalkKit
import Derived.WalkSpells
import Derived.WalkLawsBesides
namespace Go.Proofs.Qxb6613141a
open Go.RowKit
set_option linter.unusedVariables false
set_option linter.unusedSimpArgs false

/-- does s end in .jsonl? -/
def hasB (s : ByteArray) : Bool := decide (6 ≤ s.size) && ((s.extract (s.size - 6) s.size).toList == [46, 106, 115, 111, 110, 108])
/-- s without one such end -/
def nm (s : ByteArray) : ByteArray := if hasB s then s.extract 0 (s.size - 6) else s

theorem has_any (s : ByteArray) (hs : s.size ≤ 4194304) (w : World) : Calls Try.prog 16 #[.string s, .string ⟨#[46, 106, 115, 111, 110, 108]⟩] w fun e w' => e = .returned (.bool (hasB s)) ∧ w' = w := by
  by_cases h : 6 ≤ s.size
  · have hd : (6 : Int) ≤ (s.size : Int) := by omega
    have HF : Hid (((s.extract (s.size - 6) s.size).toList == [46, 106, 115, 111, 110, 108]) = hasB s) := by simp [Hid, hasB, h]
    go_enter Try.func16, Try.ntmps16
    go_wp2
    go_ret
    exact ⟨by rw [← HF.out]; rfl, rfl⟩
  · have hd : decide ((6 : Int) ≤ (s.size : Int)) = false := by simp; omega
    have HF : Hid (hasB s = false) := by simp [Hid, hasB, h]
    go_enter Try.func16, Try.ntmps16
    go_wp2
    go_ret
    exact ⟨by rw [HF.out]; rfl, rfl⟩

theorem trim_any (s : ByteArray) (hs : s.size ≤ 4194304) (w : World) : Calls Try.prog 15 #[.string s, .string ⟨#[46, 106, 115, 111, 110, 108]⟩] w fun e w' => e = .returned (.string (nm s)) ∧ w' = w := by
  cases hb : hasB s with
  | true =>
    have h6 : 6 ≤ s.size := by
      simp only [hasB, Bool.and_eq_true, decide_eq_true_eq] at hb
      exact hb.1
    have hd : (6 : Int) ≤ (s.size : Int) := by omega
    have HF : Hid (nm s = s.extract 0 (s.size - 6)) := by simp [Hid, nm, hb]
    have HC := has_any s hs
    rw [hb] at HC
    have HC' : Hid (∀ w : World, Calls Try.prog 16 #[.string s, .string ⟨#[46, 106, 115, 111, 110, 108]⟩] w fun e w' => e = .returned (.bool true) ∧ w' = w) := HC
    clear HC hb
    go_enter Try.func15, Try.ntmps15
    go_wp2_with fail
    refine (HC'.out _).mono ?_
    rintro e w9 ⟨rfl, hw9⟩
    rw [hw9]
    clear hw9
    go_wp2
    go_ret
    exact ⟨by rw [HF.out]; rfl, rfl⟩
  | false =>
    have HF : Hid (nm s = s) := by simp [Hid, nm, hb]
    have HC := has_any s hs
    rw [hb] at HC
    have HC' : Hid (∀ w : World, Calls Try.prog 16 #[.string s, .string ⟨#[46, 106, 115, 111, 110, 108]⟩] w fun e w' => e = .returned (.bool false) ∧ w' = w) := HC
    clear HC hb
    go_enter Try.func15, Try.ntmps15
    go_wp2_with fail
    refine (HC'.out _).mono ?_
    rintro e w9 ⟨rfl, hw9⟩
    rw [hw9]
    clear hw9
    go_wp2
    go_ret
    exact ⟨by rw [HF.out]; rfl, rfl⟩

theorem trims_any (s : ByteArray) (hs : s.size ≤ 4194304) (w : World) : Calls Try.prog 13 #[.string s, .string ⟨#[46, 106, 115, 111, 110, 108]⟩] w fun e w' => e = .returned (.string (nm s)) ∧ w' = w := by
  go_enter Try.func13, Try.ntmps13
  go_wp2_with fail
  refine (trim_any s hs _).mono ?_
  rintro e w9 ⟨rfl, hw9⟩
  rw [hw9]
  clear hw9
  go_wp2
  go_ret
  exact ⟨rfl, rfl⟩

theorem name_any (s : ByteArray) (hs : s.size ≤ 4194304) (w : World) : Calls Try.prog 8 #[.string s] w fun e w' => e = .returned (.string (nm s)) ∧ w' = w := by
  go_enter Try.func8, Try.ntmps8
  go_wp2_with fail
  refine (trims_any s hs _).mono ?_
  rintro e w9 ⟨rfl, hw9⟩
  rw [hw9]
  clear hw9
  go_wp2
  go_ret
  exact ⟨rfl, rfl⟩

theorem nm_size (s : ByteArray) : (nm s).size ≤ s.size := by
  unfold nm
  split
  · simp
  · exact Nat.le_refl _

theorem idx_any (s : ByteArray) (hs : s.size ≤ 4194304) (w : World) : Calls Try.prog 14 #[.string s] w fun e w' => e = .returned (.string (nm s ++ ⟨#[46, 105, 110, 100, 101, 120]⟩)) ∧ w' = w := by
  have hz := nm_size s
  go_enter Try.func14, Try.ntmps14
  go_wp2_with fail
  refine (name_any s hs _).mono ?_
  rintro e w9 ⟨rfl, hw9⟩
  rw [hw9]
  clear hw9
  go_wp2
  go_ret
  exact ⟨rfl, rfl⟩

theorem zidx_any (s : ByteArray) (hs : s.size ≤ 4194304) (w : World) : Calls Try.prog 11 #[.string s] w fun e w' => e = .returned (.string (nm s ++ ⟨#[46, 105, 110, 100, 101, 120]⟩)) ∧ w' = w := by
  go_enter Try.func11, Try.ntmps11
  go_wp2_with fail
  refine (idx_any s hs _).mono ?_
  rintro e w9 ⟨rfl, hw9⟩
  rw [hw9]
  clear hw9
  go_wp2
  go_ret
  exact ⟨rfl, rfl⟩

/-! ### The plain laws -/
theorem extract_past (a : ByteArray) (i j : Nat) (h : a.size ≤ i) : a.extract i j = ByteArray.empty := by
  apply ByteArray.ext
  rw [ByteArray.data_extract]
  exact Array.extract_eq_empty_of_le (by simp; have : a.data.size = a.size := rfl; omega)

theorem extract_whole (a : ByteArray) (j : Nat) (h : a.size ≤ j) : a.extract 0 j = a := by
  apply ByteArray.ext
  rw [ByteArray.data_extract]
  exact Array.extract_eq_self_of_le h

theorem has_local (a b : ByteArray) (h : 6 ≤ b.size) : hasB (a ++ b) = hasB b := by
  unfold hasB
  have e : (a ++ b).extract ((a ++ b).size - 6) (a ++ b).size = b.extract (b.size - 6) b.size := by
    rw [ByteArray.extract_append, ByteArray.size_append, extract_past a _ _ (by omega)]
    rw [show a.size + b.size - 6 - a.size = b.size - 6 from by omega, show a.size + b.size - a.size = b.size from by omega]
    simp
  rw [e, ByteArray.size_append]
  have h1 : decide (6 ≤ a.size + b.size) = true := by simp; omega
  have h2 : decide (6 ≤ b.size) = true := by simp; omega
  rw [h1, h2]

theorem nm_local (a b : ByteArray) (h : 6 ≤ b.size) : nm (a ++ b) = a ++ nm b := by
  unfold nm
  rw [has_local a b h]
  cases hasB b with
  | false => rfl
  | true =>
    simp only [if_true]
    rw [ByteArray.extract_append, ByteArray.size_append, extract_whole a _ (by omega)]
    rw [show a.size + b.size - 6 - a.size = b.size - 6 from by omega]
    simp

theorem nm_suf (a : ByteArray) : nm (a ++ ⟨#[46, 106, 115, 111, 110, 108]⟩) = a := by
  rw [nm_local _ _ (by decide)]
  have : nm ⟨#[46, 106, 115, 111, 110, 108]⟩ = ByteArray.empty := by decide +kernel
  rw [this]
  simp

theorem toList_append (a b : ByteArray) : (a ++ b).toList = a.toList ++ b.toList := by
  rw [ByteArray.toList_eq, ByteArray.toList_eq, ByteArray.toList_eq, ByteArray.data_append]
  simp

theorem toList_inj {a b : ByteArray} (h : a.toList = b.toList) : a = b := by
  rw [ByteArray.toList_eq, ByteArray.toList_eq] at h
  apply ByteArray.ext
  exact Array.toList_inj.1 h

/-- what a guard on the lengths answers -/
def Guard2 (a b : ByteArray) (e : Ending) : Prop := ∃ c : Bool, e = .returned (.bool c) ∧ (c = true → a.size ≤ 1048576 ∧ b.size ≤ 1048576)

end Go.Proofs.Qxb6613141a
