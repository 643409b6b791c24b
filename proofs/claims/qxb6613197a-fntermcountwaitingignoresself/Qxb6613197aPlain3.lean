/-
  Seat b6613197a. Plain laws on lists of names: a name put in and taken out; a sublist walked by two counters. By an AI agent.
-/
import Derived.Test.Qxb6613197aElect
namespace Go.Proofs.Qxb6613197a
open Go.RowKit
set_option linter.unusedVariables false
set_option linter.unusedSimpArgs false

/-- the first k names, s put in ahead of number p -/
def ins (N : List ByteArray) (p k : Nat) (s : ByteArray) : List ByteArray := N.take p ++ [s] ++ (N.take k).drop p

theorem ins_start (N : List ByteArray) (p : Nat) (s : ByteArray) : ins N p p s = N.take p ++ [s] := by
  unfold ins
  rw [List.drop_eq_nil_of_le (List.length_take_le _ _), List.append_nil]
theorem ins_snoc (N : List ByteArray) (p k : Nat) (s x : ByteArray) (hp : p ≤ k) (h : N[k]? = some x) : ins N p (k + 1) s = ins N p k s ++ [x] := by
  obtain ⟨hk, _⟩ := List.getElem?_eq_some_iff.1 h
  have hl : p ≤ (N.take k).length := by rw [List.length_take]; omega
  unfold ins
  rw [take_snoc N k x h, List.drop_append_of_le_length hl, List.append_assoc, List.append_assoc, List.append_assoc]
theorem ins_len (N : List ByteArray) (p k : Nat) (s : ByteArray) (hp : p ≤ k) (hk : k ≤ N.length) : (ins N p k s).length = k + 1 := by
  unfold ins
  simp only [List.length_append, List.length_take, List.length_drop, List.length_singleton]
  omega
theorem without_append (A B : List ByteArray) (s : ByteArray) : without (A ++ B) s = without A s ++ without B s := by
  unfold without
  rw [List.filter_append]
theorem without_ins (N : List ByteArray) (p : Nat) (s : ByteArray) : without (ins N p N.length s) s = without N s := by
  unfold ins
  have h1 : without [s] s = [] := by simp [without, List.filter_cons]
  rw [without_append, without_append, h1, List.append_nil, List.take_length, ← without_append, List.take_append_drop]

theorem without_cons (y : ByteArray) (r : List ByteArray) (s : ByteArray) : without (y :: r) s = if (y.toList == s.toList) = true then without r s else y :: without r s := by
  unfold without
  rw [List.filter_cons]
  by_cases h : (y.toList == s.toList) = true <;> simp [h]

theorem drop_of {α : Type} {l : List α} {k : Nat} {x : α} (h : l[k]? = some x) : l.drop k = x :: l.drop (k + 1) := by
  obtain ⟨hk, hx⟩ := List.getElem?_eq_some_iff.1 h
  rw [List.drop_eq_getElem_cons hk, hx]

theorem mem_not {N : List ByteArray} {s x : ByteArray} {k : Nat} (h : (without N s)[k]? = some x) : (x.toList == s.toList) = false := by
  have := List.mem_of_getElem? h
  unfold without at this
  rw [List.mem_filter] at this
  simpa using this.2

theorem sub_end {M N : List ByteArray} {s : ByteArray} {k q : Nat} (inv : M.drop k = without (N.drop q) s) (hk : k < M.length) : q < N.length := by
  refine Nat.lt_of_not_le fun hq => ?_
  rw [List.drop_eq_nil_of_le hq] at inv
  have := congrArg List.length inv
  simp [without] at this
  omega
theorem sub_keep {M N : List ByteArray} {s x y : ByteArray} {k q : Nat} (inv : M.drop k = without (N.drop q) s) (hk : M[k]? = some x) (hq : N[q]? = some y) (hx : (x.toList == s.toList) = false) (hyx : (y.toList == x.toList) = true) : M.drop (k + 1) = without (N.drop (q + 1)) s := by
  have hy : (y.toList == s.toList) = false := by
    have : y.toList = x.toList := by simpa using hyx
    rw [this]; exact hx
  rw [drop_of hk, drop_of hq, without_cons, if_neg (by rw [hy]; decide)] at inv
  exact (List.cons.inj inv).2
theorem sub_skip {M N : List ByteArray} {s x y : ByteArray} {k q : Nat} (inv : M.drop k = without (N.drop q) s) (hk : M[k]? = some x) (hq : N[q]? = some y) (hyx : (y.toList == x.toList) = false) : M.drop k = without (N.drop (q + 1)) s := by
  by_cases hy : (y.toList == s.toList) = true
  · rw [drop_of hq, without_cons, if_pos hy] at inv
    exact inv
  · rw [drop_of hk, drop_of hq, without_cons, if_neg hy] at inv
    have := (List.cons.inj inv).1
    rw [this] at hyx
    simp at hyx

end Go.Proofs.Qxb6613197a
