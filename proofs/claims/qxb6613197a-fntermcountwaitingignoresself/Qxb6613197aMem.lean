/-
  Seat b6613197a. Plain facts on lists and on memory that all walks of this seat share. By an AI agent.
-/
import Derived.WalkKit
import Derived.WalkSpells
import Derived.WalkLawsBesides
import Derived.Deep.OwnRows
import Derived.Deep.AppendLies
namespace Go.Proofs.Qxb6613197a
open Go.RowKit
set_option linter.unusedVariables false
set_option linter.unusedSimpArgs false

/-- the sum of the lengths, c more for each -/
def tot (c : Nat) : List Nat → Nat
  | [] => 0
  | x :: r => c + x + tot c r

theorem tot_append (c : Nat) (a b : List Nat) : tot c (a ++ b) = tot c a + tot c b := by
  induction a with
  | nil => simp [tot]
  | cons x r ih => simp only [List.cons_append, tot, ih]; omega

theorem tot_take_succ (c : Nat) (l : List Nat) (k : Nat) (h : k < l.length) : tot c (l.take (k + 1)) = tot c (l.take k) + (c + l[k]) := by
  rw [List.take_succ_eq_append_getElem h, tot_append]
  simp [tot]

theorem tot_ge (c : Nat) (l : List Nat) : c * l.length ≤ tot c l := by
  induction l with
  | nil => simp [tot]
  | cons x r ih => simp only [List.length_cons, tot, Nat.mul_add, Nat.mul_one]; omega

theorem tot_zero_le (c : Nat) (l : List Nat) : tot 0 l ≤ tot c l := by
  induction l with
  | nil => simp [tot]
  | cons x r ih => simp only [tot]; omega

/-- cell i behind the slice's address holds the i-th value -/
def RowAt (w : World) (ao : Option Addr) (vs : List Value) : Prop :=
  ∀ i, (h : i < vs.length) → ∃ b off, ao = some ⟨b, off, none⟩ ∧ w.cell? ⟨b, off + i, none⟩ = some vs[i]

/-- the block that the slice lies in is one of the set S -/
def Held (S : Nat → Prop) (ao : Option Addr) (n : Nat) : Prop := 0 < n → ∀ b off, ao = some ⟨b, off, none⟩ → S b

/-- the blocks of the set S are as they were -/
def Same (S : Nat → Prop) (w w' : World) : Prop := ∀ b, S b → w'.heap[b]? = w.heap[b]?

theorem Same.refl (S : Nat → Prop) (w : World) : Same S w w := fun _ _ => rfl
theorem Same.trans {S : Nat → Prop} {a b c : World} (h : Same S a b) (k : Same S b c) : Same S a c := fun i hi => (k i hi).trans (h i hi)
theorem Same.mono {S T : Nat → Prop} {w w' : World} (h : Same S w w') (hs : ∀ b, T b → S b) : Same T w w' := fun b hb => h b (hs b hb)
theorem Same.of_below {S : Nat → Prop} {B : Nat} {w w' : World} (h : Below B w w') (hs : ∀ b, S b → b < B) : Same S w w' := fun b hb => h.block b (hs b hb)
theorem Same.setCell {S : Nat → Prop} (w : World) (a : Addr) (v : Value) (h : ¬ S a.block) : Same S w (w.setCell a v) := fun b hb => Below.heap_setCell _ _ _ _ (fun e => h (e ▸ hb))
theorem Same.cell {S : Nat → Prop} {w w' : World} (h : Same S w w') {a : Addr} (ha : S a.block) : w'.cell? a = w.cell? a := World.cell?_of_block (h _ ha)
theorem Same.frozen {S : Nat → Prop} {w w' : World} (h : Same S w w') {a : Addr} (ha : S a.block) : w'.frozen? a = w.frozen? a := World.frozen?_of_block (h _ ha)

theorem RowAt.same {S : Nat → Prop} {w w' : World} {ao : Option Addr} {vs : List Value} (h : RowAt w ao vs) (hs : Same S w w') (hh : Held S ao vs.length) : RowAt w' ao vs := by
  intro i hi
  obtain ⟨b, off, rfl, hc⟩ := h i hi
  refine ⟨b, off, rfl, ?_⟩
  rw [← hc]
  exact hs.cell (hh (by omega) b off rfl)

theorem Held.mono {S T : Nat → Prop} {ao : Option Addr} {n : Nat} (h : Held S ao n) (hB : ∀ b, S b → T b) : Held T ao n :=
  fun h0 b off e => hB b (h h0 b off e)

/-- a slice value, taken apart -/
structure Sl where
  a : Option Addr
  n : Nat
  c : Nat
def Sl.v (s : Sl) : Value := .slice s.a s.n s.c

/-- a slice of bytes with its content, its block one of the set S -/
structure DatAt (w : World) (S : Nat → Prop) (s : Sl) (x : List Int) : Prop where
  len : s.n = x.length
  nil : s.a = none → s.n = 0 ∧ s.c = 0
  row : RowAt w s.a (x.map (Value.int .u8))
  held : Held S s.a s.n

/-- a list of them -/
structure DatsAt (w : World) (S : Nat → Prop) (L : List Sl) (X : List (List Int)) : Prop where
  len : L.length = X.length
  each : ∀ (i : Nat) (s : Sl) (x : List Int), L[i]? = some s → X[i]? = some x → DatAt w S s x

theorem DatAt.same {S : Nat → Prop} {w w' : World} {s : Sl} {x : List Int} (h : DatAt w S s x) (hb : Same S w w') : DatAt w' S s x :=
  ⟨h.len, h.nil, h.row.same hb (by have := h.held; rw [h.len] at this; simpa using this), h.held⟩
theorem DatAt.mono {S T : Nat → Prop} {w : World} {s : Sl} {x : List Int} (h : DatAt w S s x) (hB : ∀ b, S b → T b) : DatAt w T s x := ⟨h.len, h.nil, h.row, h.held.mono hB⟩
theorem DatsAt.same {S : Nat → Prop} {w w' : World} {L : List Sl} {X : List (List Int)} (h : DatsAt w S L X) (hb : Same S w w') : DatsAt w' S L X := ⟨h.len, fun i s x h1 h2 => (h.each i s x h1 h2).same hb⟩
theorem DatsAt.mono {S T : Nat → Prop} {w : World} {L : List Sl} {X : List (List Int)} (h : DatsAt w S L X) (hB : ∀ b, S b → T b) : DatsAt w T L X := ⟨h.len, fun i s x h1 h2 => (h.each i s x h1 h2).mono hB⟩
theorem DatsAt.nil (w : World) (B : Nat → Prop) : DatsAt w B [] [] := ⟨rfl, fun i s x h1 _ => by simp at h1⟩
theorem DatsAt.append {w : World} {B : Nat → Prop} {L L' : List Sl} {X X' : List (List Int)} (h : DatsAt w B L X) (h' : DatsAt w B L' X') : DatsAt w B (L ++ L') (X ++ X') := by
  refine ⟨by simp [h.len, h'.len], fun i s x h1 h2 => ?_⟩
  by_cases e : i < L.length
  · rw [List.getElem?_append_left e] at h1
    rw [List.getElem?_append_left (by rw [← h.len]; exact e)] at h2
    exact h.each i s x h1 h2
  · rw [List.getElem?_append_right (by omega)] at h1
    rw [List.getElem?_append_right (by rw [← h.len]; omega), ← h.len] at h2
    exact h'.each _ s x h1 h2
theorem DatsAt.one {w : World} {B : Nat → Prop} {s : Sl} {x : List Int} (h : DatAt w B s x) : DatsAt w B [s] [x] := by
  refine ⟨rfl, fun i s' x' h1 h2 => ?_⟩
  match i, h1, h2 with
  | 0, h1, h2 => simp at h1 h2; subst h1; subst h2; exact h
  | i + 1, h1, _ => simp at h1

theorem ret_int {k : IntKind} {a b : Int} (h : a = b) : Ending.returned (.int k a) = .returned (.int k b) := by rw [h]

/-- the first k cells are filled, the others hold the zero value -/
def part (vs : List Value) (z : Value) (k j : Nat) : Value := if j < k then vs.getD j z else z

theorem rowIs_step {w : World} {B : Nat} {t : TypeId} {n : Nat} {vs : List Value} {z v : Value} {k : Nat} (h : w.rowIs B t n (part vs z k)) (hv : vs[k]? = some v) :
    (w.setCell ⟨B, k, none⟩ v).rowIs B t n (part vs z (k + 1)) := by
  refine (h.set k v).congr fun i _ => ?_
  unfold part
  by_cases e : i = k
  · subst e; simp [hv]
  · by_cases e2 : i < k
    · simp [e, e2, show i < k + 1 from by omega]
    · simp [e, e2, show ¬ i < k + 1 from by omega]

theorem rowIs_snoc {w : World} {B : Nat} {t : TypeId} {n : Nat} {vs : List Value} {z v : Value} (h : w.rowIs B t n (part vs z vs.length)) :
    (w.setCell ⟨B, vs.length, none⟩ v).rowIs B t n (part (vs ++ [v]) z (vs.length + 1)) := by
  refine rowIs_step (h.congr fun i _ => ?_) (by simp)
  unfold part
  by_cases e : i < vs.length
  · simp [e, List.getElem?_append_left e]
  · simp [e]

theorem rowIs_start {w : World} {B : Nat} {t : TypeId} {n : Nat} (vs : List Value) {z : Value} (h : w.rowIs B t n (fun _ => z)) : w.rowIs B t n (part vs z 0) :=
  h.congr fun i _ => by simp [part]

theorem rowIs_rowAt {w : World} {B : Nat} {t : TypeId} {vs : List Value} {z : Value} (h : w.rowIs B t vs.length (part vs z vs.length)) : RowAt w (some ⟨B, 0, none⟩) vs := by
  intro i hi
  refine ⟨B, 0, rfl, ?_⟩
  rw [Nat.zero_add, h.cell hi]
  simp [part, hi]

theorem rowIs_below {w w' : World} {B C : Nat} {t : TypeId} {n : Nat} {f : Nat → Value} (h : w.rowIs B t n f) (hb : Below C w w') (hC : B < C) : w'.rowIs B t n f :=
  h.of_block (hb.block B hC)

theorem Held.new (S : Nat → Prop) (B n : Nat) (h : S B) : Held S (some ⟨B, 0, none⟩) n := fun _ b off e => by
  simp only [Option.some.injEq, Addr.mk.injEq] at e
  rw [← e.1]; exact h

end Go.Proofs.Qxb6613197a
