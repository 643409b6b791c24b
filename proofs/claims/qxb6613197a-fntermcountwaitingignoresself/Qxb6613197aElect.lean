/-
  Seat b6613197a. The walks of ZZnewElection (7), removeAddr (14), waiting (12), majority (13), termCount (11), ZZtermCount (8). By an AI agent.
-/
import Derived.Test.Qxb6613197aBasic
import Derived.Deep.RegionWith
namespace Go.Proofs.Qxb6613197a
open Go.RowKit
set_option linter.unusedVariables false
set_option linter.unusedSimpArgs false

/-- an election in block B: its list, itself, the joining list -/
structure El (w : World) (B : Nat) (va : Value) (lt lc : Int) (s : ByteArray) (vj : Value) : Prop where
  blk : B < w.heap.size
  c0 : w.cell? ⟨B, 0, none⟩ = some va
  c1 : w.cell? ⟨B, 1, none⟩ = some (.int .u64 lt)
  c2 : w.cell? ⟨B, 2, none⟩ = some (.int .u64 lc)
  c3 : w.cell? ⟨B, 3, none⟩ = some (.string s)
  c5 : w.cell? ⟨B, 5, none⟩ = some vj

theorem El.later {w w' : World} {B : Nat} {va : Value} {lt lc : Int} {s : ByteArray} {vj : Value} (h : El w B va lt lc s vj) (hb : Below w.heap.size w w') : El w' B va lt lc s vj :=
  ⟨Nat.lt_of_lt_of_le h.blk hb.size, (hb.cell (p := ⟨B, 0, none⟩) h.blk).trans h.c0, (hb.cell (p := ⟨B, 1, none⟩) h.blk).trans h.c1, (hb.cell (p := ⟨B, 2, none⟩) h.blk).trans h.c2, (hb.cell (p := ⟨B, 3, none⟩) h.blk).trans h.c3, (hb.cell (p := ⟨B, 5, none⟩) h.blk).trans h.c5⟩

set_option maxRecDepth 100000 in
theorem newElection_any (a j : Option Addr) (an ac jn jc : Nat) (lt lc t sn : Int) (s : ByteArray) (w : World) :
    Calls Try.prog 7 #[.slice a an ac, .int .u64 lt, .int .u64 lc, .string s, .slice j jn jc, .int .u64 t, .int .u64 sn] w fun e w' =>
      e = .returned (.pointer (some ⟨w.heap.size, 0, none⟩)) ∧ El w' w.heap.size (.slice a an ac) lt lc s (.slice j jn jc) ∧ Below w.heap.size w w' := by
  go_enter Try.func7, Try.ntmps7
  go_wp2
  go_ret
  refine ⟨rfl, ⟨by simp, ?_, ?_, ?_, ?_, ?_⟩, (Below.refl _ _).alloc (Nat.le_refl _) _⟩
  all_goals (rw [cell_of_row _ _ _ _ _ _ (heap_alloc_new w _)]; rfl)

/-- the list without one name -/
def without (L : List ByteArray) (s : ByteArray) : List ByteArray := L.filter fun x => !(x.toList == s.toList)

theorem without_le (L : List ByteArray) (s : ByteArray) : (without L s).length ≤ L.length := List.length_filter_le _ _
theorem take_snoc {α : Type} (l : List α) (k : Nat) (x : α) (h : l[k]? = some x) : l.take (k + 1) = l.take k ++ [x] := by
  obtain ⟨hk, hx⟩ := List.getElem?_eq_some_iff.1 h
  rw [List.take_succ_eq_append_getElem hk, hx]
theorem without_snoc (L : List ByteArray) (s x : ByteArray) : without (L ++ [x]) s = without L s ++ (if x.toList == s.toList then [] else [x]) := by
  unfold without
  rw [List.filter_append]
  congr 1
  by_cases h : (x.toList == s.toList) = true <;> simp [List.filter_cons, h]

/-- what removeAddr hands back -/
structure Rest (B : Nat) (M : List ByteArray) (v : Value) (w : World) : Prop where
  own : w.ownsRow B 9 1 v M.length (M.map Value.string)

set_option maxRecDepth 100000 in
set_option maxHeartbeats 800000 in
theorem removeAddr_any (L : List ByteArray) (ja : Option Addr) (jc n : Nat) (s : ByteArray) (w : World) (hl : L.length = n) (hn : n ≤ 1048576) (hh : Held (· < w.heap.size) ja n) (hrow : RowAt w ja (L.map Value.string)) :
    Calls Try.prog 14 #[.slice ja n jc, .string s] w fun e w' => ∃ v, e = .returned v ∧ Rest w.heap.size (without L s) v w' ∧ Below w.heap.size w w' := by
  obtain ⟨i0, hi0, hz0, hz1, hz2⟩ := info_parts Try.info9
  have HL : Hid (L.length = n) := hl
  clear hl
  go_enter Try.func14, Try.ntmps14
  go_wp2
  go_loopw [5, 10] (fun v i wr => ∃ k : Nat, k ≤ n ∧ i = .int .i64 k ∧ wr.ownsRow w.heap.size 9 1 v (without (L.take k) s).length ((without (L.take k) s).map Value.string) ∧ Below w.heap.size w wr) (fun _ i _ => n - (intOf i).toNat)
  case atStart => exact ⟨0, Nat.zero_le _, rfl, World.ownsRow_nil _ _ _ _, Below.refl _ _⟩
  case round =>
    obtain ⟨k, hk, rfl, hown, hb⟩ := hrel
    by_cases hlt : k < n
    · have hkL : k < L.length := by rw [HL.out]; exact hlt
      obtain ⟨b, off, e, hc⟩ := hrow k (by simpa using hkL)
      subst e
      have hc' := (hb.cell (p := ⟨b, off + k, none⟩) (hh (by omega) b off rfl)).trans hc
      simp only [List.getElem_map] at hc'
      have HW : Hid (without (L.take (k + 1)) s = without (L.take k) s ++ (if L[k].toList == s.toList then [] else [L[k]])) := by
        rw [take_snoc L k L[k] (by simp), without_snoc]; rfl
      have hwl := without_le (L.take k) s
      have htl : (L.take k).length ≤ k := List.length_take_le _ _
      generalize L[k] = x at hc' HW
      have hlt' : (k : Int) < (n : Int) := by omega
      clear hc hrow
      by_cases hx : (x.toList == s.toList) = true
      · have HW2 : Hid (without (L.take (k + 1)) s = without (L.take k) s) := by
          have := HW.out
          rw [hx] at this
          show _ = _
          simpa using this
        go_wp2
        go_roundw
        case rel => exact ⟨k + 1, by omega, by go_num, by rw [HW2.out]; exact hown, hb⟩
        case measure => simp [intOf]; omega
      · have hx' : (x.toList == s.toList) = false := by simpa using hx
        have HW2 : Hid (without (L.take (k + 1)) s = without (L.take k) s ++ [x]) := by
          have := HW.out
          rw [hx'] at this
          show _ = _
          simpa using this
        clear hx
        have hsz := hb.size
        go_wp2_with (at_builtin; refine wpList_append_own _ rfl _ _ 22 rfl w.heap.size 9 i0 _ 1 16 Try.underlying22 hi0 hz0 hz1 hz2 rfl (by decide) _ _ _ rfl (hown.alloc _) ⟨wr.heap.size, 0, none⟩ 1 1 [.string x] rfl rfl (cell_one_new _ _ _) ?c2 ?c3 ?c4 ?c5 ?_)
        case c2 => intro u hu; simp at hu; subst hu; rfl
        case c3 => unfold maxLen; omega
        case c4 => omega
        case c5 => simp; omega
        intro v' w1 hown' hgrow _
        have hb1 : Below w.heap.size w w1 := (hb.alloc hsz _).grown hgrow (by simp; omega) (fun k' e => (hown.lt k' e).1)
        have HO : Hid (w1.ownsRow w.heap.size 9 1 v' (without (L.take (k + 1)) s).length ((without (L.take (k + 1)) s).map Value.string)) := by
          rw [HW2.out]
          show World.ownsRow _ _ _ _ _ _ _
          simpa using hown'
        clear hown' hgrow hown
        go_wp2
        go_roundw
        case rel => exact ⟨k + 1, by omega, by go_num, HO.out, hb1⟩
        case measure => simp [intOf]; omega
    · have HO : Hid (wr.ownsRow w.heap.size 9 1 u5 (without L s).length ((without L s).map Value.string)) := by
        have := hown
        rw [List.take_of_length_le (by rw [HL.out]; omega)] at this
        exact this
      clear hown
      go_wp2
      go_ret
      exact ⟨_, rfl, ⟨HO.out⟩, hb⟩

theorem row_of_owns {w : World} {H n : Nat} {v : Value} {vs : List Value} (h : w.ownsRow H 9 1 v n vs) (hn : vs.length = n) : ∃ a c, v = .slice a n c ∧ RowAt w a vs ∧ Held (Span H w.heap.size) a n := by
  rcases h.2 with ⟨rfl, h0⟩ | ⟨g, cap, cur, hv, hg, hh, h1, h2, h3, h4⟩
  · refine ⟨none, 0, by rw [h0], fun i hi => by omega, fun h1 => by omega⟩
  · subst hv
    refine ⟨some ⟨g, 0, none⟩, cap, rfl, fun i hi => ⟨g, 0, rfl, ?_⟩, fun _ b off e => ?_⟩
    · rw [Nat.zero_add, h.cellAt i (by omega)]
      simp
    · simp only [Option.some.injEq, Addr.mk.injEq] at e
      have := h.lt g rfl
      rw [← e.1]
      exact this

theorem remove_of (L : List ByteArray) (ja : Option Addr) (jc n : Nat) (s : ByteArray) (w : World) (hl : L.length = n) (hn : n ≤ 1048576) (hh : Held (· < w.heap.size) ja n) (hrow : RowAt w ja (L.map Value.string)) :
    Calls Try.prog 14 #[.slice ja n jc, .string s] w fun e w' => ∃ a c, e = .returned (.slice a (without L s).length c) ∧ RowAt w' a ((without L s).map Value.string) ∧ Held (Span w.heap.size w'.heap.size) a (without L s).length ∧ Below w.heap.size w w' := by
  refine (removeAddr_any L ja jc n s w hl hn hh hrow).mono ?_
  rintro e w' ⟨v, rfl, hr, hb⟩
  obtain ⟨a, c, rfl, h1, h2⟩ := row_of_owns hr.own (by simp)
  exact ⟨a, c, rfl, h1, h2, hb⟩

section
variable {w : World} {B : Nat} {lt lc : Int} {s : ByteArray} {vj : Value}
theorem waiting_yes {a : Option Addr} {ac : Nat} (h : El w B (.slice a 0 ac) lt lc s vj) : Calls Try.prog 12 #[.pointer (some ⟨B, 0, none⟩)] w fun e w' => e = .returned (.bool true) ∧ w' = w := by
  have c0 := h.c0
  clear h
  go_enter Try.func12, Try.ntmps12
  go_wp2
  go_ret
  exact ⟨rfl, rfl⟩
theorem waiting_no {a : Option Addr} {n ac : Nat} (h : El w B (.slice a n ac) lt lc s vj) (hn : 0 < n) : Calls Try.prog 12 #[.pointer (some ⟨B, 0, none⟩)] w fun e w' => e = .returned (.bool false) ∧ w' = w := by
  have c0 := h.c0
  have hz : ((n : Int) == 0) = false := by rw [beq_eq_false_iff_ne]; omega
  clear h
  go_enter Try.func12, Try.ntmps12
  go_wp2
  go_ret
  exact ⟨rfl, rfl⟩
theorem majority_any {a : Option Addr} {n ac : Nat} (h : El w B (.slice a n ac) lt lc s vj) (hn : n ≤ 1048576) : Calls Try.prog 13 #[.pointer (some ⟨B, 0, none⟩)] w fun e w' => e = .returned (.int .i64 ((n / 2 : Nat) + 1 : Int)) ∧ w' = w := by
  have c0 := h.c0
  clear h
  go_enter Try.func13, Try.ntmps13
  go_wp2_with fail
  refine (majorityOf_any n hn _).mono ?_
  rintro e w9 ⟨rfl, hw9⟩
  rw [hw9]
  clear hw9
  go_wp2
  go_ret
  exact ⟨rfl, rfl⟩
end

end Go.Proofs.Qxb6613197a
