/-
  Seat b6613968a. The walks of ZZReaderUnsent (17), ZZReaderCut (18), ZZReaderToken (19), ZZReaderPending (15), ZZReaderReplay (16). By an AI agent.
-/
import Derived.Test.Qxb6613968aRd
import Derived.Conc.LoneSelectN
namespace Go.Proofs.Qxb6613968a
open Go.Conc Go.RowKit
set_option linter.unusedVariables false
set_option linter.unusedSimpArgs false

section
variable {w : World} {H R c : Nat} {pv rv : Sl} {P Q : List Ev} {u cut : Int} {tok : Bool}

theorem unsent_any (h : Rd w H R c pv rv P Q u cut tok) : Calls Try.prog 17 #[.pointer (some ⟨R, 0, none⟩)] w fun e w' => e = .returned (.int .i64 u) ∧ w' = w := by
  obtain ⟨c2, hblk⟩ := h.block
  have c4 : w.cell? ⟨R, 4, none⟩ = some (.int .i64 u) := by simp [World.cell?, hblk]
  clear hblk h
  go_enter Try.func17, Try.ntmps17
  go_wp2
  go_ret
  exact ⟨rfl, rfl⟩

theorem cut_any (h : Rd w H R c pv rv P Q u cut tok) : Calls Try.prog 18 #[.pointer (some ⟨R, 0, none⟩)] w fun e w' => e = .returned (.int .i64 cut) ∧ w' = w := by
  obtain ⟨c2, hblk⟩ := h.block
  have c5 : w.cell? ⟨R, 5, none⟩ = some (.int .i64 cut) := by simp [World.cell?, hblk]
  clear hblk h
  go_enter Try.func18, Try.ntmps18
  go_wp2
  go_ret
  exact ⟨rfl, rfl⟩

set_option maxRecDepth 100000 in
theorem token_any (h : Rd w H R c pv rv P Q u cut tok) : Calls Try.prog 19 #[.pointer (some ⟨R, 0, none⟩)] w fun e w' => e = .returned (.bool tok) ∧ w' = w := by
  obtain ⟨c2, hblk⟩ := h.block
  obtain ⟨buf, s, r, hc, hz⟩ := h.chan
  have c0 : w.cell? ⟨R, 0, none⟩ = some (.chan (some c)) := by simp [World.cell?, hblk]
  have hl := run_len_chan (P := Try.prog) 50 3 Try.underlying50 hc
  rw [hz] at hl
  clear hblk h hc hz
  cases tok with
  | true =>
    simp only [if_true, goInt] at hl
    go_enter Try.func19, Try.ntmps19
    go_wp2
    go_ret
    exact ⟨rfl, rfl⟩
  | false =>
    simp only [if_false, goInt, Bool.false_eq_true] at hl
    go_enter Try.func19, Try.ntmps19
    go_wp2
    go_ret
    exact ⟨rfl, rfl⟩

/-- what ZZReaderPending and ZZReaderReplay hand back: three new rows, and whether the slice is nil -/
def Fields (w : World) (ao : Option Addr) (es : List Ev) (e : Ending) (w' : World) : Prop :=
  e = .returned (.tuple #[.slice (some ⟨w.heap.size, 0, none⟩) es.length es.length, .slice (some ⟨w.heap.size + 1, 0, none⟩) es.length es.length, .slice (some ⟨w.heap.size + 2, 0, none⟩) es.length es.length, .bool ao.isNone]) ∧
  RowAt w' (some ⟨w.heap.size, 0, none⟩) (es.map fun e => .string e.name) ∧ RowAt w' (some ⟨w.heap.size + 1, 0, none⟩) (es.map fun e => .int .u64 e.id) ∧ RowAt w' (some ⟨w.heap.size + 2, 0, none⟩) (es.map fun e => e.dat.v) ∧
  w.heap.size + 3 ≤ w'.heap.size ∧ Below w.heap.size w w'

theorem owns_held {base : Nat} {a : Option Addr} {n cap : Nat} {xs : List Value} (h : w.ownsRow base 60 3 (.slice a n cap) n xs) : Held (· < w.heap.size) a n := by
  intro h0 b off e
  subst e
  exact (h.lt b rfl).2

set_option maxRecDepth 100000 in
set_option maxHeartbeats 800000 in
theorem pending_any {pa : Option Addr} {pc : Nat} (h : Rd w H R c ⟨pa, P.length, pc⟩ rv P Q u cut tok) (hsm : P.length ≤ 4194304) : Calls Try.prog 15 #[.pointer (some ⟨R, 0, none⟩)] w (Fields w pa P) := by
  have q51 : ∀ (w : World) (a : Option Addr) (n c n' c' : Nat), (binOp .eql 51 (.slice a n c) (.slice none n' c')).run Try.prog w = .ok (.bool a.isNone) w := fun w a n c n' c' => Lib.run_eql_slice_nil w _ _ a n c n' c' Try.underlying51
  have hRl := h.ltR
  obtain ⟨c2, hblk⟩ := h.block
  have c3 : w.cell? ⟨R, 3, none⟩ = some (.slice pa P.length pc) := by simp [World.cell?, hblk, Sl.v]
  have HE : Hid (EvRow w pa P) := evRow_of_owns h.pend
  have HH : Hid (Held (· < w.heap.size) pa P.length) := owns_held h.pend
  clear hblk h
  go_enter Try.func15, Try.ntmps15
  go_wp2_with fail
  refine (eventFields_any P pa pc P.length w rfl hsm HH.out HE.out).mono ?_
  rintro e w1 ⟨rfl, r1, r2, r3, hs, hb⟩
  have HR : Hid (RowAt w1 (some ⟨w.heap.size, 0, none⟩) (P.map fun e => .string e.name) ∧ RowAt w1 (some ⟨w.heap.size + 1, 0, none⟩) (P.map fun e => .int .u64 e.id) ∧ RowAt w1 (some ⟨w.heap.size + 2, 0, none⟩) (P.map fun e => e.dat.v)) := ⟨r1, r2, r3⟩
  have d3 : w1.cell? ⟨R, 3, none⟩ = some (.slice pa P.length pc) := (hb.cell (p := ⟨R, 3, none⟩) hRl).trans c3
  clear r1 r2 r3 c3
  go_wp2
  go_region
  go_wp2
  exact bodyPost_ret (v := .tuple #[.slice (some ⟨w.heap.size, 0, none⟩) P.length P.length, .slice (some ⟨w.heap.size + 1, 0, none⟩) P.length P.length, .slice (some ⟨w.heap.size + 2, 0, none⟩) P.length P.length, .bool pa.isNone]) (by simp [results, Try.results15, go_sem]) rfl ⟨rfl, HR.out.1, HR.out.2.1, HR.out.2.2, hs, hb.drew⟩

set_option maxRecDepth 100000 in
set_option maxHeartbeats 800000 in
theorem replay_any {ra : Option Addr} {rc : Nat} (h : Rd w H R c pv ⟨ra, Q.length, rc⟩ P Q u cut tok) (hsm : Q.length ≤ 4194304) : Calls Try.prog 16 #[.pointer (some ⟨R, 0, none⟩)] w (Fields w ra Q) := by
  have q51 : ∀ (w : World) (a : Option Addr) (n c n' c' : Nat), (binOp .eql 51 (.slice a n c) (.slice none n' c')).run Try.prog w = .ok (.bool a.isNone) w := fun w a n c n' c' => Lib.run_eql_slice_nil w _ _ a n c n' c' Try.underlying51
  have hRl := h.ltR
  obtain ⟨c2, hblk⟩ := h.block
  have c3 : w.cell? ⟨R, 2, none⟩ = some (.slice ra Q.length rc) := by simp [World.cell?, hblk, Sl.v]
  have HE : Hid (EvRow w ra Q) := evRow_of_owns h.repl
  have HH : Hid (Held (· < w.heap.size) ra Q.length) := owns_held h.repl
  clear hblk h
  go_enter Try.func16, Try.ntmps16
  go_wp2_with fail
  refine (eventFields_any Q ra rc Q.length w rfl hsm HH.out HE.out).mono ?_
  rintro e w1 ⟨rfl, r1, r2, r3, hs, hb⟩
  have HR : Hid (RowAt w1 (some ⟨w.heap.size, 0, none⟩) (Q.map fun e => .string e.name) ∧ RowAt w1 (some ⟨w.heap.size + 1, 0, none⟩) (Q.map fun e => .int .u64 e.id) ∧ RowAt w1 (some ⟨w.heap.size + 2, 0, none⟩) (Q.map fun e => e.dat.v)) := ⟨r1, r2, r3⟩
  have d3 : w1.cell? ⟨R, 2, none⟩ = some (.slice ra Q.length rc) := (hb.cell (p := ⟨R, 2, none⟩) hRl).trans c3
  clear r1 r2 r3 c3
  go_wp2
  go_region
  go_wp2
  exact bodyPost_ret (v := .tuple #[.slice (some ⟨w.heap.size, 0, none⟩) Q.length Q.length, .slice (some ⟨w.heap.size + 1, 0, none⟩) Q.length Q.length, .slice (some ⟨w.heap.size + 2, 0, none⟩) Q.length Q.length, .bool ra.isNone]) (by simp [results, Try.results16, go_sem]) rfl ⟨rfl, HR.out.1, HR.out.2.1, HR.out.2.2, hs, hb.drew⟩

/-- the reader stays where nothing old turns -/
theorem Rd.later {w' : World} (h : Rd w H R c pv rv P Q u cut tok) (hb : Below w.heap.size w w') : Rd w' H R c pv rv P Q u cut tok := by
  obtain ⟨c2, hblk⟩ := h.block
  obtain ⟨b, s, r, h1, h2⟩ := h.chan
  exact ⟨⟨c2, by rw [hb.block R h.ltR]; exact hblk⟩, ⟨b, s, r, by rw [hb.block c h.ltC]; exact h1, h2⟩, owns_below h.pend hb (Nat.le_refl _), owns_below h.repl hb (Nat.le_refl _), h.hR, h.hc, h.apart⟩
end

end Go.Proofs.Qxb6613968a
