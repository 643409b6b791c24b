/-
  Seat b6613968a. The channel 'ready' in one goroutine: (*channelReader).signal (34), a select of one send with a default; and the send of ZZNewChannelReader. By an AI agent.
-/
import Derived.Test.Qxb6613968aProg
import Derived.Test.Qxb6613968aMem
import Derived.Conc.LoneCalls
import Derived.Conc.LoneSelect
namespace Go.Proofs.Qxb6613968a
open Go.Conc Go.RowKit
set_option linter.unusedVariables false
set_option linter.unusedSimpArgs false

theorem Try.info56 : (Try.prog.info? 56).map (fun i => (i.zero, i.size, i.bytes)) = some (some (.agg #[]), 0, 0) := by kernel_rfl

theorem zero56 (w : World) : (zeroValue 56).run Try.prog w = .ok (.agg #[]) w := by
  obtain ⟨i0, hi0, hz0, _, _⟩ := info_parts Try.info56
  simp [zeroValue, typeInfo, hi0, hz0]

set_option maxRecDepth 100000 in
theorem signal_room (R c : Nat) (buf : Array Value) (s r : Nat) (tm : Bool) (w : World) (hR : w.cell? ⟨R, 0, none⟩ = some (.chan (some c))) (hc : w.heap[c]? = some (.chan 1 buf false s r tm)) (hroom : buf.size < 1) :
    Calls Try.prog 34 #[.pointer (some ⟨R, 0, none⟩)] w fun e w' => e = .returned (.tuple #[]) ∧ w' = w.setChan c 1 (buf.push (.agg #[])) false (s + 1) r tm := by
  refine calls_of_loneTo fun cs => ?_
  have e : Frame.enter Try.prog 34 #[.pointer (some ⟨R, 0, none⟩)] .normal = (base 34).at ⟨#[.pointer (some ⟨R, 0, none⟩), undef, undef, undef, undef, undef, undef, undef, undef, undef], []⟩ [.code (Try.f34.body.getD .skip)] := by
    simp [Frame.enter, Frame.at, Try.func34, base, Try.f34]
  rw [e]
  refine LoneTo.goes (n := 14) ?_
  simp only [Try.f34, Option.getD_some]
  s_c stepG_seq
  s_c stepG_seq
  s_reg
  s_op
  s_op
  s_op
  s_op
  s_c stepG_region_end
  s_reg
  s_op
  s_c stepG_region_end
  s_c stepG_seq
  s_reg
  s_stop
  have hz := zero56
  refine LoneTo.step (step_lone_select_send_room (c := c) (v := .agg #[]) (z' := .agg #[]) (stepG_comm (cases := #[scase c (.agg #[]) (.agg #[])]) (blocking := false) (shape := .select) (w' := w) rfl rfl (by decide) (by simp [go_sem, execOp, scase, Act.eval, hz])) hc hroom) ?_
  rw [Frame.finish_at]
  walk_nrm
  refine LoneTo.goes (n := 9) ?_
  s_op
  s_op
  s_c stepG_region_end
  s_c stepG_block
  s_cond true
  s_c stepG_skip
  s_c stepG_inBlock
  s_c stepG_end
  s_stop
  exact LoneTo.done ⟨.returned (.tuple #[]), _, rfl, ⟨rfl, rfl⟩, rfl, rfl, rfl, rfl, _, Try.func34, by simp [results, Try.f34, Frame.at]⟩

set_option maxRecDepth 100000 in
theorem signal_full (R c : Nat) (buf : Array Value) (s r : Nat) (tm : Bool) (w : World) (hR : w.cell? ⟨R, 0, none⟩ = some (.chan (some c))) (hc : w.heap[c]? = some (.chan 1 buf false s r tm)) (hfull : 1 ≤ buf.size) :
    Calls Try.prog 34 #[.pointer (some ⟨R, 0, none⟩)] w fun e w' => e = .returned (.tuple #[]) ∧ w' = w := by
  refine calls_of_loneTo fun cs => ?_
  have e : Frame.enter Try.prog 34 #[.pointer (some ⟨R, 0, none⟩)] .normal = (base 34).at ⟨#[.pointer (some ⟨R, 0, none⟩), undef, undef, undef, undef, undef, undef, undef, undef, undef], []⟩ [.code (Try.f34.body.getD .skip)] := by
    simp [Frame.enter, Frame.at, Try.func34, base, Try.f34]
  rw [e]
  refine LoneTo.goes (n := 14) ?_
  simp only [Try.f34, Option.getD_some]
  s_c stepG_seq
  s_c stepG_seq
  s_reg
  s_op
  s_op
  s_op
  s_op
  s_c stepG_region_end
  s_reg
  s_op
  s_c stepG_region_end
  s_c stepG_seq
  s_reg
  s_stop
  have hz := zero56
  refine LoneTo.step (step_lone_select_send_full (c := c) (v := .agg #[]) (z' := .agg #[]) (stepG_comm (cases := #[scase c (.agg #[]) (.agg #[])]) (blocking := false) (shape := .select) (w' := w) rfl rfl (by decide) (by simp [go_sem, execOp, scase, Act.eval, hz])) hc hfull) ?_
  rw [Frame.finish_at]
  walk_nrm
  refine LoneTo.goes (n := 9) ?_
  s_op
  s_op
  s_c stepG_region_end
  s_c stepG_block
  s_cond false
  s_c stepG_skip
  s_c stepG_inBlock
  s_c stepG_end
  s_stop
  exact LoneTo.done ⟨.returned (.tuple #[]), _, rfl, ⟨rfl, rfl⟩, rfl, rfl, rfl, rfl, _, Try.func34, by simp [results, Try.f34, Frame.at]⟩

/-- what signal leaves: a token in the channel, all else as it was -/
structure Signalled (w : World) (c : Nat) (w' : World) : Prop where
  chan : ∃ buf s r, w'.heap[c]? = some (.chan 1 buf false s r false) ∧ buf.size = 1
  other : ∀ b, b ≠ c → w'.heap[b]? = w.heap[b]?
  below : Below c w w'
  size : w'.heap.size = w.heap.size

theorem signal_any (R c : Nat) (w : World) (hR : w.cell? ⟨R, 0, none⟩ = some (.chan (some c))) (hc : ∃ buf s r, w.heap[c]? = some (.chan 1 buf false s r false) ∧ buf.size ≤ 1) :
    Calls Try.prog 34 #[.pointer (some ⟨R, 0, none⟩)] w fun e w' => e = .returned (.tuple #[]) ∧ Signalled w c w' := by
  obtain ⟨buf, s, r, hc, hb⟩ := hc
  have hcl : c < w.heap.size := by
    rcases Nat.lt_or_ge c w.heap.size with h' | h'
    · exact h'
    · rw [Array.getElem?_eq_none h'] at hc; cases hc
  by_cases h : buf.size < 1
  · refine (signal_room R c buf s r false w hR hc h).mono ?_
    rintro e w' ⟨rfl, rfl⟩
    refine ⟨rfl, ⟨_, _, _, heap_setChan w c 1 _ false _ r false hcl, by rw [Array.size_push]; omega⟩, fun b hbc => ?_, below_setChan (Below.refl _ _) (Nat.le_refl _) _ _ _ _ _ _, size_setChan _ _ _ _ _ _ _ _⟩
    simp only [World.setChan]
    rw [Array.getElem?_setIfInBounds_ne (by omega)]
  · refine (signal_full R c buf s r false w hR hc (by omega)).mono ?_
    rintro e w' ⟨rfl, rfl⟩
    exact ⟨rfl, ⟨buf, s, r, hc, by omega⟩, fun _ _ => rfl, Below.refl _ _, rfl⟩

/-- A body of two statements and a rest: the two by the kit's walk, the rest by steps of the machine (a communication is no step of the kit's walk). -/
theorem calls_split {P : Program} {f : FuncId} {fn : Func} {r0 r1 t : Code} {args : Array Value} {w : World} {R : Ending → World → Prop} (Tail : Act → World → Prop)
    (hf : P.funcs[f]? = some fn) (hb : fn.body = some (.seq r0 (.seq r1 t)))
    (h : r0.wp P (Exit.then (fun a w => r1.wp P (Exit.then Tail fun _ _ _ => False) a w) fun _ _ _ => False) { tmps := args ++ Array.replicate (fn.ntmps - args.size) undef, defers := [] } w)
    (tail : ∀ a w, Tail a w → ∀ cs, LoneTo P (fun g' w' => ∃ e fr, g' = G fr cs ∧ R e w' ∧ fr.fn = f ∧ fr.leaving P w' e) (G ((base f).at a [.code t]) cs) w)
    (hno : ∀ w', ¬ R .outgrown w') : Calls P f args w R := by
  refine calls_of_loneTo (fun cs => ?_) hno
  have henter : Frame.enter P f args .normal = (base f).at { tmps := args ++ Array.replicate (fn.ntmps - args.size) undef, defers := [] } [.code (.seq r0 (.seq r1 t))] := by
    simp [Frame.enter, Frame.at, hf, hb, base]
  rw [henter]
  obtain ⟨e1, a1, w1, hq1, ha1⟩ := h (base f) [.code (.seq r1 t)] cs
  cases e1 with
  | normal =>
    obtain ⟨e2, a2, w2, hq2, ha2⟩ := hq1 (base f) [.code t] cs
    cases e2 with
    | normal =>
      obtain ⟨g', w', hs, hq⟩ := tail a2 w2 hq2 cs
      refine ⟨g', w', ?_, hq⟩
      exact Steps.head (step_seq (b := base f)) (Steps.trans ha1 (Steps.head (step_seq (b := base f)) (Steps.trans ha2 hs)))
    | exit id => exact hq2.elim
    | goto l => exact hq2.elim
    | ret => exact hq2.elim
    | panic ch => exact hq2.elim
    | outgrown => exact hq2.elim
  | exit id => exact hq1.elim
  | goto l => exact hq1.elim
  | ret => exact hq1.elim
  | panic ch => exact hq1.elim
  | outgrown => exact hq1.elim

/-- what stands behind the making of the reader in ZZNewChannelReader: the token's send, the return -/
def tailOf : Option Code → Code
  | some (.seq _ (.seq _ t)) => t
  | _ => .skip

set_option maxRecDepth 100000 in
theorem newTail_true (R c : Nat) (w : World) (Rr : Ending → World → Prop) (hR : w.cell? ⟨R, 0, none⟩ = some (.chan (some c))) (buf : Array Value) (s r : Nat) (hc : w.heap[c]? = some (.chan 1 buf false s r false)) (hroom : buf.size < 1)
    (hq : Rr (.returned (.pointer (some ⟨R, 0, none⟩))) (w.setChan c 1 (buf.push (.agg #[])) false (s + 1) r false))
    (t0 t1 t2 t3 t4 t5 t6 t7 t9 t10 t11 t12 t13 t14 t15 t16 t17 t18 t20 t21 t22 t23 t24 t25 t26 t27 t28 t29 t30 t31 t32 t33 t34 t35 t36 t37 t38 t39 t40 : Value) :
    ∀ cs, LoneTo Try.prog (fun g' w' => ∃ e fr, g' = G fr cs ∧ Rr e w' ∧ fr.fn = 10 ∧ fr.leaving Try.prog w' e) (G ((base 10).at ⟨#[t0, t1, t2, t3, t4, t5, t6, t7, .bool true, t9, t10, t11, t12, t13, t14, t15, t16, t17, t18, .pointer (some ⟨R, 0, none⟩), t20, t21, t22, t23, t24, t25, t26, t27, t28, t29, t30, t31, t32, t33, t34, t35, t36, t37, t38, t39, t40], []⟩ [.code (tailOf Try.f10.body)]) cs) w := by
  intro cs
  refine LoneTo.goes (n := 16) ?_
  simp only [tailOf, Try.f10]
  s_c stepG_seq
  s_c stepG_seq
  s_reg
  s_op
  s_c stepG_region_end
  s_cond true
  s_reg
  s_op
  s_op
  s_op
  s_op
  s_op
  s_stop
  refine LoneTo.step (step_lone_send_room (c := c) (cap := 1) (buf := buf) (s := s) (r := r) (tm := false) (stepG_comm (cases := #[scase c (.agg #[]) (.tuple #[])]) (blocking := true) (shape := .send) (w' := w) rfl rfl (by decide) (by simp [execOp, scase, Act.eval])) hc hroom) ?_
  rw [Frame.finish_at]
  walk_nrm
  refine LoneTo.goes (n := 9) ?_
  s_c stepG_region_end
  s_c stepG_seq
  s_reg
  s_op
  s_op
  s_c stepG_region_end
  s_c stepG_ret'
  s_stop
  exact LoneTo.done ⟨.returned (.pointer (some ⟨R, 0, none⟩)), _, rfl, by simpa using hq, rfl, rfl, rfl, rfl, _, Try.func10, by simp [results, Try.f10, Frame.at]⟩

set_option maxRecDepth 100000 in
theorem newTail_false (R : Nat) (w : World) (Rr : Ending → World → Prop) (hq : Rr (.returned (.pointer (some ⟨R, 0, none⟩))) w)
    (t0 t1 t2 t3 t4 t5 t6 t7 t9 t10 t11 t12 t13 t14 t15 t16 t17 t18 t20 t21 t22 t23 t24 t25 t26 t27 t28 t29 t30 t31 t32 t33 t34 t35 t36 t37 t38 t39 t40 : Value) :
    ∀ cs, LoneTo Try.prog (fun g' w' => ∃ e fr, g' = G fr cs ∧ Rr e w' ∧ fr.fn = 10 ∧ fr.leaving Try.prog w' e) (G ((base 10).at ⟨#[t0, t1, t2, t3, t4, t5, t6, t7, .bool false, t9, t10, t11, t12, t13, t14, t15, t16, t17, t18, .pointer (some ⟨R, 0, none⟩), t20, t21, t22, t23, t24, t25, t26, t27, t28, t29, t30, t31, t32, t33, t34, t35, t36, t37, t38, t39, t40], []⟩ [.code (tailOf Try.f10.body)]) cs) w := by
  intro cs
  refine LoneTo.goes (n := 16) ?_
  simp only [tailOf, Try.f10]
  s_c stepG_seq
  s_c stepG_seq
  s_reg
  s_op
  s_c stepG_region_end
  s_cond false
  s_c stepG_skip
  s_c stepG_seq
  s_reg
  s_op
  s_op
  s_c stepG_region_end
  s_c stepG_ret'
  s_stop
  exact LoneTo.done ⟨.returned (.pointer (some ⟨R, 0, none⟩)), _, rfl, by simpa using hq, rfl, rfl, rfl, rfl, _, Try.func10, by simp [results, Try.f10, Frame.at]⟩

end Go.Proofs.Qxb6613968a
