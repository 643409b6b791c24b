/-
  THE SHELL OF A PROOF OF 'Rows.FnJournalIndexNameLocalToLastSixSaid' ('example.com/evidra/evidra/zzlaws_internal_store_b1.FnJournalIndexNameLocalToLastSix'), WRITTEN BY PROGRAM (proof-skeleton.mjs) off the guide's own print for that function. Not trusted: the kernel checks it.
  THE HOLE IS FILLED (by an AI agent). ALL ELSE IS THE GUIDE's TEMPLATE (howto/template/XProofs.lean) at this function's number and types.
-/
import Derived.Test.Qxb6613141aRows
import Derived.Test.Qxb6613141aNames
import Derived.WalkKit
import Derived.ProofKit
import Derived.OpenShut
import Derived.ShutString
namespace Go.Proofs.Qxb6613141a.fnJournalIndexNameLocalToLastSix
open Go.ChangeShapes Go.WideShapes Go.ChangeAt Go.RowKit
open Go.ChangeMaps (open_string shut_string)
set_option linter.unusedVariables false      -- a walk need not use every 'w<i>' (that an integer argument fits its kind)
set_option linter.unusedSimpArgs false

theorem own : ownKnob Try.prog.godebug = none := by kernel_rfl

theorem guard_any (a b : ByteArray) (ha : a.size ≤ 9223372036854775807) (hb : b.size ≤ 9223372036854775807) (w : World) : Calls Try.prog 10 #[.string a, .string b] w fun e w' => Guard2 a b e ∧ w' = w := by
  by_cases h1 : a.size ≤ 1048576
  case neg =>
    go_enter Try.func10, Try.ntmps10
    go_wp2
    go_ret
    exact ⟨⟨false, rfl, fun h => by cases h⟩, rfl⟩
  by_cases h2 : b.size ≤ 1048576
  case neg =>
    go_enter Try.func10, Try.ntmps10
    go_wp2
    go_ret
    exact ⟨⟨false, rfl, fun h => by cases h⟩, rfl⟩
  by_cases h3 : (a.size : Int) + (b.size : Int) ≤ 1048576
  · go_enter Try.func10, Try.ntmps10
    go_wp2
    go_ret
    exact ⟨⟨true, rfl, fun _ => ⟨h1, h2⟩⟩, rfl⟩
  · go_enter Try.func10, Try.ntmps10
    go_wp2
    go_ret
    exact ⟨⟨false, rfl, fun h => by cases h⟩, rfl⟩

/-! ### STEP 1: THE WALK: the Go text returns true. 'Grown w w'': the world has at most new blocks (Derived/RowKit3.lean). Part the cases AHEAD of 'go_enter' where a test parts the walk; take each callee by a contract of your own. -/
theorem walk (a0 : ByteArray) (a1 : ByteArray) (w0 : a0.size ≤ maxLen) (w1 : a1.size ≤ maxLen) (w : World) :
    Calls Try.prog 5 #[.string a0, .string a1] w fun e w' => e = .returned (.bool true) ∧ Grown w w' := by
  unfold maxLen at w0 w1
  go_enter Try.func5, Try.ntmps5
  go_wp2_with fail
  refine (guard_any a0 a1 w0 w1 _).mono ?_
  rintro e w9 ⟨⟨g, rfl, hg⟩, hw9⟩
  rw [hw9]
  clear hw9
  cases g with
  | false =>
    clear hg
    go_wp2
    go_ret
    exact ⟨rfl, Grown.refl _⟩
  | true =>
  obtain ⟨b0, b1⟩ := hg rfl
  clear hg
  by_cases s0 : a0.size ≤ 524288
  case neg =>
    go_wp2
    go_ret
    exact ⟨rfl, Grown.refl _⟩
  by_cases s1 : a1.size ≤ 524288
  case neg =>
    go_wp2
    go_ret
    exact ⟨rfl, Grown.refl _⟩
  by_cases s6 : 6 ≤ a1.size
  case neg =>
    go_wp2
    go_ret
    exact ⟨rfl, Grown.refl _⟩
  have z1 := nm_size a1
  go_wp2_with fail
  refine (zidx_any _ (by first | omega | (simp only [ByteArray.size_append]; have : (⟨#[46, 106, 115, 111, 110, 108]⟩ : ByteArray).size = 6 := rfl; omega)) _).mono ?_
  rintro e w9 ⟨rfl, hw9⟩
  rw [hw9]
  clear hw9
  rw [nm_local a0 a1 s6, ByteArray.append_assoc]
  go_wp2_with fail
  refine (zidx_any _ (by first | omega | (simp only [ByteArray.size_append]; have : (⟨#[46, 106, 115, 111, 110, 108]⟩ : ByteArray).size = 6 := rfl; omega)) _).mono ?_
  rintro e w9 ⟨rfl, hw9⟩
  rw [hw9]
  clear hw9
  go_wp2_with fail
  refine (zidx_any _ (by first | omega | (simp only [ByteArray.size_append]; have : (⟨#[46, 106, 115, 111, 110, 108]⟩ : ByteArray).size = 6 := rfl; omega)) _).mono ?_
  rintro e w9 ⟨rfl, hw9⟩
  rw [hw9]
  clear hw9
  rw [nm_suf]
  go_wp2
  go_ret
  exact ⟨by simp, Grown.refl _⟩

/-! ### THE ROW's STEP: WRITTEN OUT: LEAVE IT -/
set_option maxRecDepth 100000 in
theorem lifted (os : Os) (started : os.Started) (H : Type) (enc : TypeId × Value → H) :
    ReturnsInHanded {} Try.checked os 5 .any (Rows.fnJournalIndexNameLocalToLastSixSpec.pre6 enc Try.prog Try.f5 Rows.fnJournalIndexNameLocalToLastSixRow.domain false) (Rows.fnJournalIndexNameLocalToLastSixSpec.post enc Try.prog Try.f5 false true false false) := by
  refine returnsInHanded_of_change (C := Try.checked) own started (by kernel_rfl) Try.func5
    (ChangeSpec.witness6 (enc := enc) (C := Try.checked) false ⟨#[], #[.string ByteArray.empty, .string ByteArray.empty], []⟩ 8 (by kernel_rfl) (by kernel_rfl) (by kernel_rfl) (by kernel_rfl)) ?_
  intro W base args ds gs before hval0 hW hcnd _
  have hval : ∀ (j : Nat) t v, Try.f5.params[j]? = some t → args[j]? = some v → Value.okWide Try.prog W .any base t v := hval0
  have hW' := hW
  obtain ⟨p, q, hA0, hV, rfl, hfz, hnd⟩ := hW
  have hA : DataW.TrodAll enc Try.prog W 0 (fun _ => true) true Try.f5.params.toList args.toList ds p := hA0
  rw [Try.params5] at hA hval
  obtain ⟨v0, vs0, d0, ds0, p0, q0, hargs, rfl, rfl, h0, r0⟩ := trodAll_cons hA
  obtain ⟨v1, vs1, d1, ds1, p1, q1, rfl, rfl, rfl, h1, r1⟩ := trodAll_cons r0
  obtain ⟨rfl, rfl, rfl⟩ := trodAll_nil r1
  obtain rfl : args = #[v0, v1] := by cases args; simp_all
  obtain ⟨rfl, rfl⟩ := trodVars_none hV
  obtain ⟨a0, rfl, rfl, rfl, w0⟩ := open_string Try.underlying9 (hval 0 9 v0 rfl rfl) h0
  obtain ⟨a1, rfl, rfl, rfl, w1⟩ := open_string Try.underlying9 (hval 1 9 v1 rfl rfl) h1
  clear hA0 hval0
  simp only [List.append_nil] at hW'
  refine (walk a0 a1 w0 w1 W).mono fun e W' ⟨he, hg⟩ => ?_
  subst he
  exact ⟨_, rfl, post_of_same (pa := []) (pv := []) hW' (fun _ _ _ => (trodAll_cons_mk (shut_bool Try.underlying4 _) trodAll_mk0)) (fun sp _ => (trodAll_cons_mk (shut_string Try.underlying9 w0) (trodAll_cons_mk (shut_string Try.underlying9 w1) trodAll_mk0))) (fun _ _ => rfl) rfl
    (hg.frame _) hg.2.1 (ok_one (by kernel_rfl) rfl (okWide_bool_mk Try.underlying4 _))⟩

theorem over : Rows.fnJournalIndexNameLocalToLastSixRow.holds Try.pinned (OpenSpec.ofChange Rows.fnJournalIndexNameLocalToLastSixSpec) :=
  OpenClaim.holds_of_wide 5 Try.f5 rfl rfl rfl rfl rfl rfl rfl ⟨rfl, rfl, rfl, rfl, rfl⟩ rfl rfl rfl rfl rfl (by kernel_rfl) Try.func5 (by kernel_rfl)
    (of_decide_eq_true (by kernel_rfl)) (by unfold Func.isWrapper; first | (rw [if_pos (by decide +kernel)]; kernel_rfl) | (rw [if_neg (by decide +kernel)]; exact ⟨rfl, rfl⟩))
    (fun os started H enc _ => lifted os started H enc)

/-- ████ THE STATEMENT ████ -/
theorem proved : Rows.FnJournalIndexNameLocalToLastSixSaid :=
  over
#print axioms proved
end Go.Proofs.Qxb6613141a.fnJournalIndexNameLocalToLastSix
