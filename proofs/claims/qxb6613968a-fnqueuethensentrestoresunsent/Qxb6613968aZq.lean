/-
  Seat b6613968a. The walk of ZZQueue (14). By an AI agent.
-/
import Derived.Test.Qxb6613968aRd
namespace Go.Proofs.Qxb6613968a
open Go.Conc Go.RowKit
set_option linter.unusedVariables false
set_option linter.unusedSimpArgs false

theorem zzqueue_of {w : World} {R : Nat} {s : ByteArray} {i : Int} {da : Option Addr} {dn dc : Nat} {F : World → Prop}
    (h : Calls Try.prog 30 #[.pointer (some ⟨R, 0, none⟩), .agg #[.string s, .int .u64 i, .slice da dn dc]] w fun e w' => e = .returned (.tuple #[]) ∧ F w') :
    Calls Try.prog 14 #[.pointer (some ⟨R, 0, none⟩), .string s, .int .u64 i, .slice da dn dc] w fun e w' => e = .returned (.tuple #[]) ∧ F w' := by
  have HC : Hid (Calls Try.prog 30 #[.pointer (some ⟨R, 0, none⟩), .agg #[.string s, .int .u64 i, .slice da dn dc]] w fun e w' => e = .returned (.tuple #[]) ∧ F w') := h
  clear h
  go_enter Try.func14, Try.ntmps14
  go_wp2_with fail
  refine HC.out.mono ?_
  rintro e w1 ⟨rfl, hF⟩
  have HF : Hid (F w1) := hF
  clear hF
  go_wp2
  go_end0
  exact ⟨rfl, HF.out⟩

end Go.Proofs.Qxb6613968a
