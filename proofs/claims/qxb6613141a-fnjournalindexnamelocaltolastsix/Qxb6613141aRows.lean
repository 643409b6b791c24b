/-
  No cell of these rows narrows 'for every input' (looked for: loops, veiled, ifaces, maps, wideKeys, modest, calm, conditions, laid).
  DERIVED. THE GIVEN ROWS OF THIS SEAT. 4 by the template 'for every input the law returns true; each argument reads behind the call as it read before'; 0 by the template 'total and deterministic' (their statements: Qxb6613141aTotals.lean).
  GIVEN WITH THE SEED: the statements are not yours to turn. If you find one false, say at which input.
  Laid BY PROGRAM, IN A SANDBOX (cutbox-rows.mjs): the forced cells as the released guide's own fill.sh prints them over the translation d14e09e57aefeb7a… (all of the seat's roots in one cut). By AI agents, Wed Nov 11 2026. No macro, syntax, notation, axiom, sorry.
-/
import Derived.Test.Qxb6613141aChecked
import GoSem.Claim
import GoSem.ClaimJoined
import GoSem.ClaimMapViews
import Derived.JoinedTies
import Derived.KernelRfl
namespace Go.Proofs.Qxb6613141a
/- THE CELL 'sum', in the pinned program and in every row, IS THE sha256 OF THE DUMP (.gsa) THAT Qxb6613141aProg.lean LOADS. Nothing in Lean hashes anything: it is a label: what it is worth is what the hold of that sum in a sandbox is worth. -/
noncomputable def Try.pinned : Pinned := { name := "qxb6613141a", sum := "d14e09e57aefeb7a4b57725574a3ea553c487e2aecedab532b4ca3b17e5b800d", checked := Try.checked }
namespace Rows
def none {H : Type} : Left H := { results := [], args := [] }

/-- 'zzlaws_internal_store_b1.FnJournalNameUndoesSuffix': WHATEVER THE INPUT: true; the input reads as it did. -/
def fnJournalNameUndoesSuffixSpec : ChangeSpec := { name := "fnJournalNameUndoesSuffix", fn := fun _ => fun
  | [d] => { results := [.lit (.bool true)], args := [d] }
  | _ => none }
def fnJournalNameUndoesSuffixRow : OpenClaim := { program := "qxb6613141a", sum := "d14e09e57aefeb7a4b57725574a3ea553c487e2aecedab532b4ca3b17e5b800d", func := "example.com/evidra/evidra/zzlaws_internal_store_b1.FnJournalNameUndoesSuffix", spec := "fnJournalNameUndoesSuffix", apart := false }
def FnJournalNameUndoesSuffixSaid : Prop := fnJournalNameUndoesSuffixRow.holds Try.pinned (OpenSpec.ofChange fnJournalNameUndoesSuffixSpec)

/-- ITS FALSE NEIGHBOUR: 'it returns false'. Refute it at one input. -/
def fnJournalNameUndoesSuffixWrong : ChangeSpec := { name := "fnJournalNameUndoesSuffix", fn := fun _ => fun
  | [d] => { results := [.lit (.bool false)], args := [d] }
  | _ => none }
def FnJournalNameUndoesSuffixWrongFalsely : Prop := fnJournalNameUndoesSuffixRow.holds Try.pinned (OpenSpec.ofChange fnJournalNameUndoesSuffixWrong)

/-- 'zzlaws_internal_store_b1.FnJournalNameLocalToLastSix': WHATEVER THE INPUT: true; the input reads as it did. -/
def fnJournalNameLocalToLastSixSpec : ChangeSpec := { name := "fnJournalNameLocalToLastSix", fn := fun _ => fun
  | [d1, d2] => { results := [.lit (.bool true)], args := [d1, d2] }
  | _ => none }
def fnJournalNameLocalToLastSixRow : OpenClaim := { program := "qxb6613141a", sum := "d14e09e57aefeb7a4b57725574a3ea553c487e2aecedab532b4ca3b17e5b800d", func := "example.com/evidra/evidra/zzlaws_internal_store_b1.FnJournalNameLocalToLastSix", spec := "fnJournalNameLocalToLastSix", apart := false }
def FnJournalNameLocalToLastSixSaid : Prop := fnJournalNameLocalToLastSixRow.holds Try.pinned (OpenSpec.ofChange fnJournalNameLocalToLastSixSpec)

/-- ITS FALSE NEIGHBOUR: 'it returns false'. Refute it at one input. -/
def fnJournalNameLocalToLastSixWrong : ChangeSpec := { name := "fnJournalNameLocalToLastSix", fn := fun _ => fun
  | [d1, d2] => { results := [.lit (.bool false)], args := [d1, d2] }
  | _ => none }
def FnJournalNameLocalToLastSixWrongFalsely : Prop := fnJournalNameLocalToLastSixRow.holds Try.pinned (OpenSpec.ofChange fnJournalNameLocalToLastSixWrong)

/-- 'zzlaws_internal_store_b1.FnJournalIndexNameLocalToLastSix': WHATEVER THE INPUT: true; the input reads as it did. -/
def fnJournalIndexNameLocalToLastSixSpec : ChangeSpec := { name := "fnJournalIndexNameLocalToLastSix", fn := fun _ => fun
  | [d1, d2] => { results := [.lit (.bool true)], args := [d1, d2] }
  | _ => none }
def fnJournalIndexNameLocalToLastSixRow : OpenClaim := { program := "qxb6613141a", sum := "d14e09e57aefeb7a4b57725574a3ea553c487e2aecedab532b4ca3b17e5b800d", func := "example.com/evidra/evidra/zzlaws_internal_store_b1.FnJournalIndexNameLocalToLastSix", spec := "fnJournalIndexNameLocalToLastSix", apart := false }
def FnJournalIndexNameLocalToLastSixSaid : Prop := fnJournalIndexNameLocalToLastSixRow.holds Try.pinned (OpenSpec.ofChange fnJournalIndexNameLocalToLastSixSpec)

/-- ITS FALSE NEIGHBOUR: 'it returns false'. Refute it at one input. -/
def fnJournalIndexNameLocalToLastSixWrong : ChangeSpec := { name := "fnJournalIndexNameLocalToLastSix", fn := fun _ => fun
  | [d1, d2] => { results := [.lit (.bool false)], args := [d1, d2] }
  | _ => none }
def FnJournalIndexNameLocalToLastSixWrongFalsely : Prop := fnJournalIndexNameLocalToLastSixRow.holds Try.pinned (OpenSpec.ofChange fnJournalIndexNameLocalToLastSixWrong)

/-- 'zzlaws_internal_store_b1.FnJournalIndexNameCollidesExactlyForNameTwins': WHATEVER THE INPUT: true; the input reads as it did. -/
def fnJournalIndexNameCollidesExactlyForNameTwinsSpec : ChangeSpec := { name := "fnJournalIndexNameCollidesExactlyForNameTwins", fn := fun _ => fun
  | [d1, d2] => { results := [.lit (.bool true)], args := [d1, d2] }
  | _ => none }
def fnJournalIndexNameCollidesExactlyForNameTwinsRow : OpenClaim := { program := "qxb6613141a", sum := "d14e09e57aefeb7a4b57725574a3ea553c487e2aecedab532b4ca3b17e5b800d", func := "example.com/evidra/evidra/zzlaws_internal_store_b1.FnJournalIndexNameCollidesExactlyForNameTwins", spec := "fnJournalIndexNameCollidesExactlyForNameTwins", apart := false }
def FnJournalIndexNameCollidesExactlyForNameTwinsSaid : Prop := fnJournalIndexNameCollidesExactlyForNameTwinsRow.holds Try.pinned (OpenSpec.ofChange fnJournalIndexNameCollidesExactlyForNameTwinsSpec)

/-- ITS FALSE NEIGHBOUR: 'it returns false'. Refute it at one input. -/
def fnJournalIndexNameCollidesExactlyForNameTwinsWrong : ChangeSpec := { name := "fnJournalIndexNameCollidesExactlyForNameTwins", fn := fun _ => fun
  | [d1, d2] => { results := [.lit (.bool false)], args := [d1, d2] }
  | _ => none }
def FnJournalIndexNameCollidesExactlyForNameTwinsWrongFalsely : Prop := fnJournalIndexNameCollidesExactlyForNameTwinsRow.holds Try.pinned (OpenSpec.ofChange fnJournalIndexNameCollidesExactlyForNameTwinsWrong)

end Rows
end Go.Proofs.Qxb6613141a
