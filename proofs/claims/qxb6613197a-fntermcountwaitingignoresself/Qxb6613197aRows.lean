/-
  No cell of these rows narrows 'for every input' (looked for: loops, veiled, ifaces, maps, wideKeys, modest, calm, conditions, laid).
  DERIVED. THE GIVEN ROWS OF THIS SEAT. 2 by the template 'for every input the law returns true; each argument reads behind the call as it read before'; 0 by the template 'total and deterministic' (their statements: Qxb6613197aTotals.lean).
  GIVEN WITH THE SEED: the statements are not yours to turn. If you find one false, say at which input.
  Laid BY PROGRAM, IN A SANDBOX (cutbox-rows.mjs): the forced cells as the released guide's own fill.sh prints them over the translation a4ab6e3e96342b7b… (all of the seat's roots in one cut). By AI agents, Wed Nov 11 2026. No macro, syntax, notation, axiom, sorry.
-/
import Derived.Test.Qxb6613197aChecked
import GoSem.Claim
import GoSem.ClaimJoined
import GoSem.ClaimMapViews
import Derived.JoinedTies
import Derived.KernelRfl
namespace Go.Proofs.Qxb6613197a
/- THE CELL 'sum', in the pinned program and in every row, IS THE sha256 OF THE DUMP (.gsa) THAT Qxb6613197aProg.lean LOADS. Nothing in Lean hashes anything: it is a label: what it is worth is what the hold of that sum in a sandbox is worth. -/
noncomputable def Try.pinned : Pinned := { name := "qxb6613197a", sum := "a4ab6e3e96342b7b3b6630868557d5e306adb6a79d8ec6cd5c9c8b00d05a232b", checked := Try.checked }
namespace Rows
def none {H : Type} : Left H := { results := [], args := [] }

/-- 'zzlaws_core_b1.FnTermCountWaitingIgnoresSelf': WHATEVER THE INPUT: true; the input reads as it did. -/
def fnTermCountWaitingIgnoresSelfSpec : ChangeSpec := { name := "fnTermCountWaitingIgnoresSelf", fn := fun _ => fun
  | [d1, d2, d3] => { results := [.lit (.bool true)], args := [d1, d2, d3] }
  | _ => none }
def fnTermCountWaitingIgnoresSelfRow : OpenClaim := { program := "qxb6613197a", sum := "a4ab6e3e96342b7b3b6630868557d5e306adb6a79d8ec6cd5c9c8b00d05a232b", func := "example.com/conclave/conclave/zzlaws_core_b1.FnTermCountWaitingIgnoresSelf", spec := "fnTermCountWaitingIgnoresSelf", apart := false }
def FnTermCountWaitingIgnoresSelfSaid : Prop := fnTermCountWaitingIgnoresSelfRow.holds Try.pinned (OpenSpec.ofChange fnTermCountWaitingIgnoresSelfSpec)

/-- ITS FALSE NEIGHBOUR: 'it returns false'. Refute it at one input. -/
def fnTermCountWaitingIgnoresSelfWrong : ChangeSpec := { name := "fnTermCountWaitingIgnoresSelf", fn := fun _ => fun
  | [d1, d2, d3] => { results := [.lit (.bool false)], args := [d1, d2, d3] }
  | _ => none }
def FnTermCountWaitingIgnoresSelfWrongFalsely : Prop := fnTermCountWaitingIgnoresSelfRow.holds Try.pinned (OpenSpec.ofChange fnTermCountWaitingIgnoresSelfWrong)

/-- 'zzlaws_core_b1.FnTermCountMemberIgnoresJoining': WHATEVER THE INPUT: true; the input reads as it did. -/
def fnTermCountMemberIgnoresJoiningSpec : ChangeSpec := { name := "fnTermCountMemberIgnoresJoining", fn := fun _ => fun
  | [d1, d2, d3, d4, d5, d6, d7] => { results := [.lit (.bool true)], args := [d1, d2, d3, d4, d5, d6, d7] }
  | _ => none }
def fnTermCountMemberIgnoresJoiningRow : OpenClaim := { program := "qxb6613197a", sum := "a4ab6e3e96342b7b3b6630868557d5e306adb6a79d8ec6cd5c9c8b00d05a232b", func := "example.com/conclave/conclave/zzlaws_core_b1.FnTermCountMemberIgnoresJoining", spec := "fnTermCountMemberIgnoresJoining", apart := false }
def FnTermCountMemberIgnoresJoiningSaid : Prop := fnTermCountMemberIgnoresJoiningRow.holds Try.pinned (OpenSpec.ofChange fnTermCountMemberIgnoresJoiningSpec)

/-- ITS FALSE NEIGHBOUR: 'it returns false'. Refute it at one input. -/
def fnTermCountMemberIgnoresJoiningWrong : ChangeSpec := { name := "fnTermCountMemberIgnoresJoining", fn := fun _ => fun
  | [d1, d2, d3, d4, d5, d6, d7] => { results := [.lit (.bool false)], args := [d1, d2, d3, d4, d5, d6, d7] }
  | _ => none }
def FnTermCountMemberIgnoresJoiningWrongFalsely : Prop := fnTermCountMemberIgnoresJoiningRow.holds Try.pinned (OpenSpec.ofChange fnTermCountMemberIgnoresJoiningWrong)

end Rows
end Go.Proofs.Qxb6613197a
