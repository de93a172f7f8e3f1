/-
  No cell of these rows narrows 'for every input' (looked for: loops, veiled, ifaces, maps, wideKeys, modest, calm, conditions, laid).
  DERIVED. THE GIVEN ROWS OF THIS SEAT. 2 by the template 'for every input the law returns true; each argument reads behind the call as it read before'; 0 by the template 'total and deterministic' (their statements: Qxb6627776aTotals.lean).
  GIVEN WITH THE SEED: the statements are not yours to turn. If you find one false, say at which input.
  Laid BY PROGRAM, IN A SANDBOX (cutbox-rows.mjs): the forced cells as the released guide's own fill.sh prints them over the translation 3e8a71289207d7d2… (all of the seat's roots in one cut). By AI agents, Wed Nov 11 2026. No macro, syntax, notation, axiom, sorry.
-/
import Derived.Test.Qxb6627776aChecked
import GoSem.Claim
import GoSem.ClaimJoined
import GoSem.ClaimMapViews
import Derived.JoinedTies
import Derived.KernelRfl
namespace Go.Proofs.Qxb6627776a
/- THE CELL 'sum', in the pinned program and in every row, IS THE sha256 OF THE DUMP (.gsa) THAT Qxb6627776aProg.lean LOADS. Nothing in Lean hashes anything: it is a label: what it is worth is what the hold of that sum in a sandbox is worth. -/
noncomputable def Try.pinned : Pinned := { name := "qxb6627776a", sum := "3e8a71289207d7d29812236b6f56db831e727d2ef6d25a00c7c8119683ecca4c", checked := Try.checked }
namespace Rows
def none {H : Type} : Left H := { results := [], args := [] }

/-- 'zzlaws_internal_input_b1.FnLenCountsMembersAndStopsPastSpace': WHATEVER THE INPUT: true; the input reads as it did. -/
def fnLenCountsMembersAndStopsPastSpaceSpec : ChangeSpec := { name := "fnLenCountsMembersAndStopsPastSpace", fn := fun _ => fun
  | [d1, d2] => { results := [.lit (.bool true)], args := [d1, d2] }
  | _ => none }
def fnLenCountsMembersAndStopsPastSpaceRow : OpenClaim := { program := "qxb6627776a", sum := "3e8a71289207d7d29812236b6f56db831e727d2ef6d25a00c7c8119683ecca4c", func := "example.com/tuoguan/tuoguan/zzlaws_internal_input_b1.FnLenCountsMembersAndStopsPastSpace", spec := "fnLenCountsMembersAndStopsPastSpace", recurses := true, apart := false }
def FnLenCountsMembersAndStopsPastSpaceSaid : Prop := fnLenCountsMembersAndStopsPastSpaceRow.holds Try.pinned (OpenSpec.ofChange fnLenCountsMembersAndStopsPastSpaceSpec)

/-- ITS FALSE NEIGHBOUR: 'it returns false'. Refute it at one input. -/
def fnLenCountsMembersAndStopsPastSpaceWrong : ChangeSpec := { name := "fnLenCountsMembersAndStopsPastSpace", fn := fun _ => fun
  | [d1, d2] => { results := [.lit (.bool false)], args := [d1, d2] }
  | _ => none }
def FnLenCountsMembersAndStopsPastSpaceWrongFalsely : Prop := fnLenCountsMembersAndStopsPastSpaceRow.holds Try.pinned (OpenSpec.ofChange fnLenCountsMembersAndStopsPastSpaceWrong)

/-- 'zzlaws_internal_input_b1.FnLenStableAndBlindToWhatSurrounds': WHATEVER THE INPUT: true; the input reads as it did. -/
def fnLenStableAndBlindToWhatSurroundsSpec : ChangeSpec := { name := "fnLenStableAndBlindToWhatSurrounds", fn := fun _ => fun
  | [d1, d2] => { results := [.lit (.bool true)], args := [d1, d2] }
  | _ => none }
def fnLenStableAndBlindToWhatSurroundsRow : OpenClaim := { program := "qxb6627776a", sum := "3e8a71289207d7d29812236b6f56db831e727d2ef6d25a00c7c8119683ecca4c", func := "example.com/tuoguan/tuoguan/zzlaws_internal_input_b1.FnLenStableAndBlindToWhatSurrounds", spec := "fnLenStableAndBlindToWhatSurrounds", recurses := true, apart := false }
def FnLenStableAndBlindToWhatSurroundsSaid : Prop := fnLenStableAndBlindToWhatSurroundsRow.holds Try.pinned (OpenSpec.ofChange fnLenStableAndBlindToWhatSurroundsSpec)

/-- ITS FALSE NEIGHBOUR: 'it returns false'. Refute it at one input. -/
def fnLenStableAndBlindToWhatSurroundsWrong : ChangeSpec := { name := "fnLenStableAndBlindToWhatSurrounds", fn := fun _ => fun
  | [d1, d2] => { results := [.lit (.bool false)], args := [d1, d2] }
  | _ => none }
def FnLenStableAndBlindToWhatSurroundsWrongFalsely : Prop := fnLenStableAndBlindToWhatSurroundsRow.holds Try.pinned (OpenSpec.ofChange fnLenStableAndBlindToWhatSurroundsWrong)

end Rows
end Go.Proofs.Qxb6627776a
