/-
  No cell of these rows narrows 'for every input' (looked for: loops, veiled, ifaces, maps, wideKeys, modest, calm, conditions, laid).
  DERIVED. THE GIVEN ROWS OF THIS SEAT. 2 by the template 'for every input the law returns true; each argument reads behind the call as it read before'; 0 by the template 'total and deterministic' (their statements: Qxb6627815aTotals.lean).
  GIVEN WITH THE SEED: the statements are not yours to turn. If you find one false, say at which input.
  Laid BY PROGRAM, IN A SANDBOX (cutbox-rows.mjs): the forced cells as the released guide's own fill.sh prints them over the translation c941776976ff2de1… (all of the seat's roots in one cut). By AI agents, Wed Nov 11 2026. No macro, syntax, notation, axiom, sorry.
-/
import Derived.Test.Qxb6627815aChecked
import GoSem.Claim
import GoSem.ClaimJoined
import GoSem.ClaimMapViews
import Derived.JoinedTies
import Derived.KernelRfl
namespace Go.Proofs.Qxb6627815a
/- THE CELL 'sum', in the pinned program and in every row, IS THE sha256 OF THE DUMP (.gsa) THAT Qxb6627815aProg.lean LOADS. Nothing in Lean hashes anything: it is a label: what it is worth is what the hold of that sum in a sandbox is worth. -/
noncomputable def Try.pinned : Pinned := { name := "qxb6627815a", sum := "c941776976ff2de1b0ec1b1c88abf5f70b384697b6dcc525300ea70e5742d771", checked := Try.checked }
namespace Rows
def none {H : Type} : Left H := { results := [], args := [] }

/-- 'zzlaws_pkg_model_b1.FnTruncateSplitsAtAnyCount': WHATEVER THE INPUT: true; the input reads as it did. -/
def fnTruncateSplitsAtAnyCountSpec : ChangeSpec := { name := "fnTruncateSplitsAtAnyCount", fn := fun _ => fun
  | [d1, d2, d3] => { results := [.lit (.bool true)], args := [d1, d2, d3] }
  | _ => none }
def fnTruncateSplitsAtAnyCountRow : OpenClaim := { program := "qxb6627815a", sum := "c941776976ff2de1b0ec1b1c88abf5f70b384697b6dcc525300ea70e5742d771", func := "example.com/threadmend/threadmend/zzlaws_pkg_model_b1.FnTruncateSplitsAtAnyCount", spec := "fnTruncateSplitsAtAnyCount", apart := false }
def FnTruncateSplitsAtAnyCountSaid : Prop := fnTruncateSplitsAtAnyCountRow.holds Try.pinned (OpenSpec.ofChange fnTruncateSplitsAtAnyCountSpec)

/-- ITS FALSE NEIGHBOUR: 'it returns false'. Refute it at one input. -/
def fnTruncateSplitsAtAnyCountWrong : ChangeSpec := { name := "fnTruncateSplitsAtAnyCount", fn := fun _ => fun
  | [d1, d2, d3] => { results := [.lit (.bool false)], args := [d1, d2, d3] }
  | _ => none }
def FnTruncateSplitsAtAnyCountWrongFalsely : Prop := fnTruncateSplitsAtAnyCountRow.holds Try.pinned (OpenSpec.ofChange fnTruncateSplitsAtAnyCountWrong)

/-- 'zzlaws_pkg_model_b1.FnTruncateKeepsItsOwnHead': WHATEVER THE INPUT: true; the input reads as it did. -/
def fnTruncateKeepsItsOwnHeadSpec : ChangeSpec := { name := "fnTruncateKeepsItsOwnHead", fn := fun _ => fun
  | [d1, d2] => { results := [.lit (.bool true)], args := [d1, d2] }
  | _ => none }
def fnTruncateKeepsItsOwnHeadRow : OpenClaim := { program := "qxb6627815a", sum := "c941776976ff2de1b0ec1b1c88abf5f70b384697b6dcc525300ea70e5742d771", func := "example.com/threadmend/threadmend/zzlaws_pkg_model_b1.FnTruncateKeepsItsOwnHead", spec := "fnTruncateKeepsItsOwnHead", apart := false }
def FnTruncateKeepsItsOwnHeadSaid : Prop := fnTruncateKeepsItsOwnHeadRow.holds Try.pinned (OpenSpec.ofChange fnTruncateKeepsItsOwnHeadSpec)

/-- ITS FALSE NEIGHBOUR: 'it returns false'. Refute it at one input. -/
def fnTruncateKeepsItsOwnHeadWrong : ChangeSpec := { name := "fnTruncateKeepsItsOwnHead", fn := fun _ => fun
  | [d1, d2] => { results := [.lit (.bool false)], args := [d1, d2] }
  | _ => none }
def FnTruncateKeepsItsOwnHeadWrongFalsely : Prop := fnTruncateKeepsItsOwnHeadRow.holds Try.pinned (OpenSpec.ofChange fnTruncateKeepsItsOwnHeadWrong)

end Rows
end Go.Proofs.Qxb6627815a
