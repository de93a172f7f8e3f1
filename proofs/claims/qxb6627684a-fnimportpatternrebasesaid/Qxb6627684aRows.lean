/-
  No cell of these rows narrows 'for every input' (looked for: loops, veiled, ifaces, maps, wideKeys, modest, calm, conditions, laid).
  DERIVED. THE GIVEN ROWS OF THIS SEAT. 1 by the template 'for every input the law returns true; each argument reads behind the call as it read before'; 0 by the template 'total and deterministic' (their statements: Qxb6627684aTotals.lean).
  GIVEN WITH THE SEED: the statements are not yours to turn. If you find one false, say at which input.
  Laid BY PROGRAM, IN A SANDBOX (cutbox-rows.mjs): the forced cells as the released guide's own fill.sh prints them over the translation f334572a9ce853d9… (all of the seat's roots in one cut). By AI agents, Wed Nov 11 2026. No macro, syntax, notation, axiom, sorry.
-/
import Derived.Test.Qxb6627684aChecked
import GoSem.Claim
import GoSem.ClaimJoined
import GoSem.ClaimMapViews
import Derived.JoinedTies
import Derived.KernelRfl
namespace Go.Proofs.Qxb6627684a
/- THE CELL 'sum', in the pinned program and in every row, IS THE sha256 OF THE DUMP (.gsa) THAT Qxb6627684aProg.lean LOADS. Nothing in Lean hashes anything: it is a label: what it is worth is what the hold of that sum in a sandbox is worth. -/
noncomputable def Try.pinned : Pinned := { name := "qxb6627684a", sum := "f334572a9ce853d919cdbe37c6928e0b08d52e05cd5625d630169ac9909ad31f", checked := Try.checked }
namespace Rows
def none {H : Type} : Left H := { results := [], args := [] }

/-- 'zzlaws_internal_pattern_b1.FnImportPatternRebase': WHATEVER THE INPUT: true; the input reads as it did. -/
def fnImportPatternRebaseSpec : ChangeSpec := { name := "fnImportPatternRebase", fn := fun _ => fun
  | [d1, d2, d3, d4] => { results := [.lit (.bool true)], args := [d1, d2, d3, d4] }
  | _ => none }
def fnImportPatternRebaseRow : OpenClaim := { program := "qxb6627684a", sum := "f334572a9ce853d919cdbe37c6928e0b08d52e05cd5625d630169ac9909ad31f", func := "example.com/loadstone/loadstone/zzlaws_internal_pattern_b1.FnImportPatternRebase", spec := "fnImportPatternRebase", apart := false }
def FnImportPatternRebaseSaid : Prop := fnImportPatternRebaseRow.holds Try.pinned (OpenSpec.ofChange fnImportPatternRebaseSpec)

/-- ITS FALSE NEIGHBOUR: 'it returns false'. Refute it at one input. -/
def fnImportPatternRebaseWrong : ChangeSpec := { name := "fnImportPatternRebase", fn := fun _ => fun
  | [d1, d2, d3, d4] => { results := [.lit (.bool false)], args := [d1, d2, d3, d4] }
  | _ => none }
def FnImportPatternRebaseWrongFalsely : Prop := fnImportPatternRebaseRow.holds Try.pinned (OpenSpec.ofChange fnImportPatternRebaseWrong)

end Rows
end Go.Proofs.Qxb6627684a
