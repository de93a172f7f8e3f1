/-
  No cell of these rows narrows 'for every input' (looked for: loops, veiled, ifaces, maps, wideKeys, modest, calm, conditions, laid).
  DERIVED. THE GIVEN ROWS OF THIS SEAT. 2 by the template 'for every input the law returns true; each argument reads behind the call as it read before'; 0 by the template 'total and deterministic' (their statements: Qxb6627743aTotals.lean).
  GIVEN WITH THE SEED: the statements are not yours to turn. If you find one false, say at which input.
  Laid BY PROGRAM, IN A SANDBOX (cutbox-rows.mjs): the forced cells as the released guide's own fill.sh prints them over the translation 047de2dc59d08ea3… (all of the seat's roots in one cut). By AI agents, Wed Nov 11 2026. No macro, syntax, notation, axiom, sorry.
-/
import Derived.Test.Qxb6627743aChecked
import GoSem.Claim
import GoSem.ClaimJoined
import GoSem.ClaimMapViews
import Derived.JoinedTies
import Derived.KernelRfl
namespace Go.Proofs.Qxb6627743a
/- THE CELL 'sum', in the pinned program and in every row, IS THE sha256 OF THE DUMP (.gsa) THAT Qxb6627743aProg.lean LOADS. Nothing in Lean hashes anything: it is a label: what it is worth is what the hold of that sum in a sandbox is worth. -/
noncomputable def Try.pinned : Pinned := { name := "qxb6627743a", sum := "047de2dc59d08ea3ad919cbaafdcc61ec5c34bef4c3d9cfffde65b5fd4ddff33", checked := Try.checked }
namespace Rows
def none {H : Type} : Left H := { results := [], args := [] }

/-- 'zzlaws_root_b1.FnNextChunkMatchesPositionalModel': WHATEVER THE INPUT: true; the input reads as it did. -/
def fnNextChunkMatchesPositionalModelSpec : ChangeSpec := { name := "fnNextChunkMatchesPositionalModel", fn := fun _ => fun
  | [d1, d2] => { results := [.lit (.bool true)], args := [d1, d2] }
  | _ => none }
def fnNextChunkMatchesPositionalModelRow : OpenClaim := { program := "qxb6627743a", sum := "047de2dc59d08ea3ad919cbaafdcc61ec5c34bef4c3d9cfffde65b5fd4ddff33", func := "example.com/bindery/bindery/zzlaws_root_b1.FnNextChunkMatchesPositionalModel", spec := "fnNextChunkMatchesPositionalModel", apart := false }
def FnNextChunkMatchesPositionalModelSaid : Prop := fnNextChunkMatchesPositionalModelRow.holds Try.pinned (OpenSpec.ofChange fnNextChunkMatchesPositionalModelSpec)

/-- ITS FALSE NEIGHBOUR: 'it returns false'. Refute it at one input. -/
def fnNextChunkMatchesPositionalModelWrong : ChangeSpec := { name := "fnNextChunkMatchesPositionalModel", fn := fun _ => fun
  | [d1, d2] => { results := [.lit (.bool false)], args := [d1, d2] }
  | _ => none }
def FnNextChunkMatchesPositionalModelWrongFalsely : Prop := fnNextChunkMatchesPositionalModelRow.holds Try.pinned (OpenSpec.ofChange fnNextChunkMatchesPositionalModelWrong)

/-- 'zzlaws_root_b1.FnNextChunkReassemblesWhole': WHATEVER THE INPUT: true; the input reads as it did. -/
def fnNextChunkReassemblesWholeSpec : ChangeSpec := { name := "fnNextChunkReassemblesWhole", fn := fun _ => fun
  | [d1, d2] => { results := [.lit (.bool true)], args := [d1, d2] }
  | _ => none }
def fnNextChunkReassemblesWholeRow : OpenClaim := { program := "qxb6627743a", sum := "047de2dc59d08ea3ad919cbaafdcc61ec5c34bef4c3d9cfffde65b5fd4ddff33", func := "example.com/bindery/bindery/zzlaws_root_b1.FnNextChunkReassemblesWhole", spec := "fnNextChunkReassemblesWhole", apart := false }
def FnNextChunkReassemblesWholeSaid : Prop := fnNextChunkReassemblesWholeRow.holds Try.pinned (OpenSpec.ofChange fnNextChunkReassemblesWholeSpec)

/-- ITS FALSE NEIGHBOUR: 'it returns false'. Refute it at one input. -/
def fnNextChunkReassemblesWholeWrong : ChangeSpec := { name := "fnNextChunkReassemblesWhole", fn := fun _ => fun
  | [d1, d2] => { results := [.lit (.bool false)], args := [d1, d2] }
  | _ => none }
def FnNextChunkReassemblesWholeWrongFalsely : Prop := fnNextChunkReassemblesWholeRow.holds Try.pinned (OpenSpec.ofChange fnNextChunkReassemblesWholeWrong)

end Rows
end Go.Proofs.Qxb6627743a
