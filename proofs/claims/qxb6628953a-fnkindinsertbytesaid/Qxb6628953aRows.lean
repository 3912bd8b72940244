/-
  No cell of these rows narrows 'for every input' (looked for: loops, veiled, ifaces, maps, wideKeys, modest, calm, conditions, laid).
  DERIVED. THE GIVEN ROWS OF THIS SEAT. 2 by the template 'for every input the law returns true; each argument reads behind the call as it read before'; 0 by the template 'total and deterministic' (their statements: Qxb6628953aTotals.lean).
  GIVEN WITH THE SEED: the statements are not yours to turn. If you find one false, say at which input.
  Laid BY PROGRAM, IN A SANDBOX (cutbox-rows.mjs): the forced cells as the released guide's own fill.sh prints them over the translation 1b453572899ea8ff… (all of the seat's roots in one cut). By AI agents, Wed Nov 11 2026. No macro, syntax, notation, axiom, sorry.
-/
import Derived.Test.Qxb6628953aChecked
import GoSem.Claim
import GoSem.ClaimJoined
import GoSem.ClaimMapViews
import Derived.JoinedTies
import Derived.KernelRfl
namespace Go.Proofs.Qxb6628953a
/- THE CELL 'sum', in the pinned program and in every row, IS THE sha256 OF THE DUMP (.gsa) THAT Qxb6628953aProg.lean LOADS. Nothing in Lean hashes anything: it is a label: what it is worth is what the hold of that sum in a sandbox is worth. -/
noncomputable def Try.pinned : Pinned := { name := "qxb6628953a", sum := "1b453572899ea8fff4d3863e6096190e852e002f35ab73783df8a638644e9c71", checked := Try.checked }
namespace Rows
def none {H : Type} : Left H := { results := [], args := [] }

/-- 'zzlaws_internal_jsonread_b1.FnKindInsertByte': WHATEVER THE INPUT: true; the input reads as it did. -/
def fnKindInsertByteSpec : ChangeSpec := { name := "fnKindInsertByte", fn := fun _ => fun
  | [d1, d2, d3] => { results := [.lit (.bool true)], args := [d1, d2, d3] }
  | _ => none }
def fnKindInsertByteRow : OpenClaim := { program := "qxb6628953a", sum := "1b453572899ea8fff4d3863e6096190e852e002f35ab73783df8a638644e9c71", func := "example.com/foldline/foldline/zzlaws_internal_jsonread_b1.FnKindInsertByte", spec := "fnKindInsertByte", apart := false }
def FnKindInsertByteSaid : Prop := fnKindInsertByteRow.holds Try.pinned (OpenSpec.ofChange fnKindInsertByteSpec)

/-- ITS FALSE NEIGHBOUR: 'it returns false'. Refute it at one input. -/
def fnKindInsertByteWrong : ChangeSpec := { name := "fnKindInsertByte", fn := fun _ => fun
  | [d1, d2, d3] => { results := [.lit (.bool false)], args := [d1, d2, d3] }
  | _ => none }
def FnKindInsertByteWrongFalsely : Prop := fnKindInsertByteRow.holds Try.pinned (OpenSpec.ofChange fnKindInsertByteWrong)

/-- 'zzlaws_internal_jsonread_b1.FnKindSplitWalk': WHATEVER THE INPUT: true; the input reads as it did. -/
def fnKindSplitWalkSpec : ChangeSpec := { name := "fnKindSplitWalk", fn := fun _ => fun
  | [d1, d2] => { results := [.lit (.bool true)], args := [d1, d2] }
  | _ => none }
def fnKindSplitWalkRow : OpenClaim := { program := "qxb6628953a", sum := "1b453572899ea8fff4d3863e6096190e852e002f35ab73783df8a638644e9c71", func := "example.com/foldline/foldline/zzlaws_internal_jsonread_b1.FnKindSplitWalk", spec := "fnKindSplitWalk", apart := false }
def FnKindSplitWalkSaid : Prop := fnKindSplitWalkRow.holds Try.pinned (OpenSpec.ofChange fnKindSplitWalkSpec)

/-- ITS FALSE NEIGHBOUR: 'it returns false'. Refute it at one input. -/
def fnKindSplitWalkWrong : ChangeSpec := { name := "fnKindSplitWalk", fn := fun _ => fun
  | [d1, d2] => { results := [.lit (.bool false)], args := [d1, d2] }
  | _ => none }
def FnKindSplitWalkWrongFalsely : Prop := fnKindSplitWalkRow.holds Try.pinned (OpenSpec.ofChange fnKindSplitWalkWrong)

end Rows
end Go.Proofs.Qxb6628953a
