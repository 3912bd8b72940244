/-
  No cell of these rows narrows 'for every input' (looked for: loops, veiled, ifaces, maps, wideKeys, modest, calm, conditions, laid).
  DERIVED. THE GIVEN ROWS OF THIS SEAT. 2 by the template 'for every input the law returns true; each argument reads behind the call as it read before'; 0 by the template 'total and deterministic' (their statements: Qxb6628919aTotals.lean).
  GIVEN WITH THE SEED: the statements are not yours to turn. If you find one false, say at which input.
  Laid BY PROGRAM, IN A SANDBOX (cutbox-rows.mjs): the forced cells as the released guide's own fill.sh prints them over the translation 88f1ca77c5e27791… (all of the seat's roots in one cut). By AI agents, Wed Nov 11 2026. No macro, syntax, notation, axiom, sorry.
-/
import Derived.Test.Qxb6628919aChecked
import GoSem.Claim
import GoSem.ClaimJoined
import GoSem.ClaimMapViews
import Derived.JoinedTies
import Derived.KernelRfl
namespace Go.Proofs.Qxb6628919a
/- THE CELL 'sum', in the pinned program and in every row, IS THE sha256 OF THE DUMP (.gsa) THAT Qxb6628919aProg.lean LOADS. Nothing in Lean hashes anything: it is a label: what it is worth is what the hold of that sum in a sandbox is worth. -/
noncomputable def Try.pinned : Pinned := { name := "qxb6628919a", sum := "88f1ca77c5e27791e963836aad8a80c720114f400dd1d66e00cc1cbaacff6a7f", checked := Try.checked }
namespace Rows
def none {H : Type} : Left H := { results := [], args := [] }

/-- 'zzlaws_root_b1.FnIsVerbJoinAtAnyCut': WHATEVER THE INPUT: true; the input reads as it did. -/
def fnIsVerbJoinAtAnyCutSpec : ChangeSpec := { name := "fnIsVerbJoinAtAnyCut", fn := fun _ => fun
  | [d1, d2] => { results := [.lit (.bool true)], args := [d1, d2] }
  | _ => none }
def fnIsVerbJoinAtAnyCutRow : OpenClaim := { program := "qxb6628919a", sum := "88f1ca77c5e27791e963836aad8a80c720114f400dd1d66e00cc1cbaacff6a7f", func := "example.com/gatewright/gatewright/zzlaws_root_b1.FnIsVerbJoinAtAnyCut", spec := "fnIsVerbJoinAtAnyCut", apart := false }
def FnIsVerbJoinAtAnyCutSaid : Prop := fnIsVerbJoinAtAnyCutRow.holds Try.pinned (OpenSpec.ofChange fnIsVerbJoinAtAnyCutSpec)

/-- ITS FALSE NEIGHBOUR: 'it returns false'. Refute it at one input. -/
def fnIsVerbJoinAtAnyCutWrong : ChangeSpec := { name := "fnIsVerbJoinAtAnyCut", fn := fun _ => fun
  | [d1, d2] => { results := [.lit (.bool false)], args := [d1, d2] }
  | _ => none }
def FnIsVerbJoinAtAnyCutWrongFalsely : Prop := fnIsVerbJoinAtAnyCutRow.holds Try.pinned (OpenSpec.ofChange fnIsVerbJoinAtAnyCutWrong)

/-- 'zzlaws_root_b1.FnIsVerbCaseBitFlip': WHATEVER THE INPUT: true; the input reads as it did. -/
def fnIsVerbCaseBitFlipSpec : ChangeSpec := { name := "fnIsVerbCaseBitFlip", fn := fun _ => fun
  | [d] => { results := [.lit (.bool true)], args := [d] }
  | _ => none }
def fnIsVerbCaseBitFlipRow : OpenClaim := { program := "qxb6628919a", sum := "88f1ca77c5e27791e963836aad8a80c720114f400dd1d66e00cc1cbaacff6a7f", func := "example.com/gatewright/gatewright/zzlaws_root_b1.FnIsVerbCaseBitFlip", spec := "fnIsVerbCaseBitFlip", apart := false }
def FnIsVerbCaseBitFlipSaid : Prop := fnIsVerbCaseBitFlipRow.holds Try.pinned (OpenSpec.ofChange fnIsVerbCaseBitFlipSpec)

/-- ITS FALSE NEIGHBOUR: 'it returns false'. Refute it at one input. -/
def fnIsVerbCaseBitFlipWrong : ChangeSpec := { name := "fnIsVerbCaseBitFlip", fn := fun _ => fun
  | [d] => { results := [.lit (.bool false)], args := [d] }
  | _ => none }
def FnIsVerbCaseBitFlipWrongFalsely : Prop := fnIsVerbCaseBitFlipRow.holds Try.pinned (OpenSpec.ofChange fnIsVerbCaseBitFlipWrong)

end Rows
end Go.Proofs.Qxb6628919a
