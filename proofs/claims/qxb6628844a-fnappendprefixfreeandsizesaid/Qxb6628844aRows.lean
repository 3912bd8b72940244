/-
  No cell of these rows narrows 'for every input' (looked for: loops, veiled, ifaces, maps, wideKeys, modest, calm, conditions, laid).
  DERIVED. THE GIVEN ROWS OF THIS SEAT. 2 by the template 'for every input the law returns true; each argument reads behind the call as it read before'; 0 by the template 'total and deterministic' (their statements: Qxb6628844aTotals.lean).
  GIVEN WITH THE SEED: the statements are not yours to turn. If you find one false, say at which input.
  Laid BY PROGRAM, IN A SANDBOX (cutbox-rows.mjs): the forced cells as the released guide's own fill.sh prints them over the translation f8fdfb2a5d7a3423… (all of the seat's roots in one cut). By AI agents, Wed Nov 11 2026. No macro, syntax, notation, axiom, sorry.
-/
import Derived.Test.Qxb6628844aChecked
import GoSem.Claim
import GoSem.ClaimJoined
import GoSem.ClaimMapViews
import Derived.JoinedTies
import Derived.KernelRfl
namespace Go.Proofs.Qxb6628844a
/- THE CELL 'sum', in the pinned program and in every row, IS THE sha256 OF THE DUMP (.gsa) THAT Qxb6628844aProg.lean LOADS. Nothing in Lean hashes anything: it is a label: what it is worth is what the hold of that sum in a sandbox is worth. -/
noncomputable def Try.pinned : Pinned := { name := "qxb6628844a", sum := "f8fdfb2a5d7a3423e4641df01f1d55365bb2ee20b4f3de9d4f24f358674756c0", checked := Try.checked }
namespace Rows
def none {H : Type} : Left H := { results := [], args := [] }

/-- 'zzlaws_wire_b1.FnAppendDecodesToRecord': WHATEVER THE INPUT: true; the input reads as it did. -/
def fnAppendDecodesToRecordSpec : ChangeSpec := { name := "fnAppendDecodesToRecord", fn := fun _ => fun
  | [d1, d2, d3] => { results := [.lit (.bool true)], args := [d1, d2, d3] }
  | _ => none }
def fnAppendDecodesToRecordRow : OpenClaim := { program := "qxb6628844a", sum := "f8fdfb2a5d7a3423e4641df01f1d55365bb2ee20b4f3de9d4f24f358674756c0", func := "example.com/tidemark/tidemark/zzlaws_wire_b1.FnAppendDecodesToRecord", spec := "fnAppendDecodesToRecord", apart := false }
def FnAppendDecodesToRecordSaid : Prop := fnAppendDecodesToRecordRow.holds Try.pinned (OpenSpec.ofChange fnAppendDecodesToRecordSpec)

/-- ITS FALSE NEIGHBOUR: 'it returns false'. Refute it at one input. -/
def fnAppendDecodesToRecordWrong : ChangeSpec := { name := "fnAppendDecodesToRecord", fn := fun _ => fun
  | [d1, d2, d3] => { results := [.lit (.bool false)], args := [d1, d2, d3] }
  | _ => none }
def FnAppendDecodesToRecordWrongFalsely : Prop := fnAppendDecodesToRecordRow.holds Try.pinned (OpenSpec.ofChange fnAppendDecodesToRecordWrong)

/-- 'zzlaws_wire_b1.FnAppendPrefixFreeAndSize': WHATEVER THE INPUT: true; the input reads as it did. -/
def fnAppendPrefixFreeAndSizeSpec : ChangeSpec := { name := "fnAppendPrefixFreeAndSize", fn := fun _ => fun
  | [d1, d2, d3] => { results := [.lit (.bool true)], args := [d1, d2, d3] }
  | _ => none }
def fnAppendPrefixFreeAndSizeRow : OpenClaim := { program := "qxb6628844a", sum := "f8fdfb2a5d7a3423e4641df01f1d55365bb2ee20b4f3de9d4f24f358674756c0", func := "example.com/tidemark/tidemark/zzlaws_wire_b1.FnAppendPrefixFreeAndSize", spec := "fnAppendPrefixFreeAndSize", apart := false }
def FnAppendPrefixFreeAndSizeSaid : Prop := fnAppendPrefixFreeAndSizeRow.holds Try.pinned (OpenSpec.ofChange fnAppendPrefixFreeAndSizeSpec)

/-- ITS FALSE NEIGHBOUR: 'it returns false'. Refute it at one input. -/
def fnAppendPrefixFreeAndSizeWrong : ChangeSpec := { name := "fnAppendPrefixFreeAndSize", fn := fun _ => fun
  | [d1, d2, d3] => { results := [.lit (.bool false)], args := [d1, d2, d3] }
  | _ => none }
def FnAppendPrefixFreeAndSizeWrongFalsely : Prop := fnAppendPrefixFreeAndSizeRow.holds Try.pinned (OpenSpec.ofChange fnAppendPrefixFreeAndSizeWrong)

end Rows
end Go.Proofs.Qxb6628844a
