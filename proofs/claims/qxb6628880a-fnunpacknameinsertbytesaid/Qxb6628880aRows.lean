/-
  No cell of these rows narrows 'for every input' (looked for: loops, veiled, ifaces, maps, wideKeys, modest, calm, conditions, laid).
  DERIVED. THE GIVEN ROWS OF THIS SEAT. 2 by the template 'for every input the law returns true; each argument reads behind the call as it read before'; 0 by the template 'total and deterministic' (their statements: Qxb6628880aTotals.lean).
  GIVEN WITH THE SEED: the statements are not yours to turn. If you find one false, say at which input.
  Laid BY PROGRAM, IN A SANDBOX (cutbox-rows.mjs): the forced cells as the released guide's own fill.sh prints them over the translation 6d3c0b0bb5e17b6d… (all of the seat's roots in one cut). By AI agents, Wed Nov 11 2026. No macro, syntax, notation, axiom, sorry.
-/
import Derived.Test.Qxb6628880aChecked
import GoSem.Claim
import GoSem.ClaimJoined
import GoSem.ClaimMapViews
import Derived.JoinedTies
import Derived.KernelRfl
namespace Go.Proofs.Qxb6628880a
/- THE CELL 'sum', in the pinned program and in every row, IS THE sha256 OF THE DUMP (.gsa) THAT Qxb6628880aProg.lean LOADS. Nothing in Lean hashes anything: it is a label: what it is worth is what the hold of that sum in a sandbox is worth. -/
noncomputable def Try.pinned : Pinned := { name := "qxb6628880a", sum := "6d3c0b0bb5e17b6d0a3c72e43f25d6eca4b8283600b924a82554160cf218dcae", checked := Try.checked }
namespace Rows
def none {H : Type} : Left H := { results := [], args := [] }

/-- 'zzlaws_internal_dnsmsg_b1.FnUnpackNameInsertByte': WHATEVER THE INPUT: true; the input reads as it did. -/
def fnUnpackNameInsertByteSpec : ChangeSpec := { name := "fnUnpackNameInsertByte", fn := fun _ => fun
  | [d1, d2, d3] => { results := [.lit (.bool true)], args := [d1, d2, d3] }
  | _ => none }
def fnUnpackNameInsertByteRow : OpenClaim := { program := "qxb6628880a", sum := "6d3c0b0bb5e17b6d0a3c72e43f25d6eca4b8283600b924a82554160cf218dcae", func := "example.com/wardenplane/wardenplane/zzlaws_internal_dnsmsg_b1.FnUnpackNameInsertByte", spec := "fnUnpackNameInsertByte", apart := false }
def FnUnpackNameInsertByteSaid : Prop := fnUnpackNameInsertByteRow.holds Try.pinned (OpenSpec.ofChange fnUnpackNameInsertByteSpec)

/-- ITS FALSE NEIGHBOUR: 'it returns false'. Refute it at one input. -/
def fnUnpackNameInsertByteWrong : ChangeSpec := { name := "fnUnpackNameInsertByte", fn := fun _ => fun
  | [d1, d2, d3] => { results := [.lit (.bool false)], args := [d1, d2, d3] }
  | _ => none }
def FnUnpackNameInsertByteWrongFalsely : Prop := fnUnpackNameInsertByteRow.holds Try.pinned (OpenSpec.ofChange fnUnpackNameInsertByteWrong)

/-- 'zzlaws_internal_dnsmsg_b1.FnUnpackNamePrintableLengthIdempotent': WHATEVER THE INPUT: true; the input reads as it did. -/
def fnUnpackNamePrintableLengthIdempotentSpec : ChangeSpec := { name := "fnUnpackNamePrintableLengthIdempotent", fn := fun _ => fun
  | [d] => { results := [.lit (.bool true)], args := [d] }
  | _ => none }
def fnUnpackNamePrintableLengthIdempotentRow : OpenClaim := { program := "qxb6628880a", sum := "6d3c0b0bb5e17b6d0a3c72e43f25d6eca4b8283600b924a82554160cf218dcae", func := "example.com/wardenplane/wardenplane/zzlaws_internal_dnsmsg_b1.FnUnpackNamePrintableLengthIdempotent", spec := "fnUnpackNamePrintableLengthIdempotent", apart := false }
def FnUnpackNamePrintableLengthIdempotentSaid : Prop := fnUnpackNamePrintableLengthIdempotentRow.holds Try.pinned (OpenSpec.ofChange fnUnpackNamePrintableLengthIdempotentSpec)

/-- ITS FALSE NEIGHBOUR: 'it returns false'. Refute it at one input. -/
def fnUnpackNamePrintableLengthIdempotentWrong : ChangeSpec := { name := "fnUnpackNamePrintableLengthIdempotent", fn := fun _ => fun
  | [d] => { results := [.lit (.bool false)], args := [d] }
  | _ => none }
def FnUnpackNamePrintableLengthIdempotentWrongFalsely : Prop := fnUnpackNamePrintableLengthIdempotentRow.holds Try.pinned (OpenSpec.ofChange fnUnpackNamePrintableLengthIdempotentWrong)

end Rows
end Go.Proofs.Qxb6628880a
