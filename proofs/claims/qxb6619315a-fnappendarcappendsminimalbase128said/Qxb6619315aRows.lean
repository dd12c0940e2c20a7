/-
  No cell of these rows narrows 'for every input' (looked for: loops, veiled, ifaces, maps, wideKeys, modest, calm, conditions, laid).
  DERIVED. THE GIVEN ROWS OF THIS SEAT. 3 by the template 'for every input the law returns true; each argument reads behind the call as it read before'; 0 by the template 'total and deterministic' (their statements: Qxb6619315aTotals.lean).
  GIVEN WITH THE SEED: the statements are not yours to turn. If you find one false, say at which input.
  Laid BY PROGRAM, IN A SANDBOX (cutbox-rows.mjs): the forced cells as the released guide's own fill.sh prints them over the translation 4d4f26ec2f62d555… (all of the seat's roots in one cut). By AI agents, Wed Nov 11 2026. No macro, syntax, notation, axiom, sorry.
-/
import Derived.Test.Qxb6619315aChecked
import GoSem.Claim
import GoSem.ClaimJoined
import GoSem.ClaimMapViews
import Derived.JoinedTies
import Derived.KernelRfl
namespace Go.Proofs.Qxb6619315a
/- THE CELL 'sum', in the pinned program and in every row, IS THE sha256 OF THE DUMP (.gsa) THAT Qxb6619315aProg.lean LOADS. Nothing in Lean hashes anything: it is a label: what it is worth is what the hold of that sum in a sandbox is worth. -/
noncomputable def Try.pinned : Pinned := { name := "qxb6619315a", sum := "4d4f26ec2f62d555cef1ad2b458a450f6eba5e684fe24352aa7076ab3f8d98a7", checked := Try.checked }
namespace Rows
def none {H : Type} : Left H := { results := [], args := [] }

/-- 'zzlaws_internal_der_b1.FnAppendArcAppendsMinimalBase128': WHATEVER THE INPUT: true; the input reads as it did. -/
def fnAppendArcAppendsMinimalBase128Spec : ChangeSpec := { name := "fnAppendArcAppendsMinimalBase128", fn := fun _ => fun
  | [d1, d2] => { results := [.lit (.bool true)], args := [d1, d2] }
  | _ => none }
def fnAppendArcAppendsMinimalBase128Row : OpenClaim := { program := "qxb6619315a", sum := "4d4f26ec2f62d555cef1ad2b458a450f6eba5e684fe24352aa7076ab3f8d98a7", func := "example.com/certwright/certwright/zzlaws_internal_der_b1.FnAppendArcAppendsMinimalBase128", spec := "fnAppendArcAppendsMinimalBase128", apart := false }
def FnAppendArcAppendsMinimalBase128Said : Prop := fnAppendArcAppendsMinimalBase128Row.holds Try.pinned (OpenSpec.ofChange fnAppendArcAppendsMinimalBase128Spec)

/-- ITS FALSE NEIGHBOUR: 'it returns false'. Refute it at one input. -/
def fnAppendArcAppendsMinimalBase128Wrong : ChangeSpec := { name := "fnAppendArcAppendsMinimalBase128", fn := fun _ => fun
  | [d1, d2] => { results := [.lit (.bool false)], args := [d1, d2] }
  | _ => none }
def FnAppendArcAppendsMinimalBase128WrongFalsely : Prop := fnAppendArcAppendsMinimalBase128Row.holds Try.pinned (OpenSpec.ofChange fnAppendArcAppendsMinimalBase128Wrong)

/-- 'zzlaws_internal_der_b1.FnAppendArcOrderMatchesShortlex': WHATEVER THE INPUT: true; the input reads as it did. -/
def fnAppendArcOrderMatchesShortlexSpec : ChangeSpec := { name := "fnAppendArcOrderMatchesShortlex", fn := fun _ => fun
  | [d1, d2, d3] => { results := [.lit (.bool true)], args := [d1, d2, d3] }
  | _ => none }
def fnAppendArcOrderMatchesShortlexRow : OpenClaim := { program := "qxb6619315a", sum := "4d4f26ec2f62d555cef1ad2b458a450f6eba5e684fe24352aa7076ab3f8d98a7", func := "example.com/certwright/certwright/zzlaws_internal_der_b1.FnAppendArcOrderMatchesShortlex", spec := "fnAppendArcOrderMatchesShortlex", apart := false }
def FnAppendArcOrderMatchesShortlexSaid : Prop := fnAppendArcOrderMatchesShortlexRow.holds Try.pinned (OpenSpec.ofChange fnAppendArcOrderMatchesShortlexSpec)

/-- ITS FALSE NEIGHBOUR: 'it returns false'. Refute it at one input. -/
def fnAppendArcOrderMatchesShortlexWrong : ChangeSpec := { name := "fnAppendArcOrderMatchesShortlex", fn := fun _ => fun
  | [d1, d2, d3] => { results := [.lit (.bool false)], args := [d1, d2, d3] }
  | _ => none }
def FnAppendArcOrderMatchesShortlexWrongFalsely : Prop := fnAppendArcOrderMatchesShortlexRow.holds Try.pinned (OpenSpec.ofChange fnAppendArcOrderMatchesShortlexWrong)

/-- 'zzlaws_internal_der_b1.FnPeekSeesFirstByteOfAppendedArc': WHATEVER THE INPUT: true; the input reads as it did. -/
def fnPeekSeesFirstByteOfAppendedArcSpec : ChangeSpec := { name := "fnPeekSeesFirstByteOfAppendedArc", fn := fun _ => fun
  | [d1, d2] => { results := [.lit (.bool true)], args := [d1, d2] }
  | _ => none }
def fnPeekSeesFirstByteOfAppendedArcRow : OpenClaim := { program := "qxb6619315a", sum := "4d4f26ec2f62d555cef1ad2b458a450f6eba5e684fe24352aa7076ab3f8d98a7", func := "example.com/certwright/certwright/zzlaws_internal_der_b1.FnPeekSeesFirstByteOfAppendedArc", spec := "fnPeekSeesFirstByteOfAppendedArc", apart := false }
def FnPeekSeesFirstByteOfAppendedArcSaid : Prop := fnPeekSeesFirstByteOfAppendedArcRow.holds Try.pinned (OpenSpec.ofChange fnPeekSeesFirstByteOfAppendedArcSpec)

/-- ITS FALSE NEIGHBOUR: 'it returns false'. Refute it at one input. -/
def fnPeekSeesFirstByteOfAppendedArcWrong : ChangeSpec := { name := "fnPeekSeesFirstByteOfAppendedArc", fn := fun _ => fun
  | [d1, d2] => { results := [.lit (.bool false)], args := [d1, d2] }
  | _ => none }
def FnPeekSeesFirstByteOfAppendedArcWrongFalsely : Prop := fnPeekSeesFirstByteOfAppendedArcRow.holds Try.pinned (OpenSpec.ofChange fnPeekSeesFirstByteOfAppendedArcWrong)

end Rows
end Go.Proofs.Qxb6619315a
