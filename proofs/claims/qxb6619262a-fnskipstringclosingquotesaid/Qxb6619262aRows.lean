/-
  No cell of these rows narrows 'for every input' (looked for: loops, veiled, ifaces, maps, wideKeys, modest, calm, conditions, laid).
  DERIVED. THE GIVEN ROWS OF THIS SEAT. 6 by the template 'for every input the law returns true; each argument reads behind the call as it read before'; 0 by the template 'total and deterministic' (their statements: Qxb6619262aTotals.lean).
  GIVEN WITH THE SEED: the statements are not yours to turn. If you find one false, say at which input.
  Laid BY PROGRAM, IN A SANDBOX (cutbox-rows.mjs): the forced cells as the released guide's own fill.sh prints them over the translation 9717b9a97348cb2b… (all of the seat's roots in one cut). By AI agents, Wed Nov 11 2026. No macro, syntax, notation, axiom, sorry.
-/
import Derived.Test.Qxb6619262aChecked
import GoSem.Claim
import GoSem.ClaimJoined
import GoSem.ClaimMapViews
import Derived.JoinedTies
import Derived.KernelRfl
namespace Go.Proofs.Qxb6619262a
/- THE CELL 'sum', in the pinned program and in every row, IS THE sha256 OF THE DUMP (.gsa) THAT Qxb6619262aProg.lean LOADS. Nothing in Lean hashes anything: it is a label: what it is worth is what the hold of that sum in a sandbox is worth. -/
noncomputable def Try.pinned : Pinned := { name := "qxb6619262a", sum := "9717b9a97348cb2b88ab41eb53b32c89bf12c6e22e081d867801cfd755fff8f7", checked := Try.checked }
namespace Rows
def none {H : Type} : Left H := { results := [], args := [] }

/-- 'zzlaws_jsonobject_b1.FnSkipNumberShiftAndCut': WHATEVER THE INPUT: true; the input reads as it did. -/
def fnSkipNumberShiftAndCutSpec : ChangeSpec := { name := "fnSkipNumberShiftAndCut", fn := fun _ => fun
  | [d1, d2] => { results := [.lit (.bool true)], args := [d1, d2] }
  | _ => none }
def fnSkipNumberShiftAndCutRow : OpenClaim := { program := "qxb6619262a", sum := "9717b9a97348cb2b88ab41eb53b32c89bf12c6e22e081d867801cfd755fff8f7", func := "example.com/allotmeter/allotmeter/zzlaws_jsonobject_b1.FnSkipNumberShiftAndCut", spec := "fnSkipNumberShiftAndCut", apart := false }
def FnSkipNumberShiftAndCutSaid : Prop := fnSkipNumberShiftAndCutRow.holds Try.pinned (OpenSpec.ofChange fnSkipNumberShiftAndCutSpec)

/-- ITS FALSE NEIGHBOUR: 'it returns false'. Refute it at one input. -/
def fnSkipNumberShiftAndCutWrong : ChangeSpec := { name := "fnSkipNumberShiftAndCut", fn := fun _ => fun
  | [d1, d2] => { results := [.lit (.bool false)], args := [d1, d2] }
  | _ => none }
def FnSkipNumberShiftAndCutWrongFalsely : Prop := fnSkipNumberShiftAndCutRow.holds Try.pinned (OpenSpec.ofChange fnSkipNumberShiftAndCutWrong)

/-- 'zzlaws_jsonobject_b1.FnSkipNumberLongerIntegerPart': WHATEVER THE INPUT: true; the input reads as it did. -/
def fnSkipNumberLongerIntegerPartSpec : ChangeSpec := { name := "fnSkipNumberLongerIntegerPart", fn := fun _ => fun
  | [d1, d2, d3] => { results := [.lit (.bool true)], args := [d1, d2, d3] }
  | _ => none }
def fnSkipNumberLongerIntegerPartRow : OpenClaim := { program := "qxb6619262a", sum := "9717b9a97348cb2b88ab41eb53b32c89bf12c6e22e081d867801cfd755fff8f7", func := "example.com/allotmeter/allotmeter/zzlaws_jsonobject_b1.FnSkipNumberLongerIntegerPart", spec := "fnSkipNumberLongerIntegerPart", apart := false }
def FnSkipNumberLongerIntegerPartSaid : Prop := fnSkipNumberLongerIntegerPartRow.holds Try.pinned (OpenSpec.ofChange fnSkipNumberLongerIntegerPartSpec)

/-- ITS FALSE NEIGHBOUR: 'it returns false'. Refute it at one input. -/
def fnSkipNumberLongerIntegerPartWrong : ChangeSpec := { name := "fnSkipNumberLongerIntegerPart", fn := fun _ => fun
  | [d1, d2, d3] => { results := [.lit (.bool false)], args := [d1, d2, d3] }
  | _ => none }
def FnSkipNumberLongerIntegerPartWrongFalsely : Prop := fnSkipNumberLongerIntegerPartRow.holds Try.pinned (OpenSpec.ofChange fnSkipNumberLongerIntegerPartWrong)

/-- 'zzlaws_jsonobject_b1.FnSkipStringClosingQuote': WHATEVER THE INPUT: true; the input reads as it did. -/
def fnSkipStringClosingQuoteSpec : ChangeSpec := { name := "fnSkipStringClosingQuote", fn := fun _ => fun
  | [d1, d2] => { results := [.lit (.bool true)], args := [d1, d2] }
  | _ => none }
def fnSkipStringClosingQuoteRow : OpenClaim := { program := "qxb6619262a", sum := "9717b9a97348cb2b88ab41eb53b32c89bf12c6e22e081d867801cfd755fff8f7", func := "example.com/allotmeter/allotmeter/zzlaws_jsonobject_b1.FnSkipStringClosingQuote", spec := "fnSkipStringClosingQuote", apart := false }
def FnSkipStringClosingQuoteSaid : Prop := fnSkipStringClosingQuoteRow.holds Try.pinned (OpenSpec.ofChange fnSkipStringClosingQuoteSpec)

/-- ITS FALSE NEIGHBOUR: 'it returns false'. Refute it at one input. -/
def fnSkipStringClosingQuoteWrong : ChangeSpec := { name := "fnSkipStringClosingQuote", fn := fun _ => fun
  | [d1, d2] => { results := [.lit (.bool false)], args := [d1, d2] }
  | _ => none }
def FnSkipStringClosingQuoteWrongFalsely : Prop := fnSkipStringClosingQuoteRow.holds Try.pinned (OpenSpec.ofChange fnSkipStringClosingQuoteWrong)

/-- 'zzlaws_jsonobject_b1.FnSkipStringUnitAfterQuote': WHATEVER THE INPUT: true; the input reads as it did. -/
def fnSkipStringUnitAfterQuoteSpec : ChangeSpec := { name := "fnSkipStringUnitAfterQuote", fn := fun _ => fun
  | [d1, d2, d3] => { results := [.lit (.bool true)], args := [d1, d2, d3] }
  | _ => none }
def fnSkipStringUnitAfterQuoteRow : OpenClaim := { program := "qxb6619262a", sum := "9717b9a97348cb2b88ab41eb53b32c89bf12c6e22e081d867801cfd755fff8f7", func := "example.com/allotmeter/allotmeter/zzlaws_jsonobject_b1.FnSkipStringUnitAfterQuote", spec := "fnSkipStringUnitAfterQuote", apart := false }
def FnSkipStringUnitAfterQuoteSaid : Prop := fnSkipStringUnitAfterQuoteRow.holds Try.pinned (OpenSpec.ofChange fnSkipStringUnitAfterQuoteSpec)

/-- ITS FALSE NEIGHBOUR: 'it returns false'. Refute it at one input. -/
def fnSkipStringUnitAfterQuoteWrong : ChangeSpec := { name := "fnSkipStringUnitAfterQuote", fn := fun _ => fun
  | [d1, d2, d3] => { results := [.lit (.bool false)], args := [d1, d2, d3] }
  | _ => none }
def FnSkipStringUnitAfterQuoteWrongFalsely : Prop := fnSkipStringUnitAfterQuoteRow.holds Try.pinned (OpenSpec.ofChange fnSkipStringUnitAfterQuoteWrong)

/-- 'zzlaws_jsonobject_b1.FnSkipStringShiftAndCut': WHATEVER THE INPUT: true; the input reads as it did. -/
def fnSkipStringShiftAndCutSpec : ChangeSpec := { name := "fnSkipStringShiftAndCut", fn := fun _ => fun
  | [d1, d2] => { results := [.lit (.bool true)], args := [d1, d2] }
  | _ => none }
def fnSkipStringShiftAndCutRow : OpenClaim := { program := "qxb6619262a", sum := "9717b9a97348cb2b88ab41eb53b32c89bf12c6e22e081d867801cfd755fff8f7", func := "example.com/allotmeter/allotmeter/zzlaws_jsonobject_b1.FnSkipStringShiftAndCut", spec := "fnSkipStringShiftAndCut", apart := false }
def FnSkipStringShiftAndCutSaid : Prop := fnSkipStringShiftAndCutRow.holds Try.pinned (OpenSpec.ofChange fnSkipStringShiftAndCutSpec)

/-- ITS FALSE NEIGHBOUR: 'it returns false'. Refute it at one input. -/
def fnSkipStringShiftAndCutWrong : ChangeSpec := { name := "fnSkipStringShiftAndCut", fn := fun _ => fun
  | [d1, d2] => { results := [.lit (.bool false)], args := [d1, d2] }
  | _ => none }
def FnSkipStringShiftAndCutWrongFalsely : Prop := fnSkipStringShiftAndCutRow.holds Try.pinned (OpenSpec.ofChange fnSkipStringShiftAndCutWrong)

/-- 'zzlaws_jsonobject_b1.FnSkipSpacePaddingAndFirstNonSpace': WHATEVER THE INPUT: true; the input reads as it did. -/
def fnSkipSpacePaddingAndFirstNonSpaceSpec : ChangeSpec := { name := "fnSkipSpacePaddingAndFirstNonSpace", fn := fun _ => fun
  | [d1, d2, d3] => { results := [.lit (.bool true)], args := [d1, d2, d3] }
  | _ => none }
def fnSkipSpacePaddingAndFirstNonSpaceRow : OpenClaim := { program := "qxb6619262a", sum := "9717b9a97348cb2b88ab41eb53b32c89bf12c6e22e081d867801cfd755fff8f7", func := "example.com/allotmeter/allotmeter/zzlaws_jsonobject_b1.FnSkipSpacePaddingAndFirstNonSpace", spec := "fnSkipSpacePaddingAndFirstNonSpace", apart := false }
def FnSkipSpacePaddingAndFirstNonSpaceSaid : Prop := fnSkipSpacePaddingAndFirstNonSpaceRow.holds Try.pinned (OpenSpec.ofChange fnSkipSpacePaddingAndFirstNonSpaceSpec)

/-- ITS FALSE NEIGHBOUR: 'it returns false'. Refute it at one input. -/
def fnSkipSpacePaddingAndFirstNonSpaceWrong : ChangeSpec := { name := "fnSkipSpacePaddingAndFirstNonSpace", fn := fun _ => fun
  | [d1, d2, d3] => { results := [.lit (.bool false)], args := [d1, d2, d3] }
  | _ => none }
def FnSkipSpacePaddingAndFirstNonSpaceWrongFalsely : Prop := fnSkipSpacePaddingAndFirstNonSpaceRow.holds Try.pinned (OpenSpec.ofChange fnSkipSpacePaddingAndFirstNonSpaceWrong)

end Rows
end Go.Proofs.Qxb6619262a
