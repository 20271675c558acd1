/-
  No cell of these rows narrows 'for every input' (looked for: loops, veiled, ifaces, maps, wideKeys, modest, calm, conditions, laid).
  DERIVED. THE GIVEN ROWS OF THIS SEAT. 6 by the template 'for every input the law returns true; each argument reads behind the call as it read before'; 0 by the template 'total and deterministic' (their statements: Qxb6603124aTotals.lean).
  GIVEN WITH THE SEED: the statements are not yours to turn. If you find one false, say at which input.
  Laid BY PROGRAM, IN A SANDBOX (cutbox-rows.mjs): the forced cells as the released guide's own fill.sh prints them over the translation ac68444e0de8805a… (all of the seat's roots in one cut). By AI agents, Wed Nov 11 2026. No macro, syntax, notation, axiom, sorry.
-/
import Derived.Test.Qxb6603124aChecked
import GoSem.Claim
import GoSem.ClaimJoined
import GoSem.ClaimMapViews
import Derived.JoinedTies
import Derived.KernelRfl
namespace Go.Proofs.Qxb6603124a
/- THE CELL 'sum', in the pinned program and in every row, IS THE sha256 OF THE DUMP (.gsa) THAT Qxb6603124aProg.lean LOADS. Nothing in Lean hashes anything: it is a label: what it is worth is what the hold of that sum in a sandbox is worth. -/
noncomputable def Try.pinned : Pinned := { name := "qxb6603124a", sum := "ac68444e0de8805ade8dad6b4000f6f5685cbfd36e605e2a66f07da01a24836c", checked := Try.checked }
namespace Rows
def none {H : Type} : Left H := { results := [], args := [] }

/-- 'zzlaws_root_b1.FnPercentEncodeIsCanonicalEncoding': WHATEVER THE INPUT: true; the input reads as it did. -/
def fnPercentEncodeIsCanonicalEncodingSpec : ChangeSpec := { name := "fnPercentEncodeIsCanonicalEncoding", fn := fun _ => fun
  | [d] => { results := [.lit (.bool true)], args := [d] }
  | _ => none }
def fnPercentEncodeIsCanonicalEncodingRow : OpenClaim := { program := "qxb6603124a", sum := "ac68444e0de8805ade8dad6b4000f6f5685cbfd36e605e2a66f07da01a24836c", func := "example.com/bindr/bindr/zzlaws_root_b1.FnPercentEncodeIsCanonicalEncoding", spec := "fnPercentEncodeIsCanonicalEncoding", apart := false }
def FnPercentEncodeIsCanonicalEncodingSaid : Prop := fnPercentEncodeIsCanonicalEncodingRow.holds Try.pinned (OpenSpec.ofChange fnPercentEncodeIsCanonicalEncodingSpec)

/-- ITS FALSE NEIGHBOUR: 'it returns false'. Refute it at one input. -/
def fnPercentEncodeIsCanonicalEncodingWrong : ChangeSpec := { name := "fnPercentEncodeIsCanonicalEncoding", fn := fun _ => fun
  | [d] => { results := [.lit (.bool false)], args := [d] }
  | _ => none }
def FnPercentEncodeIsCanonicalEncodingWrongFalsely : Prop := fnPercentEncodeIsCanonicalEncodingRow.holds Try.pinned (OpenSpec.ofChange fnPercentEncodeIsCanonicalEncodingWrong)

/-- 'zzlaws_root_b1.FnPercentEncodeOfConcatIsConcatOfEncodings': WHATEVER THE INPUT: true; the input reads as it did. -/
def fnPercentEncodeOfConcatIsConcatOfEncodingsSpec : ChangeSpec := { name := "fnPercentEncodeOfConcatIsConcatOfEncodings", fn := fun _ => fun
  | [d1, d2] => { results := [.lit (.bool true)], args := [d1, d2] }
  | _ => none }
def fnPercentEncodeOfConcatIsConcatOfEncodingsRow : OpenClaim := { program := "qxb6603124a", sum := "ac68444e0de8805ade8dad6b4000f6f5685cbfd36e605e2a66f07da01a24836c", func := "example.com/bindr/bindr/zzlaws_root_b1.FnPercentEncodeOfConcatIsConcatOfEncodings", spec := "fnPercentEncodeOfConcatIsConcatOfEncodings", apart := false }
def FnPercentEncodeOfConcatIsConcatOfEncodingsSaid : Prop := fnPercentEncodeOfConcatIsConcatOfEncodingsRow.holds Try.pinned (OpenSpec.ofChange fnPercentEncodeOfConcatIsConcatOfEncodingsSpec)

/-- ITS FALSE NEIGHBOUR: 'it returns false'. Refute it at one input. -/
def fnPercentEncodeOfConcatIsConcatOfEncodingsWrong : ChangeSpec := { name := "fnPercentEncodeOfConcatIsConcatOfEncodings", fn := fun _ => fun
  | [d1, d2] => { results := [.lit (.bool false)], args := [d1, d2] }
  | _ => none }
def FnPercentEncodeOfConcatIsConcatOfEncodingsWrongFalsely : Prop := fnPercentEncodeOfConcatIsConcatOfEncodingsRow.holds Try.pinned (OpenSpec.ofChange fnPercentEncodeOfConcatIsConcatOfEncodingsWrong)

/-- 'zzlaws_root_b1.FnAppendPercentEncodedSpec': WHATEVER THE INPUT: true; the input reads as it did. -/
def fnAppendPercentEncodedSpecSpec : ChangeSpec := { name := "fnAppendPercentEncodedSpec", fn := fun _ => fun
  | [d1, d2] => { results := [.lit (.bool true)], args := [d1, d2] }
  | _ => none }
def fnAppendPercentEncodedSpecRow : OpenClaim := { program := "qxb6603124a", sum := "ac68444e0de8805ade8dad6b4000f6f5685cbfd36e605e2a66f07da01a24836c", func := "example.com/bindr/bindr/zzlaws_root_b1.FnAppendPercentEncodedSpec", spec := "fnAppendPercentEncodedSpec", apart := false }
def FnAppendPercentEncodedSpecSaid : Prop := fnAppendPercentEncodedSpecRow.holds Try.pinned (OpenSpec.ofChange fnAppendPercentEncodedSpecSpec)

/-- ITS FALSE NEIGHBOUR: 'it returns false'. Refute it at one input. -/
def fnAppendPercentEncodedSpecWrong : ChangeSpec := { name := "fnAppendPercentEncodedSpec", fn := fun _ => fun
  | [d1, d2] => { results := [.lit (.bool false)], args := [d1, d2] }
  | _ => none }
def FnAppendPercentEncodedSpecWrongFalsely : Prop := fnAppendPercentEncodedSpecRow.holds Try.pinned (OpenSpec.ofChange fnAppendPercentEncodedSpecWrong)

/-- 'zzlaws_root_b1.FnAppendPercentEncodedTwiceAgreesWithPercentEncode': WHATEVER THE INPUT: true; the input reads as it did. -/
def fnAppendPercentEncodedTwiceAgreesWithPercentEncodeSpec : ChangeSpec := { name := "fnAppendPercentEncodedTwiceAgreesWithPercentEncode", fn := fun _ => fun
  | [d1, d2, d3] => { results := [.lit (.bool true)], args := [d1, d2, d3] }
  | _ => none }
def fnAppendPercentEncodedTwiceAgreesWithPercentEncodeRow : OpenClaim := { program := "qxb6603124a", sum := "ac68444e0de8805ade8dad6b4000f6f5685cbfd36e605e2a66f07da01a24836c", func := "example.com/bindr/bindr/zzlaws_root_b1.FnAppendPercentEncodedTwiceAgreesWithPercentEncode", spec := "fnAppendPercentEncodedTwiceAgreesWithPercentEncode", apart := false }
def FnAppendPercentEncodedTwiceAgreesWithPercentEncodeSaid : Prop := fnAppendPercentEncodedTwiceAgreesWithPercentEncodeRow.holds Try.pinned (OpenSpec.ofChange fnAppendPercentEncodedTwiceAgreesWithPercentEncodeSpec)

/-- ITS FALSE NEIGHBOUR: 'it returns false'. Refute it at one input. -/
def fnAppendPercentEncodedTwiceAgreesWithPercentEncodeWrong : ChangeSpec := { name := "fnAppendPercentEncodedTwiceAgreesWithPercentEncode", fn := fun _ => fun
  | [d1, d2, d3] => { results := [.lit (.bool false)], args := [d1, d2, d3] }
  | _ => none }
def FnAppendPercentEncodedTwiceAgreesWithPercentEncodeWrongFalsely : Prop := fnAppendPercentEncodedTwiceAgreesWithPercentEncodeRow.holds Try.pinned (OpenSpec.ofChange fnAppendPercentEncodedTwiceAgreesWithPercentEncodeWrong)

/-- 'zzlaws_root_b1.FnKeySetAddFromFewState': WHATEVER THE INPUT: true; the input reads as it did. -/
def fnKeySetAddFromFewStateSpec : ChangeSpec := { name := "fnKeySetAddFromFewState", fn := fun _ => fun
  | [d1, d2, d3] => { results := [.lit (.bool true)], args := [d1, d2, d3] }
  | _ => none }
def fnKeySetAddFromFewStateRow : OpenClaim := { program := "qxb6603124a", sum := "ac68444e0de8805ade8dad6b4000f6f5685cbfd36e605e2a66f07da01a24836c", func := "example.com/bindr/bindr/zzlaws_root_b1.FnKeySetAddFromFewState", spec := "fnKeySetAddFromFewState", apart := false }
def FnKeySetAddFromFewStateSaid : Prop := fnKeySetAddFromFewStateRow.holds Try.pinned (OpenSpec.ofChange fnKeySetAddFromFewStateSpec)

/-- ITS FALSE NEIGHBOUR: 'it returns false'. Refute it at one input. -/
def fnKeySetAddFromFewStateWrong : ChangeSpec := { name := "fnKeySetAddFromFewState", fn := fun _ => fun
  | [d1, d2, d3] => { results := [.lit (.bool false)], args := [d1, d2, d3] }
  | _ => none }
def FnKeySetAddFromFewStateWrongFalsely : Prop := fnKeySetAddFromFewStateRow.holds Try.pinned (OpenSpec.ofChange fnKeySetAddFromFewStateWrong)

/-- 'zzlaws_root_b1.FnKeySetAddReportsExactlyTheRepeats': WHATEVER THE INPUT: true; the input reads as it did. -/
def fnKeySetAddReportsExactlyTheRepeatsSpec : ChangeSpec := { name := "fnKeySetAddReportsExactlyTheRepeats", fn := fun _ => fun
  | [d] => { results := [.lit (.bool true)], args := [d] }
  | _ => none }
def fnKeySetAddReportsExactlyTheRepeatsRow : OpenClaim := { program := "qxb6603124a", sum := "ac68444e0de8805ade8dad6b4000f6f5685cbfd36e605e2a66f07da01a24836c", func := "example.com/bindr/bindr/zzlaws_root_b1.FnKeySetAddReportsExactlyTheRepeats", spec := "fnKeySetAddReportsExactlyTheRepeats", apart := false }
def FnKeySetAddReportsExactlyTheRepeatsSaid : Prop := fnKeySetAddReportsExactlyTheRepeatsRow.holds Try.pinned (OpenSpec.ofChange fnKeySetAddReportsExactlyTheRepeatsSpec)

/-- ITS FALSE NEIGHBOUR: 'it returns false'. Refute it at one input. -/
def fnKeySetAddReportsExactlyTheRepeatsWrong : ChangeSpec := { name := "fnKeySetAddReportsExactlyTheRepeats", fn := fun _ => fun
  | [d] => { results := [.lit (.bool false)], args := [d] }
  | _ => none }
def FnKeySetAddReportsExactlyTheRepeatsWrongFalsely : Prop := fnKeySetAddReportsExactlyTheRepeatsRow.holds Try.pinned (OpenSpec.ofChange fnKeySetAddReportsExactlyTheRepeatsWrong)

end Rows
end Go.Proofs.Qxb6603124a
