/-
  No cell of these rows narrows 'for every input' (looked for: loops, veiled, ifaces, maps, wideKeys, modest, calm, conditions, laid).
  DERIVED. THE GIVEN ROWS OF THIS SEAT. 5 by the template 'for every input the law returns true; each argument reads behind the call as it read before'; 0 by the template 'total and deterministic' (their statements: Qxb6601905aTotals.lean).
  GIVEN WITH THE SEED: the statements are not yours to turn. If you find one false, say at which input.
  Laid BY PROGRAM, IN A SANDBOX (cutbox-rows.mjs): the forced cells as the released guide's own fill.sh prints them over the translation 09a5b7e27ba2e046… (all of the seat's roots in one cut). By AI agents, Wed Nov 11 2026. No macro, syntax, notation, axiom, sorry.
-/
import Derived.Test.Qxb6601905aChecked
import GoSem.Claim
import GoSem.ClaimJoined
import GoSem.ClaimMapViews
import Derived.JoinedTies
import Derived.KernelRfl
namespace Go.Proofs.Qxb6601905a
/- THE CELL 'sum', in the pinned program and in every row, IS THE sha256 OF THE DUMP (.gsa) THAT Qxb6601905aProg.lean LOADS. Nothing in Lean hashes anything: it is a label: what it is worth is what the hold of that sum in a sandbox is worth. -/
noncomputable def Try.pinned : Pinned := { name := "qxb6601905a", sum := "09a5b7e27ba2e046fbb4d959053098b9cae6fce346d8c34fe400c465a97b533e", checked := Try.checked }
namespace Rows
def none {H : Type} : Left H := { results := [], args := [] }

/-- 'zzlaws_address_b1.FnValidQuotedStringMatchesBackslashParity': WHATEVER THE INPUT: true; the input reads as it did. -/
def fnValidQuotedStringMatchesBackslashParitySpec : ChangeSpec := { name := "fnValidQuotedStringMatchesBackslashParity", fn := fun _ => fun
  | [d] => { results := [.lit (.bool true)], args := [d] }
  | _ => none }
def fnValidQuotedStringMatchesBackslashParityRow : OpenClaim := { program := "qxb6601905a", sum := "09a5b7e27ba2e046fbb4d959053098b9cae6fce346d8c34fe400c465a97b533e", func := "example.com/postwright/postwright/zzlaws_address_b1.FnValidQuotedStringMatchesBackslashParity", spec := "fnValidQuotedStringMatchesBackslashParity", apart := false }
def FnValidQuotedStringMatchesBackslashParitySaid : Prop := fnValidQuotedStringMatchesBackslashParityRow.holds Try.pinned (OpenSpec.ofChange fnValidQuotedStringMatchesBackslashParitySpec)

/-- ITS FALSE NEIGHBOUR: 'it returns false'. Refute it at one input. -/
def fnValidQuotedStringMatchesBackslashParityWrong : ChangeSpec := { name := "fnValidQuotedStringMatchesBackslashParity", fn := fun _ => fun
  | [d] => { results := [.lit (.bool false)], args := [d] }
  | _ => none }
def FnValidQuotedStringMatchesBackslashParityWrongFalsely : Prop := fnValidQuotedStringMatchesBackslashParityRow.holds Try.pinned (OpenSpec.ofChange fnValidQuotedStringMatchesBackslashParityWrong)

/-- 'zzlaws_address_b1.FnQuoteLocalRoundTrip': WHATEVER THE INPUT: true; the input reads as it did. -/
def fnQuoteLocalRoundTripSpec : ChangeSpec := { name := "fnQuoteLocalRoundTrip", fn := fun _ => fun
  | [d] => { results := [.lit (.bool true)], args := [d] }
  | _ => none }
def fnQuoteLocalRoundTripRow : OpenClaim := { program := "qxb6601905a", sum := "09a5b7e27ba2e046fbb4d959053098b9cae6fce346d8c34fe400c465a97b533e", func := "example.com/postwright/postwright/zzlaws_address_b1.FnQuoteLocalRoundTrip", spec := "fnQuoteLocalRoundTrip", inPlace := ["internal/abi.NoEscape"], apart := false }
def FnQuoteLocalRoundTripSaid : Prop := fnQuoteLocalRoundTripRow.holds Try.pinned (OpenSpec.ofChange fnQuoteLocalRoundTripSpec)

/-- ITS FALSE NEIGHBOUR: 'it returns false'. Refute it at one input. -/
def fnQuoteLocalRoundTripWrong : ChangeSpec := { name := "fnQuoteLocalRoundTrip", fn := fun _ => fun
  | [d] => { results := [.lit (.bool false)], args := [d] }
  | _ => none }
def FnQuoteLocalRoundTripWrongFalsely : Prop := fnQuoteLocalRoundTripRow.holds Try.pinned (OpenSpec.ofChange fnQuoteLocalRoundTripWrong)

/-- 'zzlaws_address_b1.FnAcceptedQuotedCanonicalForm': WHATEVER THE INPUT: true; the input reads as it did. -/
def fnAcceptedQuotedCanonicalFormSpec : ChangeSpec := { name := "fnAcceptedQuotedCanonicalForm", fn := fun _ => fun
  | [d] => { results := [.lit (.bool true)], args := [d] }
  | _ => none }
def fnAcceptedQuotedCanonicalFormRow : OpenClaim := { program := "qxb6601905a", sum := "09a5b7e27ba2e046fbb4d959053098b9cae6fce346d8c34fe400c465a97b533e", func := "example.com/postwright/postwright/zzlaws_address_b1.FnAcceptedQuotedCanonicalForm", spec := "fnAcceptedQuotedCanonicalForm", inPlace := ["internal/abi.NoEscape"], apart := false }
def FnAcceptedQuotedCanonicalFormSaid : Prop := fnAcceptedQuotedCanonicalFormRow.holds Try.pinned (OpenSpec.ofChange fnAcceptedQuotedCanonicalFormSpec)

/-- ITS FALSE NEIGHBOUR: 'it returns false'. Refute it at one input. -/
def fnAcceptedQuotedCanonicalFormWrong : ChangeSpec := { name := "fnAcceptedQuotedCanonicalForm", fn := fun _ => fun
  | [d] => { results := [.lit (.bool false)], args := [d] }
  | _ => none }
def FnAcceptedQuotedCanonicalFormWrongFalsely : Prop := fnAcceptedQuotedCanonicalFormRow.holds Try.pinned (OpenSpec.ofChange fnAcceptedQuotedCanonicalFormWrong)

/-- 'zzlaws_address_b1.FnUnquoteLocalMatchesRunModel': WHATEVER THE INPUT: true; the input reads as it did. -/
def fnUnquoteLocalMatchesRunModelSpec : ChangeSpec := { name := "fnUnquoteLocalMatchesRunModel", fn := fun _ => fun
  | [d] => { results := [.lit (.bool true)], args := [d] }
  | _ => none }
def fnUnquoteLocalMatchesRunModelRow : OpenClaim := { program := "qxb6601905a", sum := "09a5b7e27ba2e046fbb4d959053098b9cae6fce346d8c34fe400c465a97b533e", func := "example.com/postwright/postwright/zzlaws_address_b1.FnUnquoteLocalMatchesRunModel", spec := "fnUnquoteLocalMatchesRunModel", inPlace := ["internal/abi.NoEscape"], apart := false }
def FnUnquoteLocalMatchesRunModelSaid : Prop := fnUnquoteLocalMatchesRunModelRow.holds Try.pinned (OpenSpec.ofChange fnUnquoteLocalMatchesRunModelSpec)

/-- ITS FALSE NEIGHBOUR: 'it returns false'. Refute it at one input. -/
def fnUnquoteLocalMatchesRunModelWrong : ChangeSpec := { name := "fnUnquoteLocalMatchesRunModel", fn := fun _ => fun
  | [d] => { results := [.lit (.bool false)], args := [d] }
  | _ => none }
def FnUnquoteLocalMatchesRunModelWrongFalsely : Prop := fnUnquoteLocalMatchesRunModelRow.holds Try.pinned (OpenSpec.ofChange fnUnquoteLocalMatchesRunModelWrong)

/-- 'zzlaws_address_b1.FnUnquoteLocalLengthBounds': WHATEVER THE INPUT: true; the input reads as it did. -/
def fnUnquoteLocalLengthBoundsSpec : ChangeSpec := { name := "fnUnquoteLocalLengthBounds", fn := fun _ => fun
  | [d] => { results := [.lit (.bool true)], args := [d] }
  | _ => none }
def fnUnquoteLocalLengthBoundsRow : OpenClaim := { program := "qxb6601905a", sum := "09a5b7e27ba2e046fbb4d959053098b9cae6fce346d8c34fe400c465a97b533e", func := "example.com/postwright/postwright/zzlaws_address_b1.FnUnquoteLocalLengthBounds", spec := "fnUnquoteLocalLengthBounds", inPlace := ["internal/abi.NoEscape"], apart := false }
def FnUnquoteLocalLengthBoundsSaid : Prop := fnUnquoteLocalLengthBoundsRow.holds Try.pinned (OpenSpec.ofChange fnUnquoteLocalLengthBoundsSpec)

/-- ITS FALSE NEIGHBOUR: 'it returns false'. Refute it at one input. -/
def fnUnquoteLocalLengthBoundsWrong : ChangeSpec := { name := "fnUnquoteLocalLengthBounds", fn := fun _ => fun
  | [d] => { results := [.lit (.bool false)], args := [d] }
  | _ => none }
def FnUnquoteLocalLengthBoundsWrongFalsely : Prop := fnUnquoteLocalLengthBoundsRow.holds Try.pinned (OpenSpec.ofChange fnUnquoteLocalLengthBoundsWrong)

end Rows
end Go.Proofs.Qxb6601905a
