/-
  No cell of these rows narrows 'for every input' (looked for: loops, veiled, ifaces, maps, wideKeys, modest, calm, conditions, laid).
  DERIVED. THE GIVEN ROWS OF THIS SEAT. 7 by the template 'for every input the law returns true; each argument reads behind the call as it read before'; 0 by the template 'total and deterministic' (their statements: Qxb6601678aTotals.lean).
  GIVEN WITH THE SEED: the statements are not yours to turn. If you find one false, say at which input.
  Laid BY PROGRAM, IN A SANDBOX (cutbox-rows.mjs): the forced cells as the released guide's own fill.sh prints them over the translation d442825a5f2001a0… (all of the seat's roots in one cut). By AI agents, Wed Nov 11 2026. No macro, syntax, notation, axiom, sorry.
-/
import Derived.Test.Qxb6601678aChecked
import GoSem.Claim
import GoSem.ClaimJoined
import GoSem.ClaimMapViews
import Derived.JoinedTies
import Derived.KernelRfl
namespace Go.Proofs.Qxb6601678a
/- THE CELL 'sum', in the pinned program and in every row, IS THE sha256 OF THE DUMP (.gsa) THAT Qxb6601678aProg.lean LOADS. Nothing in Lean hashes anything: it is a label: what it is worth is what the hold of that sum in a sandbox is worth. -/
noncomputable def Try.pinned : Pinned := { name := "qxb6601678a", sum := "d442825a5f2001a0f33649d89e2bdc4a6d69e08f7b12409cd3367566e705b849", checked := Try.checked }
namespace Rows
def none {H : Type} : Left H := { results := [], args := [] }

/-- 'zzlaws_root_b1.FnParseDigitsSpec': WHATEVER THE INPUT: true; the input reads as it did. -/
def fnParseDigitsSpecSpec : ChangeSpec := { name := "fnParseDigitsSpec", fn := fun _ => fun
  | [d1, d2] => { results := [.lit (.bool true)], args := [d1, d2] }
  | _ => none }
def fnParseDigitsSpecRow : OpenClaim := { program := "qxb6601678a", sum := "d442825a5f2001a0f33649d89e2bdc4a6d69e08f7b12409cd3367566e705b849", func := "example.com/respwire/respwire/zzlaws_root_b1.FnParseDigitsSpec", spec := "fnParseDigitsSpec", apart := false }
def FnParseDigitsSpecSaid : Prop := fnParseDigitsSpecRow.holds Try.pinned (OpenSpec.ofChange fnParseDigitsSpecSpec)

/-- ITS FALSE NEIGHBOUR: 'it returns false'. Refute it at one input. -/
def fnParseDigitsSpecWrong : ChangeSpec := { name := "fnParseDigitsSpec", fn := fun _ => fun
  | [d1, d2] => { results := [.lit (.bool false)], args := [d1, d2] }
  | _ => none }
def FnParseDigitsSpecWrongFalsely : Prop := fnParseDigitsSpecRow.holds Try.pinned (OpenSpec.ofChange fnParseDigitsSpecWrong)

/-- 'zzlaws_root_b1.FnParseDigitsLeadingZero': WHATEVER THE INPUT: true; the input reads as it did. -/
def fnParseDigitsLeadingZeroSpec : ChangeSpec := { name := "fnParseDigitsLeadingZero", fn := fun _ => fun
  | [d1, d2] => { results := [.lit (.bool true)], args := [d1, d2] }
  | _ => none }
def fnParseDigitsLeadingZeroRow : OpenClaim := { program := "qxb6601678a", sum := "d442825a5f2001a0f33649d89e2bdc4a6d69e08f7b12409cd3367566e705b849", func := "example.com/respwire/respwire/zzlaws_root_b1.FnParseDigitsLeadingZero", spec := "fnParseDigitsLeadingZero", apart := false }
def FnParseDigitsLeadingZeroSaid : Prop := fnParseDigitsLeadingZeroRow.holds Try.pinned (OpenSpec.ofChange fnParseDigitsLeadingZeroSpec)

/-- ITS FALSE NEIGHBOUR: 'it returns false'. Refute it at one input. -/
def fnParseDigitsLeadingZeroWrong : ChangeSpec := { name := "fnParseDigitsLeadingZero", fn := fun _ => fun
  | [d1, d2] => { results := [.lit (.bool false)], args := [d1, d2] }
  | _ => none }
def FnParseDigitsLeadingZeroWrongFalsely : Prop := fnParseDigitsLeadingZeroRow.holds Try.pinned (OpenSpec.ofChange fnParseDigitsLeadingZeroWrong)

/-- 'zzlaws_root_b1.FnLongPlainLengthSpec': WHATEVER THE INPUT: true; the input reads as it did. -/
def fnLongPlainLengthSpecSpec : ChangeSpec := { name := "fnLongPlainLengthSpec", fn := fun _ => fun
  | [d1, d2, d3] => { results := [.lit (.bool true)], args := [d1, d2, d3] }
  | _ => none }
def fnLongPlainLengthSpecRow : OpenClaim := { program := "qxb6601678a", sum := "d442825a5f2001a0f33649d89e2bdc4a6d69e08f7b12409cd3367566e705b849", func := "example.com/respwire/respwire/zzlaws_root_b1.FnLongPlainLengthSpec", spec := "fnLongPlainLengthSpec", apart := false }
def FnLongPlainLengthSpecSaid : Prop := fnLongPlainLengthSpecRow.holds Try.pinned (OpenSpec.ofChange fnLongPlainLengthSpecSpec)

/-- ITS FALSE NEIGHBOUR: 'it returns false'. Refute it at one input. -/
def fnLongPlainLengthSpecWrong : ChangeSpec := { name := "fnLongPlainLengthSpec", fn := fun _ => fun
  | [d1, d2, d3] => { results := [.lit (.bool false)], args := [d1, d2, d3] }
  | _ => none }
def FnLongPlainLengthSpecWrongFalsely : Prop := fnLongPlainLengthSpecRow.holds Try.pinned (OpenSpec.ofChange fnLongPlainLengthSpecWrong)

/-- 'zzlaws_root_b1.FnLongPlainLengthLocal': WHATEVER THE INPUT: true; the input reads as it did. -/
def fnLongPlainLengthLocalSpec : ChangeSpec := { name := "fnLongPlainLengthLocal", fn := fun _ => fun
  | [d1, d2, d3, d4, d5] => { results := [.lit (.bool true)], args := [d1, d2, d3, d4, d5] }
  | _ => none }
def fnLongPlainLengthLocalRow : OpenClaim := { program := "qxb6601678a", sum := "d442825a5f2001a0f33649d89e2bdc4a6d69e08f7b12409cd3367566e705b849", func := "example.com/respwire/respwire/zzlaws_root_b1.FnLongPlainLengthLocal", spec := "fnLongPlainLengthLocal", apart := false }
def FnLongPlainLengthLocalSaid : Prop := fnLongPlainLengthLocalRow.holds Try.pinned (OpenSpec.ofChange fnLongPlainLengthLocalSpec)

/-- ITS FALSE NEIGHBOUR: 'it returns false'. Refute it at one input. -/
def fnLongPlainLengthLocalWrong : ChangeSpec := { name := "fnLongPlainLengthLocal", fn := fun _ => fun
  | [d1, d2, d3, d4, d5] => { results := [.lit (.bool false)], args := [d1, d2, d3, d4, d5] }
  | _ => none }
def FnLongPlainLengthLocalWrongFalsely : Prop := fnLongPlainLengthLocalRow.holds Try.pinned (OpenSpec.ofChange fnLongPlainLengthLocalWrong)

/-- 'zzlaws_root_b1.FnLongPlainLengthAgreesParseDigits': WHATEVER THE INPUT: true; the input reads as it did. -/
def fnLongPlainLengthAgreesParseDigitsSpec : ChangeSpec := { name := "fnLongPlainLengthAgreesParseDigits", fn := fun _ => fun
  | [d1, d2, d3] => { results := [.lit (.bool true)], args := [d1, d2, d3] }
  | _ => none }
def fnLongPlainLengthAgreesParseDigitsRow : OpenClaim := { program := "qxb6601678a", sum := "d442825a5f2001a0f33649d89e2bdc4a6d69e08f7b12409cd3367566e705b849", func := "example.com/respwire/respwire/zzlaws_root_b1.FnLongPlainLengthAgreesParseDigits", spec := "fnLongPlainLengthAgreesParseDigits", apart := false }
def FnLongPlainLengthAgreesParseDigitsSaid : Prop := fnLongPlainLengthAgreesParseDigitsRow.holds Try.pinned (OpenSpec.ofChange fnLongPlainLengthAgreesParseDigitsSpec)

/-- ITS FALSE NEIGHBOUR: 'it returns false'. Refute it at one input. -/
def fnLongPlainLengthAgreesParseDigitsWrong : ChangeSpec := { name := "fnLongPlainLengthAgreesParseDigits", fn := fun _ => fun
  | [d1, d2, d3] => { results := [.lit (.bool false)], args := [d1, d2, d3] }
  | _ => none }
def FnLongPlainLengthAgreesParseDigitsWrongFalsely : Prop := fnLongPlainLengthAgreesParseDigitsRow.holds Try.pinned (OpenSpec.ofChange fnLongPlainLengthAgreesParseDigitsWrong)

/-- 'zzlaws_root_b1.FnBuilderValueSpec': WHATEVER THE INPUT: true; the input reads as it did. -/
def fnBuilderValueSpecSpec : ChangeSpec := { name := "fnBuilderValueSpec", fn := fun _ => fun
  | [d1, d2, d3, d4] => { results := [.lit (.bool true)], args := [d1, d2, d3, d4] }
  | _ => none }
def fnBuilderValueSpecRow : OpenClaim := { program := "qxb6601678a", sum := "d442825a5f2001a0f33649d89e2bdc4a6d69e08f7b12409cd3367566e705b849", func := "example.com/respwire/respwire/zzlaws_root_b1.FnBuilderValueSpec", spec := "fnBuilderValueSpec", recurses := true, apart := false }
def FnBuilderValueSpecSaid : Prop := fnBuilderValueSpecRow.holds Try.pinned (OpenSpec.ofChange fnBuilderValueSpecSpec)

/-- ITS FALSE NEIGHBOUR: 'it returns false'. Refute it at one input. -/
def fnBuilderValueSpecWrong : ChangeSpec := { name := "fnBuilderValueSpec", fn := fun _ => fun
  | [d1, d2, d3, d4] => { results := [.lit (.bool false)], args := [d1, d2, d3, d4] }
  | _ => none }
def FnBuilderValueSpecWrongFalsely : Prop := fnBuilderValueSpecRow.holds Try.pinned (OpenSpec.ofChange fnBuilderValueSpecWrong)

/-- 'zzlaws_root_b1.FnBuilderValueAttrsOnlyInAttrs': WHATEVER THE INPUT: true; the input reads as it did. -/
def fnBuilderValueAttrsOnlyInAttrsSpec : ChangeSpec := { name := "fnBuilderValueAttrsOnlyInAttrs", fn := fun _ => fun
  | [d1, d2, d3] => { results := [.lit (.bool true)], args := [d1, d2, d3] }
  | _ => none }
def fnBuilderValueAttrsOnlyInAttrsRow : OpenClaim := { program := "qxb6601678a", sum := "d442825a5f2001a0f33649d89e2bdc4a6d69e08f7b12409cd3367566e705b849", func := "example.com/respwire/respwire/zzlaws_root_b1.FnBuilderValueAttrsOnlyInAttrs", spec := "fnBuilderValueAttrsOnlyInAttrs", recurses := true, apart := false }
def FnBuilderValueAttrsOnlyInAttrsSaid : Prop := fnBuilderValueAttrsOnlyInAttrsRow.holds Try.pinned (OpenSpec.ofChange fnBuilderValueAttrsOnlyInAttrsSpec)

/-- ITS FALSE NEIGHBOUR: 'it returns false'. Refute it at one input. -/
def fnBuilderValueAttrsOnlyInAttrsWrong : ChangeSpec := { name := "fnBuilderValueAttrsOnlyInAttrs", fn := fun _ => fun
  | [d1, d2, d3] => { results := [.lit (.bool false)], args := [d1, d2, d3] }
  | _ => none }
def FnBuilderValueAttrsOnlyInAttrsWrongFalsely : Prop := fnBuilderValueAttrsOnlyInAttrsRow.holds Try.pinned (OpenSpec.ofChange fnBuilderValueAttrsOnlyInAttrsWrong)

end Rows
end Go.Proofs.Qxb6601678a
