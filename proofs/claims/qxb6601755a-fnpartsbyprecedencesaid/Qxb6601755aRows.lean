/-
  No cell of these rows narrows 'for every input' (looked for: loops, veiled, ifaces, maps, wideKeys, modest, calm, conditions, laid).
  DERIVED. THE GIVEN ROWS OF THIS SEAT. 4 by the template 'for every input the law returns true; each argument reads behind the call as it read before'; 0 by the template 'total and deterministic' (their statements: Qxb6601755aTotals.lean).
  GIVEN WITH THE SEED: the statements are not yours to turn. If you find one false, say at which input.
  Laid BY PROGRAM, IN A SANDBOX (cutbox-rows.mjs): the forced cells as the released guide's own fill.sh prints them over the translation 339a877b7d51c20e… (all of the seat's roots in one cut). By AI agents, Wed Nov 11 2026. No macro, syntax, notation, axiom, sorry.
-/
import Derived.Test.Qxb6601755aChecked
import GoSem.Claim
import GoSem.ClaimJoined
import GoSem.ClaimMapViews
import Derived.JoinedTies
import Derived.KernelRfl
namespace Go.Proofs.Qxb6601755a
/- THE CELL 'sum', in the pinned program and in every row, IS THE sha256 OF THE DUMP (.gsa) THAT Qxb6601755aProg.lean LOADS. Nothing in Lean hashes anything: it is a label: what it is worth is what the hold of that sum in a sandbox is worth. -/
noncomputable def Try.pinned : Pinned := { name := "qxb6601755a", sum := "339a877b7d51c20e023f32f3ee662714688ab4c675218abacaea0a1c3b87f427", checked := Try.checked }
namespace Rows
def none {H : Type} : Left H := { results := [], args := [] }

/-- 'zzlaws_internal_sim_b1.FnPartsByPrecedence': WHATEVER THE INPUT: true; the input reads as it did. -/
def fnPartsByPrecedenceSpec : ChangeSpec := { name := "fnPartsByPrecedence", fn := fun _ => fun
  | [d1, d2, d3, d4, d5, d6, d7, d8, d9, d10, d11] => { results := [.lit (.bool true)], args := [d1, d2, d3, d4, d5, d6, d7, d8, d9, d10, d11] }
  | _ => none }
def fnPartsByPrecedenceRow : OpenClaim := { program := "qxb6601755a", sum := "339a877b7d51c20e023f32f3ee662714688ab4c675218abacaea0a1c3b87f427", func := "example.com/keelstone/keelstone/zzlaws_internal_sim_b1.FnPartsByPrecedence", spec := "fnPartsByPrecedence", apart := false }
def FnPartsByPrecedenceSaid : Prop := fnPartsByPrecedenceRow.holds Try.pinned (OpenSpec.ofChange fnPartsByPrecedenceSpec)

/-- ITS FALSE NEIGHBOUR: 'it returns false'. Refute it at one input. -/
def fnPartsByPrecedenceWrong : ChangeSpec := { name := "fnPartsByPrecedence", fn := fun _ => fun
  | [d1, d2, d3, d4, d5, d6, d7, d8, d9, d10, d11] => { results := [.lit (.bool false)], args := [d1, d2, d3, d4, d5, d6, d7, d8, d9, d10, d11] }
  | _ => none }
def FnPartsByPrecedenceWrongFalsely : Prop := fnPartsByPrecedenceRow.holds Try.pinned (OpenSpec.ofChange fnPartsByPrecedenceWrong)

/-- 'zzlaws_internal_sim_b1.FnPartsOrderAndRepeatsFree': WHATEVER THE INPUT: true; the input reads as it did. -/
def fnPartsOrderAndRepeatsFreeSpec : ChangeSpec := { name := "fnPartsOrderAndRepeatsFree", fn := fun _ => fun
  | [d1, d2, d3] => { results := [.lit (.bool true)], args := [d1, d2, d3] }
  | _ => none }
def fnPartsOrderAndRepeatsFreeRow : OpenClaim := { program := "qxb6601755a", sum := "339a877b7d51c20e023f32f3ee662714688ab4c675218abacaea0a1c3b87f427", func := "example.com/keelstone/keelstone/zzlaws_internal_sim_b1.FnPartsOrderAndRepeatsFree", spec := "fnPartsOrderAndRepeatsFree", apart := false }
def FnPartsOrderAndRepeatsFreeSaid : Prop := fnPartsOrderAndRepeatsFreeRow.holds Try.pinned (OpenSpec.ofChange fnPartsOrderAndRepeatsFreeSpec)

/-- ITS FALSE NEIGHBOUR: 'it returns false'. Refute it at one input. -/
def fnPartsOrderAndRepeatsFreeWrong : ChangeSpec := { name := "fnPartsOrderAndRepeatsFree", fn := fun _ => fun
  | [d1, d2, d3] => { results := [.lit (.bool false)], args := [d1, d2, d3] }
  | _ => none }
def FnPartsOrderAndRepeatsFreeWrongFalsely : Prop := fnPartsOrderAndRepeatsFreeRow.holds Try.pinned (OpenSpec.ofChange fnPartsOrderAndRepeatsFreeWrong)

/-- 'zzlaws_internal_sim_b1.FnJudgeVectorsMatchesSpec': WHATEVER THE INPUT: true; the input reads as it did. -/
def fnJudgeVectorsMatchesSpecSpec : ChangeSpec := { name := "fnJudgeVectorsMatchesSpec", fn := fun _ => fun
  | [d1, d2, d3] => { results := [.lit (.bool true)], args := [d1, d2, d3] }
  | _ => none }
def fnJudgeVectorsMatchesSpecRow : OpenClaim := { program := "qxb6601755a", sum := "339a877b7d51c20e023f32f3ee662714688ab4c675218abacaea0a1c3b87f427", func := "example.com/keelstone/keelstone/zzlaws_internal_sim_b1.FnJudgeVectorsMatchesSpec", spec := "fnJudgeVectorsMatchesSpec", unfollowed := true, recurses := true, apart := false }
def FnJudgeVectorsMatchesSpecSaid : Prop := fnJudgeVectorsMatchesSpecRow.holds Try.pinned (OpenSpec.ofChange fnJudgeVectorsMatchesSpecSpec)

/-- ITS FALSE NEIGHBOUR: 'it returns false'. Refute it at one input. -/
def fnJudgeVectorsMatchesSpecWrong : ChangeSpec := { name := "fnJudgeVectorsMatchesSpec", fn := fun _ => fun
  | [d1, d2, d3] => { results := [.lit (.bool false)], args := [d1, d2, d3] }
  | _ => none }
def FnJudgeVectorsMatchesSpecWrongFalsely : Prop := fnJudgeVectorsMatchesSpecRow.holds Try.pinned (OpenSpec.ofChange fnJudgeVectorsMatchesSpecWrong)

/-- 'zzlaws_internal_sim_b1.FnJudgeVectorsIgnoresFaultyAndBookkeeping': WHATEVER THE INPUT: true; the input reads as it did. -/
def fnJudgeVectorsIgnoresFaultyAndBookkeepingSpec : ChangeSpec := { name := "fnJudgeVectorsIgnoresFaultyAndBookkeeping", fn := fun _ => fun
  | [d1, d2, d3] => { results := [.lit (.bool true)], args := [d1, d2, d3] }
  | _ => none }
def fnJudgeVectorsIgnoresFaultyAndBookkeepingRow : OpenClaim := { program := "qxb6601755a", sum := "339a877b7d51c20e023f32f3ee662714688ab4c675218abacaea0a1c3b87f427", func := "example.com/keelstone/keelstone/zzlaws_internal_sim_b1.FnJudgeVectorsIgnoresFaultyAndBookkeeping", spec := "fnJudgeVectorsIgnoresFaultyAndBookkeeping", unfollowed := true, recurses := true, apart := false }
def FnJudgeVectorsIgnoresFaultyAndBookkeepingSaid : Prop := fnJudgeVectorsIgnoresFaultyAndBookkeepingRow.holds Try.pinned (OpenSpec.ofChange fnJudgeVectorsIgnoresFaultyAndBookkeepingSpec)

/-- ITS FALSE NEIGHBOUR: 'it returns false'. Refute it at one input. -/
def fnJudgeVectorsIgnoresFaultyAndBookkeepingWrong : ChangeSpec := { name := "fnJudgeVectorsIgnoresFaultyAndBookkeeping", fn := fun _ => fun
  | [d1, d2, d3] => { results := [.lit (.bool false)], args := [d1, d2, d3] }
  | _ => none }
def FnJudgeVectorsIgnoresFaultyAndBookkeepingWrongFalsely : Prop := fnJudgeVectorsIgnoresFaultyAndBookkeepingRow.holds Try.pinned (OpenSpec.ofChange fnJudgeVectorsIgnoresFaultyAndBookkeepingWrong)

end Rows
end Go.Proofs.Qxb6601755a
