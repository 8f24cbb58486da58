/-
  No cell of these rows narrows 'for every input' (looked for: loops, veiled, ifaces, maps, wideKeys, modest, calm, conditions, laid).
  DERIVED. THE GIVEN ROWS OF THIS SEAT. 5 by the template 'for every input the law returns true; each argument reads behind the call as it read before'; 0 by the template 'total and deterministic' (their statements: Qxb6602386aTotals.lean).
  GIVEN WITH THE SEED: the statements are not yours to turn. If you find one false, say at which input.
  Laid BY PROGRAM, IN A SANDBOX (cutbox-rows.mjs): the forced cells as the released guide's own fill.sh prints them over the translation b6bee6a9e7a2f1ef… (all of the seat's roots in one cut). By AI agents, Wed Nov 11 2026. No macro, syntax, notation, axiom, sorry.
-/
import Derived.Test.Qxb6602386aChecked
import GoSem.Claim
import GoSem.ClaimJoined
import GoSem.ClaimMapViews
import Derived.JoinedTies
import Derived.KernelRfl
namespace Go.Proofs.Qxb6602386a
/- THE CELL 'sum', in the pinned program and in every row, IS THE sha256 OF THE DUMP (.gsa) THAT Qxb6602386aProg.lean LOADS. Nothing in Lean hashes anything: it is a label: what it is worth is what the hold of that sum in a sandbox is worth. -/
noncomputable def Try.pinned : Pinned := { name := "qxb6602386a", sum := "b6bee6a9e7a2f1efee57bc07eb4f7179efff35ed75debe1fbff2e947e8900ab8", checked := Try.checked }
namespace Rows
def none {H : Type} : Left H := { results := [], args := [] }

/-- 'zzlaws_internal_scenario_b1.FnSessionNameIsResourceNameWithoutPunct': WHATEVER THE INPUT: true; the input reads as it did. -/
def fnSessionNameIsResourceNameWithoutPunctSpec : ChangeSpec := { name := "fnSessionNameIsResourceNameWithoutPunct", fn := fun _ => fun
  | [d] => { results := [.lit (.bool true)], args := [d] }
  | _ => none }
def fnSessionNameIsResourceNameWithoutPunctRow : OpenClaim := { program := "qxb6602386a", sum := "b6bee6a9e7a2f1efee57bc07eb4f7179efff35ed75debe1fbff2e947e8900ab8", func := "example.com/keyfence/keyfence/zzlaws_internal_scenario_b1.FnSessionNameIsResourceNameWithoutPunct", spec := "fnSessionNameIsResourceNameWithoutPunct", apart := false }
def FnSessionNameIsResourceNameWithoutPunctSaid : Prop := fnSessionNameIsResourceNameWithoutPunctRow.holds Try.pinned (OpenSpec.ofChange fnSessionNameIsResourceNameWithoutPunctSpec)

/-- ITS FALSE NEIGHBOUR: 'it returns false'. Refute it at one input. -/
def fnSessionNameIsResourceNameWithoutPunctWrong : ChangeSpec := { name := "fnSessionNameIsResourceNameWithoutPunct", fn := fun _ => fun
  | [d] => { results := [.lit (.bool false)], args := [d] }
  | _ => none }
def FnSessionNameIsResourceNameWithoutPunctWrongFalsely : Prop := fnSessionNameIsResourceNameWithoutPunctRow.holds Try.pinned (OpenSpec.ofChange fnSessionNameIsResourceNameWithoutPunctWrong)

/-- 'zzlaws_internal_scenario_b1.FnResourceNameConcat': WHATEVER THE INPUT: true; the input reads as it did. -/
def fnResourceNameConcatSpec : ChangeSpec := { name := "fnResourceNameConcat", fn := fun _ => fun
  | [d1, d2] => { results := [.lit (.bool true)], args := [d1, d2] }
  | _ => none }
def fnResourceNameConcatRow : OpenClaim := { program := "qxb6602386a", sum := "b6bee6a9e7a2f1efee57bc07eb4f7179efff35ed75debe1fbff2e947e8900ab8", func := "example.com/keyfence/keyfence/zzlaws_internal_scenario_b1.FnResourceNameConcat", spec := "fnResourceNameConcat", apart := false }
def FnResourceNameConcatSaid : Prop := fnResourceNameConcatRow.holds Try.pinned (OpenSpec.ofChange fnResourceNameConcatSpec)

/-- ITS FALSE NEIGHBOUR: 'it returns false'. Refute it at one input. -/
def fnResourceNameConcatWrong : ChangeSpec := { name := "fnResourceNameConcat", fn := fun _ => fun
  | [d1, d2] => { results := [.lit (.bool false)], args := [d1, d2] }
  | _ => none }
def FnResourceNameConcatWrongFalsely : Prop := fnResourceNameConcatRow.holds Try.pinned (OpenSpec.ofChange fnResourceNameConcatWrong)

/-- 'zzlaws_internal_scenario_b1.FnIntDigitsExact': WHATEVER THE INPUT: true; the input reads as it did. -/
def fnIntDigitsExactSpec : ChangeSpec := { name := "fnIntDigitsExact", fn := fun _ => fun
  | [d] => { results := [.lit (.bool true)], args := [d] }
  | _ => none }
def fnIntDigitsExactRow : OpenClaim := { program := "qxb6602386a", sum := "b6bee6a9e7a2f1efee57bc07eb4f7179efff35ed75debe1fbff2e947e8900ab8", func := "example.com/keyfence/keyfence/zzlaws_internal_scenario_b1.FnIntDigitsExact", spec := "fnIntDigitsExact", apart := false }
def FnIntDigitsExactSaid : Prop := fnIntDigitsExactRow.holds Try.pinned (OpenSpec.ofChange fnIntDigitsExactSpec)

/-- ITS FALSE NEIGHBOUR: 'it returns false'. Refute it at one input. -/
def fnIntDigitsExactWrong : ChangeSpec := { name := "fnIntDigitsExact", fn := fun _ => fun
  | [d] => { results := [.lit (.bool false)], args := [d] }
  | _ => none }
def FnIntDigitsExactWrongFalsely : Prop := fnIntDigitsExactRow.holds Try.pinned (OpenSpec.ofChange fnIntDigitsExactWrong)

/-- 'zzlaws_internal_scenario_b1.FnIntDigitsOfFormattedInt64': WHATEVER THE INPUT: true; the input reads as it did. -/
def fnIntDigitsOfFormattedInt64Spec : ChangeSpec := { name := "fnIntDigitsOfFormattedInt64", fn := fun _ => fun
  | [d] => { results := [.lit (.bool true)], args := [d] }
  | _ => none }
def fnIntDigitsOfFormattedInt64Row : OpenClaim := { program := "qxb6602386a", sum := "b6bee6a9e7a2f1efee57bc07eb4f7179efff35ed75debe1fbff2e947e8900ab8", func := "example.com/keyfence/keyfence/zzlaws_internal_scenario_b1.FnIntDigitsOfFormattedInt64", spec := "fnIntDigitsOfFormattedInt64", apart := false }
def FnIntDigitsOfFormattedInt64Said : Prop := fnIntDigitsOfFormattedInt64Row.holds Try.pinned (OpenSpec.ofChange fnIntDigitsOfFormattedInt64Spec)

/-- ITS FALSE NEIGHBOUR: 'it returns false'. Refute it at one input. -/
def fnIntDigitsOfFormattedInt64Wrong : ChangeSpec := { name := "fnIntDigitsOfFormattedInt64", fn := fun _ => fun
  | [d] => { results := [.lit (.bool false)], args := [d] }
  | _ => none }
def FnIntDigitsOfFormattedInt64WrongFalsely : Prop := fnIntDigitsOfFormattedInt64Row.holds Try.pinned (OpenSpec.ofChange fnIntDigitsOfFormattedInt64Wrong)

/-- 'zzlaws_internal_scenario_b1.FnIntDigitsMinusSign': WHATEVER THE INPUT: true; the input reads as it did. -/
def fnIntDigitsMinusSignSpec : ChangeSpec := { name := "fnIntDigitsMinusSign", fn := fun _ => fun
  | [d] => { results := [.lit (.bool true)], args := [d] }
  | _ => none }
def fnIntDigitsMinusSignRow : OpenClaim := { program := "qxb6602386a", sum := "b6bee6a9e7a2f1efee57bc07eb4f7179efff35ed75debe1fbff2e947e8900ab8", func := "example.com/keyfence/keyfence/zzlaws_internal_scenario_b1.FnIntDigitsMinusSign", spec := "fnIntDigitsMinusSign", apart := false }
def FnIntDigitsMinusSignSaid : Prop := fnIntDigitsMinusSignRow.holds Try.pinned (OpenSpec.ofChange fnIntDigitsMinusSignSpec)

/-- ITS FALSE NEIGHBOUR: 'it returns false'. Refute it at one input. -/
def fnIntDigitsMinusSignWrong : ChangeSpec := { name := "fnIntDigitsMinusSign", fn := fun _ => fun
  | [d] => { results := [.lit (.bool false)], args := [d] }
  | _ => none }
def FnIntDigitsMinusSignWrongFalsely : Prop := fnIntDigitsMinusSignRow.holds Try.pinned (OpenSpec.ofChange fnIntDigitsMinusSignWrong)

end Rows
end Go.Proofs.Qxb6602386a
