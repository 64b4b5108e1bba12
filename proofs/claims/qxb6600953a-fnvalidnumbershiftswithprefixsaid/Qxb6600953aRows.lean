/-
  No cell of these rows narrows 'for every input' (looked for: loops, veiled, ifaces, maps, wideKeys, modest, calm, conditions, laid).
  DERIVED. THE GIVEN ROWS OF THIS SEAT. 6 by the template 'for every input the law returns true; each argument reads behind the call as it read before'; 0 by the template 'total and deterministic' (their statements: Qxb6600953aTotals.lean).
  GIVEN WITH THE SEED: the statements are not yours to turn. If you find one false, say at which input.
  Laid BY PROGRAM, IN A SANDBOX (cutbox-rows.mjs): the forced cells as the released guide's own fill.sh prints them over the translation 0beb6e00bcee7ef4… (all of the seat's roots in one cut). By AI agents, Wed Nov 11 2026. No macro, syntax, notation, axiom, sorry.
-/
import Derived.Test.Qxb6600953aChecked
import GoSem.Claim
import GoSem.ClaimJoined
import GoSem.ClaimMapViews
import Derived.JoinedTies
import Derived.KernelRfl
namespace Go.Proofs.Qxb6600953a
/- THE CELL 'sum', in the pinned program and in every row, IS THE sha256 OF THE DUMP (.gsa) THAT Qxb6600953aProg.lean LOADS. Nothing in Lean hashes anything: it is a label: what it is worth is what the hold of that sum in a sandbox is worth. -/
noncomputable def Try.pinned : Pinned := { name := "qxb6600953a", sum := "0beb6e00bcee7ef4a301c70ffaec7508d55e109dea3bb1388136a1f7dd836a4d", checked := Try.checked }
namespace Rows
def none {H : Type} : Left H := { results := [], args := [] }

/-- 'zzlaws_internal_jsonobject_b1.FnUnescapeInvertsEscape': WHATEVER THE INPUT: true; the input reads as it did. -/
def fnUnescapeInvertsEscapeSpec : ChangeSpec := { name := "fnUnescapeInvertsEscape", fn := fun _ => fun
  | [d] => { results := [.lit (.bool true)], args := [d] }
  | _ => none }
def fnUnescapeInvertsEscapeRow : OpenClaim := { program := "qxb6600953a", sum := "0beb6e00bcee7ef4a301c70ffaec7508d55e109dea3bb1388136a1f7dd836a4d", func := "example.com/halfway/halfway/zzlaws_internal_jsonobject_b1.FnUnescapeInvertsEscape", spec := "fnUnescapeInvertsEscape", apart := false }
def FnUnescapeInvertsEscapeSaid : Prop := fnUnescapeInvertsEscapeRow.holds Try.pinned (OpenSpec.ofChange fnUnescapeInvertsEscapeSpec)

/-- ITS FALSE NEIGHBOUR: 'it returns false'. Refute it at one input. -/
def fnUnescapeInvertsEscapeWrong : ChangeSpec := { name := "fnUnescapeInvertsEscape", fn := fun _ => fun
  | [d] => { results := [.lit (.bool false)], args := [d] }
  | _ => none }
def FnUnescapeInvertsEscapeWrongFalsely : Prop := fnUnescapeInvertsEscapeRow.holds Try.pinned (OpenSpec.ofChange fnUnescapeInvertsEscapeWrong)

/-- 'zzlaws_internal_jsonobject_b1.FnValidNumberAgreesWithAutomaton': WHATEVER THE INPUT: true; the input reads as it did. -/
def fnValidNumberAgreesWithAutomatonSpec : ChangeSpec := { name := "fnValidNumberAgreesWithAutomaton", fn := fun _ => fun
  | [d1, d2] => { results := [.lit (.bool true)], args := [d1, d2] }
  | _ => none }
def fnValidNumberAgreesWithAutomatonRow : OpenClaim := { program := "qxb6600953a", sum := "0beb6e00bcee7ef4a301c70ffaec7508d55e109dea3bb1388136a1f7dd836a4d", func := "example.com/halfway/halfway/zzlaws_internal_jsonobject_b1.FnValidNumberAgreesWithAutomaton", spec := "fnValidNumberAgreesWithAutomaton", apart := false }
def FnValidNumberAgreesWithAutomatonSaid : Prop := fnValidNumberAgreesWithAutomatonRow.holds Try.pinned (OpenSpec.ofChange fnValidNumberAgreesWithAutomatonSpec)

/-- ITS FALSE NEIGHBOUR: 'it returns false'. Refute it at one input. -/
def fnValidNumberAgreesWithAutomatonWrong : ChangeSpec := { name := "fnValidNumberAgreesWithAutomaton", fn := fun _ => fun
  | [d1, d2] => { results := [.lit (.bool false)], args := [d1, d2] }
  | _ => none }
def FnValidNumberAgreesWithAutomatonWrongFalsely : Prop := fnValidNumberAgreesWithAutomatonRow.holds Try.pinned (OpenSpec.ofChange fnValidNumberAgreesWithAutomatonWrong)

/-- 'zzlaws_internal_jsonobject_b1.FnValidNumberShiftsWithPrefix': WHATEVER THE INPUT: true; the input reads as it did. -/
def fnValidNumberShiftsWithPrefixSpec : ChangeSpec := { name := "fnValidNumberShiftsWithPrefix", fn := fun _ => fun
  | [d1, d2] => { results := [.lit (.bool true)], args := [d1, d2] }
  | _ => none }
def fnValidNumberShiftsWithPrefixRow : OpenClaim := { program := "qxb6600953a", sum := "0beb6e00bcee7ef4a301c70ffaec7508d55e109dea3bb1388136a1f7dd836a4d", func := "example.com/halfway/halfway/zzlaws_internal_jsonobject_b1.FnValidNumberShiftsWithPrefix", spec := "fnValidNumberShiftsWithPrefix", apart := false }
def FnValidNumberShiftsWithPrefixSaid : Prop := fnValidNumberShiftsWithPrefixRow.holds Try.pinned (OpenSpec.ofChange fnValidNumberShiftsWithPrefixSpec)

/-- ITS FALSE NEIGHBOUR: 'it returns false'. Refute it at one input. -/
def fnValidNumberShiftsWithPrefixWrong : ChangeSpec := { name := "fnValidNumberShiftsWithPrefix", fn := fun _ => fun
  | [d1, d2] => { results := [.lit (.bool false)], args := [d1, d2] }
  | _ => none }
def FnValidNumberShiftsWithPrefixWrongFalsely : Prop := fnValidNumberShiftsWithPrefixRow.holds Try.pinned (OpenSpec.ofChange fnValidNumberShiftsWithPrefixWrong)

/-- 'zzlaws_internal_jsonobject_b1.FnValidNumberWholeWhenCut': WHATEVER THE INPUT: true; the input reads as it did. -/
def fnValidNumberWholeWhenCutSpec : ChangeSpec := { name := "fnValidNumberWholeWhenCut", fn := fun _ => fun
  | [d1, d2] => { results := [.lit (.bool true)], args := [d1, d2] }
  | _ => none }
def fnValidNumberWholeWhenCutRow : OpenClaim := { program := "qxb6600953a", sum := "0beb6e00bcee7ef4a301c70ffaec7508d55e109dea3bb1388136a1f7dd836a4d", func := "example.com/halfway/halfway/zzlaws_internal_jsonobject_b1.FnValidNumberWholeWhenCut", spec := "fnValidNumberWholeWhenCut", apart := false }
def FnValidNumberWholeWhenCutSaid : Prop := fnValidNumberWholeWhenCutRow.holds Try.pinned (OpenSpec.ofChange fnValidNumberWholeWhenCutSpec)

/-- ITS FALSE NEIGHBOUR: 'it returns false'. Refute it at one input. -/
def fnValidNumberWholeWhenCutWrong : ChangeSpec := { name := "fnValidNumberWholeWhenCut", fn := fun _ => fun
  | [d1, d2] => { results := [.lit (.bool false)], args := [d1, d2] }
  | _ => none }
def FnValidNumberWholeWhenCutWrongFalsely : Prop := fnValidNumberWholeWhenCutRow.holds Try.pinned (OpenSpec.ofChange fnValidNumberWholeWhenCutWrong)

/-- 'zzlaws_internal_jsonobject_b1.FnValueEndMatchesGrammar': WHATEVER THE INPUT: true; the input reads as it did. -/
def fnValueEndMatchesGrammarSpec : ChangeSpec := { name := "fnValueEndMatchesGrammar", fn := fun _ => fun
  | [d1, d2] => { results := [.lit (.bool true)], args := [d1, d2] }
  | _ => none }
def fnValueEndMatchesGrammarRow : OpenClaim := { program := "qxb6600953a", sum := "0beb6e00bcee7ef4a301c70ffaec7508d55e109dea3bb1388136a1f7dd836a4d", func := "example.com/halfway/halfway/zzlaws_internal_jsonobject_b1.FnValueEndMatchesGrammar", spec := "fnValueEndMatchesGrammar", inPlace := ["internal/bytealg.IndexByte"], recurses := true, apart := false }
def FnValueEndMatchesGrammarSaid : Prop := fnValueEndMatchesGrammarRow.holds Try.pinned (OpenSpec.ofChange fnValueEndMatchesGrammarSpec)

/-- ITS FALSE NEIGHBOUR: 'it returns false'. Refute it at one input. -/
def fnValueEndMatchesGrammarWrong : ChangeSpec := { name := "fnValueEndMatchesGrammar", fn := fun _ => fun
  | [d1, d2] => { results := [.lit (.bool false)], args := [d1, d2] }
  | _ => none }
def FnValueEndMatchesGrammarWrongFalsely : Prop := fnValueEndMatchesGrammarRow.holds Try.pinned (OpenSpec.ofChange fnValueEndMatchesGrammarWrong)

/-- 'zzlaws_internal_jsonobject_b1.FnValueEndAgreesWithValidNumber': WHATEVER THE INPUT: true; the input reads as it did. -/
def fnValueEndAgreesWithValidNumberSpec : ChangeSpec := { name := "fnValueEndAgreesWithValidNumber", fn := fun _ => fun
  | [d1, d2] => { results := [.lit (.bool true)], args := [d1, d2] }
  | _ => none }
def fnValueEndAgreesWithValidNumberRow : OpenClaim := { program := "qxb6600953a", sum := "0beb6e00bcee7ef4a301c70ffaec7508d55e109dea3bb1388136a1f7dd836a4d", func := "example.com/halfway/halfway/zzlaws_internal_jsonobject_b1.FnValueEndAgreesWithValidNumber", spec := "fnValueEndAgreesWithValidNumber", inPlace := ["internal/bytealg.IndexByte"], apart := false }
def FnValueEndAgreesWithValidNumberSaid : Prop := fnValueEndAgreesWithValidNumberRow.holds Try.pinned (OpenSpec.ofChange fnValueEndAgreesWithValidNumberSpec)

/-- ITS FALSE NEIGHBOUR: 'it returns false'. Refute it at one input. -/
def fnValueEndAgreesWithValidNumberWrong : ChangeSpec := { name := "fnValueEndAgreesWithValidNumber", fn := fun _ => fun
  | [d1, d2] => { results := [.lit (.bool false)], args := [d1, d2] }
  | _ => none }
def FnValueEndAgreesWithValidNumberWrongFalsely : Prop := fnValueEndAgreesWithValidNumberRow.holds Try.pinned (OpenSpec.ofChange fnValueEndAgreesWithValidNumberWrong)

end Rows
end Go.Proofs.Qxb6600953a
