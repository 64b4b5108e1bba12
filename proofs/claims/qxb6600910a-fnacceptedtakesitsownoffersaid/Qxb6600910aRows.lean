/-
  No cell of these rows narrows 'for every input' (looked for: loops, veiled, ifaces, maps, wideKeys, modest, calm, conditions, laid).
  DERIVED. THE GIVEN ROWS OF THIS SEAT. 7 by the template 'for every input the law returns true; each argument reads behind the call as it read before'; 0 by the template 'total and deterministic' (their statements: Qxb6600910aTotals.lean).
  GIVEN WITH THE SEED: the statements are not yours to turn. If you find one false, say at which input.
  Laid BY PROGRAM, IN A SANDBOX (cutbox-rows.mjs): the forced cells as the released guide's own fill.sh prints them over the translation d5871b1d00848708… (all of the seat's roots in one cut). By AI agents, Wed Nov 11 2026. No macro, syntax, notation, axiom, sorry.
-/
import Derived.Test.Qxb6600910aChecked
import GoSem.Claim
import GoSem.ClaimJoined
import GoSem.ClaimMapViews
import Derived.JoinedTies
import Derived.KernelRfl
namespace Go.Proofs.Qxb6600910a
/- THE CELL 'sum', in the pinned program and in every row, IS THE sha256 OF THE DUMP (.gsa) THAT Qxb6600910aProg.lean LOADS. Nothing in Lean hashes anything: it is a label: what it is worth is what the hold of that sum in a sandbox is worth. -/
noncomputable def Try.pinned : Pinned := { name := "qxb6600910a", sum := "d5871b1d00848708373c79271b22aa649caa7ab0f1b3ec464ded7c982ec3abe7", checked := Try.checked }
namespace Rows
def none {H : Type} : Left H := { results := [], args := [] }

/-- 'zzlaws_suites_b1.FnHoldsMatchesModel': WHATEVER THE INPUT: true; the input reads as it did. -/
def fnHoldsMatchesModelSpec : ChangeSpec := { name := "fnHoldsMatchesModel", fn := fun _ => fun
  | [d1, d2] => { results := [.lit (.bool true)], args := [d1, d2] }
  | _ => none }
def fnHoldsMatchesModelRow : OpenClaim := { program := "qxb6600910a", sum := "d5871b1d00848708373c79271b22aa649caa7ab0f1b3ec464ded7c982ec3abe7", func := "example.com/tidelock/tidelock/zzlaws_suites_b1.FnHoldsMatchesModel", spec := "fnHoldsMatchesModel", unfollowed := true, recurses := true, apart := false }
def FnHoldsMatchesModelSaid : Prop := fnHoldsMatchesModelRow.holds Try.pinned (OpenSpec.ofChange fnHoldsMatchesModelSpec)

/-- ITS FALSE NEIGHBOUR: 'it returns false'. Refute it at one input. -/
def fnHoldsMatchesModelWrong : ChangeSpec := { name := "fnHoldsMatchesModel", fn := fun _ => fun
  | [d1, d2] => { results := [.lit (.bool false)], args := [d1, d2] }
  | _ => none }
def FnHoldsMatchesModelWrongFalsely : Prop := fnHoldsMatchesModelRow.holds Try.pinned (OpenSpec.ofChange fnHoldsMatchesModelWrong)

/-- 'zzlaws_suites_b1.FnHoldsIsReflexive': WHATEVER THE INPUT: true; the input reads as it did. -/
def fnHoldsIsReflexiveSpec : ChangeSpec := { name := "fnHoldsIsReflexive", fn := fun _ => fun
  | [d] => { results := [.lit (.bool true)], args := [d] }
  | _ => none }
def fnHoldsIsReflexiveRow : OpenClaim := { program := "qxb6600910a", sum := "d5871b1d00848708373c79271b22aa649caa7ab0f1b3ec464ded7c982ec3abe7", func := "example.com/tidelock/tidelock/zzlaws_suites_b1.FnHoldsIsReflexive", spec := "fnHoldsIsReflexive", unfollowed := true, recurses := true, apart := false }
def FnHoldsIsReflexiveSaid : Prop := fnHoldsIsReflexiveRow.holds Try.pinned (OpenSpec.ofChange fnHoldsIsReflexiveSpec)

/-- ITS FALSE NEIGHBOUR: 'it returns false'. Refute it at one input. -/
def fnHoldsIsReflexiveWrong : ChangeSpec := { name := "fnHoldsIsReflexive", fn := fun _ => fun
  | [d] => { results := [.lit (.bool false)], args := [d] }
  | _ => none }
def FnHoldsIsReflexiveWrongFalsely : Prop := fnHoldsIsReflexiveRow.holds Try.pinned (OpenSpec.ofChange fnHoldsIsReflexiveWrong)

/-- 'zzlaws_suites_b1.FnHoldsIgnoresOrder': WHATEVER THE INPUT: true; the input reads as it did. -/
def fnHoldsIgnoresOrderSpec : ChangeSpec := { name := "fnHoldsIgnoresOrder", fn := fun _ => fun
  | [d1, d2] => { results := [.lit (.bool true)], args := [d1, d2] }
  | _ => none }
def fnHoldsIgnoresOrderRow : OpenClaim := { program := "qxb6600910a", sum := "d5871b1d00848708373c79271b22aa649caa7ab0f1b3ec464ded7c982ec3abe7", func := "example.com/tidelock/tidelock/zzlaws_suites_b1.FnHoldsIgnoresOrder", spec := "fnHoldsIgnoresOrder", unfollowed := true, recurses := true, apart := false }
def FnHoldsIgnoresOrderSaid : Prop := fnHoldsIgnoresOrderRow.holds Try.pinned (OpenSpec.ofChange fnHoldsIgnoresOrderSpec)

/-- ITS FALSE NEIGHBOUR: 'it returns false'. Refute it at one input. -/
def fnHoldsIgnoresOrderWrong : ChangeSpec := { name := "fnHoldsIgnoresOrder", fn := fun _ => fun
  | [d1, d2] => { results := [.lit (.bool false)], args := [d1, d2] }
  | _ => none }
def FnHoldsIgnoresOrderWrongFalsely : Prop := fnHoldsIgnoresOrderRow.holds Try.pinned (OpenSpec.ofChange fnHoldsIgnoresOrderWrong)

/-- 'zzlaws_suites_b1.FnAcceptedExactWhenTypesDistinct': WHATEVER THE INPUT: true; the input reads as it did. -/
def fnAcceptedExactWhenTypesDistinctSpec : ChangeSpec := { name := "fnAcceptedExactWhenTypesDistinct", fn := fun _ => fun
  | [d1, d2, d3, d4] => { results := [.lit (.bool true)], args := [d1, d2, d3, d4] }
  | _ => none }
def fnAcceptedExactWhenTypesDistinctRow : OpenClaim := { program := "qxb6600910a", sum := "d5871b1d00848708373c79271b22aa649caa7ab0f1b3ec464ded7c982ec3abe7", func := "example.com/tidelock/tidelock/zzlaws_suites_b1.FnAcceptedExactWhenTypesDistinct", spec := "fnAcceptedExactWhenTypesDistinct", unfollowed := true, recurses := true, apart := false }
def FnAcceptedExactWhenTypesDistinctSaid : Prop := fnAcceptedExactWhenTypesDistinctRow.holds Try.pinned (OpenSpec.ofChange fnAcceptedExactWhenTypesDistinctSpec)

/-- ITS FALSE NEIGHBOUR: 'it returns false'. Refute it at one input. -/
def fnAcceptedExactWhenTypesDistinctWrong : ChangeSpec := { name := "fnAcceptedExactWhenTypesDistinct", fn := fun _ => fun
  | [d1, d2, d3, d4] => { results := [.lit (.bool false)], args := [d1, d2, d3, d4] }
  | _ => none }
def FnAcceptedExactWhenTypesDistinctWrongFalsely : Prop := fnAcceptedExactWhenTypesDistinctRow.holds Try.pinned (OpenSpec.ofChange fnAcceptedExactWhenTypesDistinctWrong)

/-- 'zzlaws_suites_b1.FnAcceptedTakesItsOwnOffer': WHATEVER THE INPUT: true; the input reads as it did. -/
def fnAcceptedTakesItsOwnOfferSpec : ChangeSpec := { name := "fnAcceptedTakesItsOwnOffer", fn := fun _ => fun
  | [d1, d2, d3, d4, d5] => { results := [.lit (.bool true)], args := [d1, d2, d3, d4, d5] }
  | _ => none }
def fnAcceptedTakesItsOwnOfferRow : OpenClaim := { program := "qxb6600910a", sum := "d5871b1d00848708373c79271b22aa649caa7ab0f1b3ec464ded7c982ec3abe7", func := "example.com/tidelock/tidelock/zzlaws_suites_b1.FnAcceptedTakesItsOwnOffer", spec := "fnAcceptedTakesItsOwnOffer", unfollowed := true, recurses := true, apart := false }
def FnAcceptedTakesItsOwnOfferSaid : Prop := fnAcceptedTakesItsOwnOfferRow.holds Try.pinned (OpenSpec.ofChange fnAcceptedTakesItsOwnOfferSpec)

/-- ITS FALSE NEIGHBOUR: 'it returns false'. Refute it at one input. -/
def fnAcceptedTakesItsOwnOfferWrong : ChangeSpec := { name := "fnAcceptedTakesItsOwnOffer", fn := fun _ => fun
  | [d1, d2, d3, d4, d5] => { results := [.lit (.bool false)], args := [d1, d2, d3, d4, d5] }
  | _ => none }
def FnAcceptedTakesItsOwnOfferWrongFalsely : Prop := fnAcceptedTakesItsOwnOfferRow.holds Try.pinned (OpenSpec.ofChange fnAcceptedTakesItsOwnOfferWrong)

/-- 'zzlaws_suites_b1.FnSaIsOneProposalOfTheTemplate': WHATEVER THE INPUT: true; the input reads as it did. -/
def fnSaIsOneProposalOfTheTemplateSpec : ChangeSpec := { name := "fnSaIsOneProposalOfTheTemplate", fn := fun _ => fun
  | [d1, d2, d3, d4, d5] => { results := [.lit (.bool true)], args := [d1, d2, d3, d4, d5] }
  | _ => none }
def fnSaIsOneProposalOfTheTemplateRow : OpenClaim := { program := "qxb6600910a", sum := "d5871b1d00848708373c79271b22aa649caa7ab0f1b3ec464ded7c982ec3abe7", func := "example.com/tidelock/tidelock/zzlaws_suites_b1.FnSaIsOneProposalOfTheTemplate", spec := "fnSaIsOneProposalOfTheTemplate", apart := false }
def FnSaIsOneProposalOfTheTemplateSaid : Prop := fnSaIsOneProposalOfTheTemplateRow.holds Try.pinned (OpenSpec.ofChange fnSaIsOneProposalOfTheTemplateSpec)

/-- ITS FALSE NEIGHBOUR: 'it returns false'. Refute it at one input. -/
def fnSaIsOneProposalOfTheTemplateWrong : ChangeSpec := { name := "fnSaIsOneProposalOfTheTemplate", fn := fun _ => fun
  | [d1, d2, d3, d4, d5] => { results := [.lit (.bool false)], args := [d1, d2, d3, d4, d5] }
  | _ => none }
def FnSaIsOneProposalOfTheTemplateWrongFalsely : Prop := fnSaIsOneProposalOfTheTemplateRow.holds Try.pinned (OpenSpec.ofChange fnSaIsOneProposalOfTheTemplateWrong)

/-- 'zzlaws_suites_b1.FnSaTransformsAreTheCallersOwn': WHATEVER THE INPUT: true; the input reads as it did. -/
def fnSaTransformsAreTheCallersOwnSpec : ChangeSpec := { name := "fnSaTransformsAreTheCallersOwn", fn := fun _ => fun
  | [d1, d2, d3, d4] => { results := [.lit (.bool true)], args := [d1, d2, d3, d4] }
  | _ => none }
def fnSaTransformsAreTheCallersOwnRow : OpenClaim := { program := "qxb6600910a", sum := "d5871b1d00848708373c79271b22aa649caa7ab0f1b3ec464ded7c982ec3abe7", func := "example.com/tidelock/tidelock/zzlaws_suites_b1.FnSaTransformsAreTheCallersOwn", spec := "fnSaTransformsAreTheCallersOwn", apart := false }
def FnSaTransformsAreTheCallersOwnSaid : Prop := fnSaTransformsAreTheCallersOwnRow.holds Try.pinned (OpenSpec.ofChange fnSaTransformsAreTheCallersOwnSpec)

/-- ITS FALSE NEIGHBOUR: 'it returns false'. Refute it at one input. -/
def fnSaTransformsAreTheCallersOwnWrong : ChangeSpec := { name := "fnSaTransformsAreTheCallersOwn", fn := fun _ => fun
  | [d1, d2, d3, d4] => { results := [.lit (.bool false)], args := [d1, d2, d3, d4] }
  | _ => none }
def FnSaTransformsAreTheCallersOwnWrongFalsely : Prop := fnSaTransformsAreTheCallersOwnRow.holds Try.pinned (OpenSpec.ofChange fnSaTransformsAreTheCallersOwnWrong)

end Rows
end Go.Proofs.Qxb6600910a
