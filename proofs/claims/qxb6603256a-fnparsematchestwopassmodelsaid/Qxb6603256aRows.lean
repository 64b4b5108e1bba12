/-
  No cell of these rows narrows 'for every input' (looked for: loops, veiled, ifaces, maps, wideKeys, modest, calm, conditions, laid).
  DERIVED. THE GIVEN ROWS OF THIS SEAT. 3 by the template 'for every input the law returns true; each argument reads behind the call as it read before'; 0 by the template 'total and deterministic' (their statements: Qxb6603256aTotals.lean).
  GIVEN WITH THE SEED: the statements are not yours to turn. If you find one false, say at which input.
  Laid BY PROGRAM, IN A SANDBOX (cutbox-rows.mjs): the forced cells as the released guide's own fill.sh prints them over the translation 6c743e022e3fea13… (all of the seat's roots in one cut). By AI agents, Wed Nov 11 2026. No macro, syntax, notation, axiom, sorry.
-/
import Derived.Test.Qxb6603256aChecked
import GoSem.Claim
import GoSem.ClaimJoined
import GoSem.ClaimMapViews
import Derived.JoinedTies
import Derived.KernelRfl
namespace Go.Proofs.Qxb6603256a
/- THE CELL 'sum', in the pinned program and in every row, IS THE sha256 OF THE DUMP (.gsa) THAT Qxb6603256aProg.lean LOADS. Nothing in Lean hashes anything: it is a label: what it is worth is what the hold of that sum in a sandbox is worth. -/
noncomputable def Try.pinned : Pinned := { name := "qxb6603256a", sum := "6c743e022e3fea13cb3e0bf32ed540e6cc071e3577d134294a3ecd5b41d106a4", checked := Try.checked }
namespace Rows
def none {H : Type} : Left H := { results := [], args := [] }

/-- 'zzlaws_internal_backup_b1.FnParseMatchesTwoPassModel': WHATEVER THE INPUT: true; the input reads as it did. -/
def fnParseMatchesTwoPassModelSpec : ChangeSpec := { name := "fnParseMatchesTwoPassModel", fn := fun _ => fun
  | [d] => { results := [.lit (.bool true)], args := [d] }
  | _ => none }
def fnParseMatchesTwoPassModelRow : OpenClaim := { program := "qxb6603256a", sum := "6c743e022e3fea13cb3e0bf32ed540e6cc071e3577d134294a3ecd5b41d106a4", func := "example.com/ticklock/ticklock/zzlaws_internal_backup_b1.FnParseMatchesTwoPassModel", spec := "fnParseMatchesTwoPassModel", apart := false }
def FnParseMatchesTwoPassModelSaid : Prop := fnParseMatchesTwoPassModelRow.holds Try.pinned (OpenSpec.ofChange fnParseMatchesTwoPassModelSpec)

/-- ITS FALSE NEIGHBOUR: 'it returns false'. Refute it at one input. -/
def fnParseMatchesTwoPassModelWrong : ChangeSpec := { name := "fnParseMatchesTwoPassModel", fn := fun _ => fun
  | [d] => { results := [.lit (.bool false)], args := [d] }
  | _ => none }
def FnParseMatchesTwoPassModelWrongFalsely : Prop := fnParseMatchesTwoPassModelRow.holds Try.pinned (OpenSpec.ofChange fnParseMatchesTwoPassModelWrong)

/-- 'zzlaws_internal_backup_b1.FnParseResultIsCanonicalAndReparses': WHATEVER THE INPUT: true; the input reads as it did. -/
def fnParseResultIsCanonicalAndReparsesSpec : ChangeSpec := { name := "fnParseResultIsCanonicalAndReparses", fn := fun _ => fun
  | [d] => { results := [.lit (.bool true)], args := [d] }
  | _ => none }
def fnParseResultIsCanonicalAndReparsesRow : OpenClaim := { program := "qxb6603256a", sum := "6c743e022e3fea13cb3e0bf32ed540e6cc071e3577d134294a3ecd5b41d106a4", func := "example.com/ticklock/ticklock/zzlaws_internal_backup_b1.FnParseResultIsCanonicalAndReparses", spec := "fnParseResultIsCanonicalAndReparses", apart := false }
def FnParseResultIsCanonicalAndReparsesSaid : Prop := fnParseResultIsCanonicalAndReparsesRow.holds Try.pinned (OpenSpec.ofChange fnParseResultIsCanonicalAndReparsesSpec)

/-- ITS FALSE NEIGHBOUR: 'it returns false'. Refute it at one input. -/
def fnParseResultIsCanonicalAndReparsesWrong : ChangeSpec := { name := "fnParseResultIsCanonicalAndReparses", fn := fun _ => fun
  | [d] => { results := [.lit (.bool false)], args := [d] }
  | _ => none }
def FnParseResultIsCanonicalAndReparsesWrongFalsely : Prop := fnParseResultIsCanonicalAndReparsesRow.holds Try.pinned (OpenSpec.ofChange fnParseResultIsCanonicalAndReparsesWrong)

/-- 'zzlaws_internal_backup_b1.FnParseBlindToAnInsertedSeparator': WHATEVER THE INPUT: true; the input reads as it did. -/
def fnParseBlindToAnInsertedSeparatorSpec : ChangeSpec := { name := "fnParseBlindToAnInsertedSeparator", fn := fun _ => fun
  | [d1, d2, d3] => { results := [.lit (.bool true)], args := [d1, d2, d3] }
  | _ => none }
def fnParseBlindToAnInsertedSeparatorRow : OpenClaim := { program := "qxb6603256a", sum := "6c743e022e3fea13cb3e0bf32ed540e6cc071e3577d134294a3ecd5b41d106a4", func := "example.com/ticklock/ticklock/zzlaws_internal_backup_b1.FnParseBlindToAnInsertedSeparator", spec := "fnParseBlindToAnInsertedSeparator", apart := false }
def FnParseBlindToAnInsertedSeparatorSaid : Prop := fnParseBlindToAnInsertedSeparatorRow.holds Try.pinned (OpenSpec.ofChange fnParseBlindToAnInsertedSeparatorSpec)

/-- ITS FALSE NEIGHBOUR: 'it returns false'. Refute it at one input. -/
def fnParseBlindToAnInsertedSeparatorWrong : ChangeSpec := { name := "fnParseBlindToAnInsertedSeparator", fn := fun _ => fun
  | [d1, d2, d3] => { results := [.lit (.bool false)], args := [d1, d2, d3] }
  | _ => none }
def FnParseBlindToAnInsertedSeparatorWrongFalsely : Prop := fnParseBlindToAnInsertedSeparatorRow.holds Try.pinned (OpenSpec.ofChange fnParseBlindToAnInsertedSeparatorWrong)

end Rows
end Go.Proofs.Qxb6603256a
