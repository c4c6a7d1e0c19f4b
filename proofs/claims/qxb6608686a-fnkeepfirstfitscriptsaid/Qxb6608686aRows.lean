/-
  No cell of these rows narrows 'for every input' (looked for: loops, veiled, ifaces, maps, wideKeys, modest, calm, conditions, laid).
  DERIVED. THE GIVEN ROWS OF THIS SEAT. 6 by the template 'for every input the law returns true; each argument reads behind the call as it read before'; 0 by the template 'total and deterministic' (their statements: Qxb6608686aTotals.lean).
  GIVEN WITH THE SEED: the statements are not yours to turn. If you find one false, say at which input.
  Laid BY PROGRAM, IN A SANDBOX (cutbox-rows.mjs): the forced cells as the released guide's own fill.sh prints them over the translation ffc0d4f19a9a3ca0… (all of the seat's roots in one cut). By AI agents, Wed Nov 11 2026. No macro, syntax, notation, axiom, sorry.
-/
import Derived.Test.Qxb6608686aChecked
import GoSem.Claim
import GoSem.ClaimJoined
import GoSem.ClaimMapViews
import Derived.JoinedTies
import Derived.KernelRfl
namespace Go.Proofs.Qxb6608686a
/- THE CELL 'sum', in the pinned program and in every row, IS THE sha256 OF THE DUMP (.gsa) THAT Qxb6608686aProg.lean LOADS. Nothing in Lean hashes anything: it is a label: what it is worth is what the hold of that sum in a sandbox is worth. -/
noncomputable def Try.pinned : Pinned := { name := "qxb6608686a", sum := "ffc0d4f19a9a3ca0c0bf69cfd6a707f9ed02c89e9862e9fb5436461f1644136e", checked := Try.checked }
namespace Rows
def none {H : Type} : Left H := { results := [], args := [] }

/-- 'zzlaws_root_b1.FnForwardIsBitReversedDFT': WHATEVER THE INPUT: true; the input reads as it did. -/
def fnForwardIsBitReversedDFTSpec : ChangeSpec := { name := "fnForwardIsBitReversedDFT", fn := fun _ => fun
  | [d] => { results := [.lit (.bool true)], args := [d] }
  | _ => none }
def fnForwardIsBitReversedDFTRow : OpenClaim := { program := "qxb6608686a", sum := "ffc0d4f19a9a3ca0c0bf69cfd6a707f9ed02c89e9862e9fb5436461f1644136e", func := "example.com/korvaus/korvaus/zzlaws_root_b1.FnForwardIsBitReversedDFT", spec := "fnForwardIsBitReversedDFT", apart := false }
def FnForwardIsBitReversedDFTSaid : Prop := fnForwardIsBitReversedDFTRow.holds Try.pinned (OpenSpec.ofChange fnForwardIsBitReversedDFTSpec)

/-- ITS FALSE NEIGHBOUR: 'it returns false'. Refute it at one input. -/
def fnForwardIsBitReversedDFTWrong : ChangeSpec := { name := "fnForwardIsBitReversedDFT", fn := fun _ => fun
  | [d] => { results := [.lit (.bool false)], args := [d] }
  | _ => none }
def FnForwardIsBitReversedDFTWrongFalsely : Prop := fnForwardIsBitReversedDFTRow.holds Try.pinned (OpenSpec.ofChange fnForwardIsBitReversedDFTWrong)

/-- 'zzlaws_root_b1.FnForwardShiftTheorem': WHATEVER THE INPUT: true; the input reads as it did. -/
def fnForwardShiftTheoremSpec : ChangeSpec := { name := "fnForwardShiftTheorem", fn := fun _ => fun
  | [d] => { results := [.lit (.bool true)], args := [d] }
  | _ => none }
def fnForwardShiftTheoremRow : OpenClaim := { program := "qxb6608686a", sum := "ffc0d4f19a9a3ca0c0bf69cfd6a707f9ed02c89e9862e9fb5436461f1644136e", func := "example.com/korvaus/korvaus/zzlaws_root_b1.FnForwardShiftTheorem", spec := "fnForwardShiftTheorem", apart := false }
def FnForwardShiftTheoremSaid : Prop := fnForwardShiftTheoremRow.holds Try.pinned (OpenSpec.ofChange fnForwardShiftTheoremSpec)

/-- ITS FALSE NEIGHBOUR: 'it returns false'. Refute it at one input. -/
def fnForwardShiftTheoremWrong : ChangeSpec := { name := "fnForwardShiftTheorem", fn := fun _ => fun
  | [d] => { results := [.lit (.bool false)], args := [d] }
  | _ => none }
def FnForwardShiftTheoremWrongFalsely : Prop := fnForwardShiftTheoremRow.holds Try.pinned (OpenSpec.ofChange fnForwardShiftTheoremWrong)

/-- 'zzlaws_root_b1.FnUnreadOneMoreCharacter': WHATEVER THE INPUT: true; the input reads as it did. -/
def fnUnreadOneMoreCharacterSpec : ChangeSpec := { name := "fnUnreadOneMoreCharacter", fn := fun _ => fun
  | [d1, d2, d3, d4, d5] => { results := [.lit (.bool true)], args := [d1, d2, d3, d4, d5] }
  | _ => none }
def fnUnreadOneMoreCharacterRow : OpenClaim := { program := "qxb6608686a", sum := "ffc0d4f19a9a3ca0c0bf69cfd6a707f9ed02c89e9862e9fb5436461f1644136e", func := "example.com/korvaus/korvaus/zzlaws_root_b1.FnUnreadOneMoreCharacter", spec := "fnUnreadOneMoreCharacter", apart := false }
def FnUnreadOneMoreCharacterSaid : Prop := fnUnreadOneMoreCharacterRow.holds Try.pinned (OpenSpec.ofChange fnUnreadOneMoreCharacterSpec)

/-- ITS FALSE NEIGHBOUR: 'it returns false'. Refute it at one input. -/
def fnUnreadOneMoreCharacterWrong : ChangeSpec := { name := "fnUnreadOneMoreCharacter", fn := fun _ => fun
  | [d1, d2, d3, d4, d5] => { results := [.lit (.bool false)], args := [d1, d2, d3, d4, d5] }
  | _ => none }
def FnUnreadOneMoreCharacterWrongFalsely : Prop := fnUnreadOneMoreCharacterRow.holds Try.pinned (OpenSpec.ofChange fnUnreadOneMoreCharacterWrong)

/-- 'zzlaws_root_b1.FnUnreadShiftAndBounds': WHATEVER THE INPUT: true; the input reads as it did. -/
def fnUnreadShiftAndBoundsSpec : ChangeSpec := { name := "fnUnreadShiftAndBounds", fn := fun _ => fun
  | [d1, d2, d3, d4, d5] => { results := [.lit (.bool true)], args := [d1, d2, d3, d4, d5] }
  | _ => none }
def fnUnreadShiftAndBoundsRow : OpenClaim := { program := "qxb6608686a", sum := "ffc0d4f19a9a3ca0c0bf69cfd6a707f9ed02c89e9862e9fb5436461f1644136e", func := "example.com/korvaus/korvaus/zzlaws_root_b1.FnUnreadShiftAndBounds", spec := "fnUnreadShiftAndBounds", apart := false }
def FnUnreadShiftAndBoundsSaid : Prop := fnUnreadShiftAndBoundsRow.holds Try.pinned (OpenSpec.ofChange fnUnreadShiftAndBoundsSpec)

/-- ITS FALSE NEIGHBOUR: 'it returns false'. Refute it at one input. -/
def fnUnreadShiftAndBoundsWrong : ChangeSpec := { name := "fnUnreadShiftAndBounds", fn := fun _ => fun
  | [d1, d2, d3, d4, d5] => { results := [.lit (.bool false)], args := [d1, d2, d3, d4, d5] }
  | _ => none }
def FnUnreadShiftAndBoundsWrongFalsely : Prop := fnUnreadShiftAndBoundsRow.holds Try.pinned (OpenSpec.ofChange fnUnreadShiftAndBoundsWrong)

/-- 'zzlaws_root_b1.FnKeepThenLetGo': WHATEVER THE INPUT: true; the input reads as it did. -/
def fnKeepThenLetGoSpec : ChangeSpec := { name := "fnKeepThenLetGo", fn := fun _ => fun
  | [d1, d2, d3, d4] => { results := [.lit (.bool true)], args := [d1, d2, d3, d4] }
  | _ => none }
def fnKeepThenLetGoRow : OpenClaim := { program := "qxb6608686a", sum := "ffc0d4f19a9a3ca0c0bf69cfd6a707f9ed02c89e9862e9fb5436461f1644136e", func := "example.com/korvaus/korvaus/zzlaws_root_b1.FnKeepThenLetGo", spec := "fnKeepThenLetGo", apart := false }
def FnKeepThenLetGoSaid : Prop := fnKeepThenLetGoRow.holds Try.pinned (OpenSpec.ofChange fnKeepThenLetGoSpec)

/-- ITS FALSE NEIGHBOUR: 'it returns false'. Refute it at one input. -/
def fnKeepThenLetGoWrong : ChangeSpec := { name := "fnKeepThenLetGo", fn := fun _ => fun
  | [d1, d2, d3, d4] => { results := [.lit (.bool false)], args := [d1, d2, d3, d4] }
  | _ => none }
def FnKeepThenLetGoWrongFalsely : Prop := fnKeepThenLetGoRow.holds Try.pinned (OpenSpec.ofChange fnKeepThenLetGoWrong)

/-- 'zzlaws_root_b1.FnKeepFirstFitScript': WHATEVER THE INPUT: true; the input reads as it did. -/
def fnKeepFirstFitScriptSpec : ChangeSpec := { name := "fnKeepFirstFitScript", fn := fun _ => fun
  | [d] => { results := [.lit (.bool true)], args := [d] }
  | _ => none }
def fnKeepFirstFitScriptRow : OpenClaim := { program := "qxb6608686a", sum := "ffc0d4f19a9a3ca0c0bf69cfd6a707f9ed02c89e9862e9fb5436461f1644136e", func := "example.com/korvaus/korvaus/zzlaws_root_b1.FnKeepFirstFitScript", spec := "fnKeepFirstFitScript", apart := false }
def FnKeepFirstFitScriptSaid : Prop := fnKeepFirstFitScriptRow.holds Try.pinned (OpenSpec.ofChange fnKeepFirstFitScriptSpec)

/-- ITS FALSE NEIGHBOUR: 'it returns false'. Refute it at one input. -/
def fnKeepFirstFitScriptWrong : ChangeSpec := { name := "fnKeepFirstFitScript", fn := fun _ => fun
  | [d] => { results := [.lit (.bool false)], args := [d] }
  | _ => none }
def FnKeepFirstFitScriptWrongFalsely : Prop := fnKeepFirstFitScriptRow.holds Try.pinned (OpenSpec.ofChange fnKeepFirstFitScriptWrong)

end Rows
end Go.Proofs.Qxb6608686a
