/-
  NARROWER THAN 'FOR EVERY INPUT', by the rows' own cells (each row's printed sentence says how): FnUnclosedReportsOutermost: laid.
  DERIVED. THE GIVEN ROWS OF THIS SEAT. 1 by the template 'for every input the law returns true; each argument reads behind the call as it read before'; 0 by the template 'total and deterministic' (their statements: Qxb6608686aDoorTotals.lean).
  GIVEN WITH THE SEED: the statements are not yours to turn. If you find one false, say at which input.
  Laid BY PROGRAM, IN A SANDBOX (cutbox-rows.mjs): the forced cells as the released guide's own fill.sh prints them over the translation 6ec66dfc45e84ffd… (all of the seat's roots in one cut). By AI agents, Wed Nov 11 2026. No macro, syntax, notation, axiom, sorry.
-/
import Derived.Test.Qxb6608686aDoorChecked
import GoSem.Claim
import GoSem.ClaimJoined
import GoSem.ClaimMapViews
import Derived.JoinedTies
import Derived.KernelRfl
namespace Go.Proofs.Qxb6608686aDoor
/- THE CELL 'sum', in the pinned program and in every row, IS THE sha256 OF THE DUMP (.gsa) THAT Qxb6608686aDoorProg.lean LOADS. Nothing in Lean hashes anything: it is a label: what it is worth is what the hold of that sum in a sandbox is worth. -/
noncomputable def Tryd.pinned : Pinned := { name := "qxb6608686adoor", sum := "6ec66dfc45e84ffd5a0b1c8efe715be19a4ce1b13ae8afc161eb626e12a005fd", checked := Tryd.checked }
namespace Rows
def none {H : Type} : Left H := { results := [], args := [] }

/- WHAT THE LISTED PACKAGE-LEVEL VARIABLES READ AS WHEN THE CALL BEGINS. Each datum BY PROGRAM (the guide's laid-datum.mjs) off the statement by which the dump's own 'gosem.cut.vars' lays the variable. In a bare row this is a premise. The card (Qxb6608686aDoorCards.lean) ties it to the program's text. -/
def laid_example_com_korvaus_korvaus_keywords {H : Type} : DataW H := .agg [.agg [.lit (.string []), .lit (.int .u8 0), .lit (.int .u8 0), .lit (.bool false)], .agg [.lit (.string [105, 102, 100, 101, 102]), .lit (.int .u8 1), .lit (.int .u8 1), .lit (.bool false)], .agg [.lit (.string [105, 102, 110, 100, 101, 102]), .lit (.int .u8 1), .lit (.int .u8 1), .lit (.bool true)], .agg [.lit (.string [105, 102, 115, 101, 116]), .lit (.int .u8 1), .lit (.int .u8 2), .lit (.bool false)], .agg [.lit (.string [105, 102, 110, 115, 101, 116]), .lit (.int .u8 1), .lit (.int .u8 2), .lit (.bool true)], .agg [.lit (.string [105, 102, 116, 114, 117, 101]), .lit (.int .u8 1), .lit (.int .u8 3), .lit (.bool false)], .agg [.lit (.string [105, 102, 102, 97, 108, 115, 101]), .lit (.int .u8 1), .lit (.int .u8 3), .lit (.bool true)], .agg [.lit (.string [101, 108, 115, 101]), .lit (.int .u8 2), .lit (.int .u8 0), .lit (.bool false)], .agg [.lit (.string [101, 110, 100, 105, 102]), .lit (.int .u8 3), .lit (.int .u8 0), .lit (.bool false)]]

/-- 'zzlaws_root_b1.FnUnclosedReportsOutermost': WHATEVER THE INPUT: true; the input reads as it did. -/
def fnUnclosedReportsOutermostSpec : ChangeSpec := { name := "fnUnclosedReportsOutermost", vars := ["example.com/korvaus/korvaus.keywords"], fn := fun _ => fun
  | [d1, d2, d3, d4, g1] => { results := [.lit (.bool true)], args := [d1, d2, d3, d4], vars := [g1] }
  | _ => none }
def fnUnclosedReportsOutermostRow : OpenClaim := { program := "qxb6608686adoor", sum := "6ec66dfc45e84ffd5a0b1c8efe715be19a4ce1b13ae8afc161eb626e12a005fd", func := "example.com/korvaus/korvaus/zzlaws_root_b1.FnUnclosedReportsOutermost", spec := "fnUnclosedReportsOutermost", named := ["example.com/korvaus/korvaus.keywords"], apart := false, laid := [("example.com/korvaus/korvaus.keywords", laid_example_com_korvaus_korvaus_keywords)] }
def FnUnclosedReportsOutermostSaid : Prop := fnUnclosedReportsOutermostRow.holds Tryd.pinned (OpenSpec.ofChange fnUnclosedReportsOutermostSpec)

/-- ITS FALSE NEIGHBOUR: 'it returns false'. Refute it at one input. -/
def fnUnclosedReportsOutermostWrong : ChangeSpec := { name := "fnUnclosedReportsOutermost", vars := ["example.com/korvaus/korvaus.keywords"], fn := fun _ => fun
  | [d1, d2, d3, d4, g1] => { results := [.lit (.bool false)], args := [d1, d2, d3, d4], vars := [g1] }
  | _ => none }
def FnUnclosedReportsOutermostWrongFalsely : Prop := fnUnclosedReportsOutermostRow.holds Tryd.pinned (OpenSpec.ofChange fnUnclosedReportsOutermostWrong)

end Rows
end Go.Proofs.Qxb6608686aDoor
