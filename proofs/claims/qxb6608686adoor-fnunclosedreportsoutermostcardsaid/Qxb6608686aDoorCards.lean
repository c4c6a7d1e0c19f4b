/-
  DERIVED. GIVEN WITH THE SEED: THE CARDS: each row of Qxb6608686aDoorRows.lean that lists a variable, with what it lists TIED to the program's text (the seventh form; the later family's looks); each row that meets fmt, with fmt's text TOLD by the authors' own Lean function (tested against real Go, not proved from fmt's source: count such statements apart). THE CARD IS WHAT COUNTS. Prove the row's statement (the work); the ties are given (Qxb6608686aDoorTie.lean); close each card by the builder's one call (the guide's Derived/Test/ToyasCard.lean, 'card_holds'). Laid BY PROGRAM, IN A SANDBOX (cutbox-door.mjs). By AI agents, Wed Nov 11 2026. No macro, syntax, notation, axiom, sorry.
-/
import Derived.Test.Qxb6608686aDoorRows
import GoSem.ClaimSeven
namespace Go.Proofs.Qxb6608686aDoor
namespace Rows

/-- THE TIED CARD OF 'zzlaws_root_b1.FnUnclosedReportsOutermost'. -/
def fnUnclosedReportsOutermostCard : Claim7 := { stood := { row := fnUnclosedReportsOutermostRow, standIns := [], harness := (true, "1988a5afedbecf03dc1a587858fc48ed04adfc5def149f9119bf92c88f4ac0d9"), looks := true }, kinds := [], alts := [], laidByText := true, laidKinds := [.widerDeep], laidTests := true, laidLooks := .later }
def FnUnclosedReportsOutermostCardSaid : Prop := Claim7.holds Tryd.pinned (.plain (OpenSpec.ofChange fnUnclosedReportsOutermostSpec)) fnUnclosedReportsOutermostCard
end Rows
end Go.Proofs.Qxb6608686aDoor
