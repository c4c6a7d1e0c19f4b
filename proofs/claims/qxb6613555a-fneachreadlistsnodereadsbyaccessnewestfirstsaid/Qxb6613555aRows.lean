/-
  No cell of these rows narrows 'for every input' (looked for: loops, veiled, ifaces, maps, wideKeys, modest, calm, conditions, laid).
  DERIVED. THE GIVEN ROWS OF THIS SEAT. 6 by the template 'for every input the law returns true; each argument reads behind the call as it read before'; 0 by the template 'total and deterministic' (their statements: Qxb6613555aTotals.lean).
  GIVEN WITH THE SEED: the statements are not yours to turn. If you find one false, say at which input.
  Laid BY PROGRAM, IN A SANDBOX (cutbox-rows.mjs): the forced cells as the released guide's own fill.sh prints them over the translation 293e81310a2f4d28… (all of the seat's roots in one cut). By AI agents, Wed Nov 11 2026. No macro, syntax, notation, axiom, sorry.
-/
import Derived.Test.Qxb6613555aChecked
import GoSem.Claim
import GoSem.ClaimJoined
import GoSem.ClaimMapViews
import Derived.JoinedTies
import Derived.KernelRfl
namespace Go.Proofs.Qxb6613555a
/- THE CELL 'sum', in the pinned program and in every row, IS THE sha256 OF THE DUMP (.gsa) THAT Qxb6613555aProg.lean LOADS. Nothing in Lean hashes anything: it is a label: what it is worth is what the hold of that sum in a sandbox is worth. -/
noncomputable def Try.pinned : Pinned := { name := "qxb6613555a", sum := "293e81310a2f4d28556c09f53ec0df0c03e8c3e89090993f3874db40d95d01bc", checked := Try.checked }
namespace Rows
def none {H : Type} : Left H := { results := [], args := [] }

/-- 'zzlaws_root_b1.FnLearnDenseKeepsEachKeyInItsOwnOrderedSlot': WHATEVER THE INPUT: true; the input reads as it did. -/
def fnLearnDenseKeepsEachKeyInItsOwnOrderedSlotSpec : ChangeSpec := { name := "fnLearnDenseKeepsEachKeyInItsOwnOrderedSlot", fn := fun _ => fun
  | [d1, d2, d3, d4, d5, d6, d7, d8, d9, d10, d11] => { results := [.lit (.bool true)], args := [d1, d2, d3, d4, d5, d6, d7, d8, d9, d10, d11] }
  | _ => none }
def fnLearnDenseKeepsEachKeyInItsOwnOrderedSlotRow : OpenClaim := { program := "qxb6613555a", sum := "293e81310a2f4d28556c09f53ec0df0c03e8c3e89090993f3874db40d95d01bc", func := "example.com/serialine/serialine/zzlaws_root_b1.FnLearnDenseKeepsEachKeyInItsOwnOrderedSlot", spec := "fnLearnDenseKeepsEachKeyInItsOwnOrderedSlot", apart := false }
def FnLearnDenseKeepsEachKeyInItsOwnOrderedSlotSaid : Prop := fnLearnDenseKeepsEachKeyInItsOwnOrderedSlotRow.holds Try.pinned (OpenSpec.ofChange fnLearnDenseKeepsEachKeyInItsOwnOrderedSlotSpec)

/-- ITS FALSE NEIGHBOUR: 'it returns false'. Refute it at one input. -/
def fnLearnDenseKeepsEachKeyInItsOwnOrderedSlotWrong : ChangeSpec := { name := "fnLearnDenseKeepsEachKeyInItsOwnOrderedSlot", fn := fun _ => fun
  | [d1, d2, d3, d4, d5, d6, d7, d8, d9, d10, d11] => { results := [.lit (.bool false)], args := [d1, d2, d3, d4, d5, d6, d7, d8, d9, d10, d11] }
  | _ => none }
def FnLearnDenseKeepsEachKeyInItsOwnOrderedSlotWrongFalsely : Prop := fnLearnDenseKeepsEachKeyInItsOwnOrderedSlotRow.holds Try.pinned (OpenSpec.ofChange fnLearnDenseKeepsEachKeyInItsOwnOrderedSlotWrong)

/-- 'zzlaws_root_b1.FnLearnKeepsTheLatestOfAClassUnderOneKeyInEveryTable': WHATEVER THE INPUT: true; the input reads as it did. -/
def fnLearnKeepsTheLatestOfAClassUnderOneKeyInEveryTableSpec : ChangeSpec := { name := "fnLearnKeepsTheLatestOfAClassUnderOneKeyInEveryTable", fn := fun _ => fun
  | [d1, d2, d3, d4, d5, d6, d7, d8, d9] => { results := [.lit (.bool true)], args := [d1, d2, d3, d4, d5, d6, d7, d8, d9] }
  | _ => none }
def fnLearnKeepsTheLatestOfAClassUnderOneKeyInEveryTableRow : OpenClaim := { program := "qxb6613555a", sum := "293e81310a2f4d28556c09f53ec0df0c03e8c3e89090993f3874db40d95d01bc", func := "example.com/serialine/serialine/zzlaws_root_b1.FnLearnKeepsTheLatestOfAClassUnderOneKeyInEveryTable", spec := "fnLearnKeepsTheLatestOfAClassUnderOneKeyInEveryTable", apart := false }
def FnLearnKeepsTheLatestOfAClassUnderOneKeyInEveryTableSaid : Prop := fnLearnKeepsTheLatestOfAClassUnderOneKeyInEveryTableRow.holds Try.pinned (OpenSpec.ofChange fnLearnKeepsTheLatestOfAClassUnderOneKeyInEveryTableSpec)

/-- ITS FALSE NEIGHBOUR: 'it returns false'. Refute it at one input. -/
def fnLearnKeepsTheLatestOfAClassUnderOneKeyInEveryTableWrong : ChangeSpec := { name := "fnLearnKeepsTheLatestOfAClassUnderOneKeyInEveryTable", fn := fun _ => fun
  | [d1, d2, d3, d4, d5, d6, d7, d8, d9] => { results := [.lit (.bool false)], args := [d1, d2, d3, d4, d5, d6, d7, d8, d9] }
  | _ => none }
def FnLearnKeepsTheLatestOfAClassUnderOneKeyInEveryTableWrongFalsely : Prop := fnLearnKeepsTheLatestOfAClassUnderOneKeyInEveryTableRow.holds Try.pinned (OpenSpec.ofChange fnLearnKeepsTheLatestOfAClassUnderOneKeyInEveryTableWrong)

/-- 'zzlaws_root_b1.FnEachReadListsNodeReadsByAccessNewestFirst': WHATEVER THE INPUT: true; the input reads as it did. -/
def fnEachReadListsNodeReadsByAccessNewestFirstSpec : ChangeSpec := { name := "fnEachReadListsNodeReadsByAccessNewestFirst", fn := fun _ => fun
  | [d1, d2, d3] => { results := [.lit (.bool true)], args := [d1, d2, d3] }
  | _ => none }
def fnEachReadListsNodeReadsByAccessNewestFirstRow : OpenClaim := { program := "qxb6613555a", sum := "293e81310a2f4d28556c09f53ec0df0c03e8c3e89090993f3874db40d95d01bc", func := "example.com/serialine/serialine/zzlaws_root_b1.FnEachReadListsNodeReadsByAccessNewestFirst", spec := "fnEachReadListsNodeReadsByAccessNewestFirst", unfollowed := true, recurses := true, apart := false }
def FnEachReadListsNodeReadsByAccessNewestFirstSaid : Prop := fnEachReadListsNodeReadsByAccessNewestFirstRow.holds Try.pinned (OpenSpec.ofChange fnEachReadListsNodeReadsByAccessNewestFirstSpec)

/-- ITS FALSE NEIGHBOUR: 'it returns false'. Refute it at one input. -/
def fnEachReadListsNodeReadsByAccessNewestFirstWrong : ChangeSpec := { name := "fnEachReadListsNodeReadsByAccessNewestFirst", fn := fun _ => fun
  | [d1, d2, d3] => { results := [.lit (.bool false)], args := [d1, d2, d3] }
  | _ => none }
def FnEachReadListsNodeReadsByAccessNewestFirstWrongFalsely : Prop := fnEachReadListsNodeReadsByAccessNewestFirstRow.holds Try.pinned (OpenSpec.ofChange fnEachReadListsNodeReadsByAccessNewestFirstWrong)

/-- 'zzlaws_root_b1.FnEachReadTakesANewReadAtTheHeadOfItsAccess': WHATEVER THE INPUT: true; the input reads as it did. -/
def fnEachReadTakesANewReadAtTheHeadOfItsAccessSpec : ChangeSpec := { name := "fnEachReadTakesANewReadAtTheHeadOfItsAccess", fn := fun _ => fun
  | [d1, d2, d3] => { results := [.lit (.bool true)], args := [d1, d2, d3] }
  | _ => none }
def fnEachReadTakesANewReadAtTheHeadOfItsAccessRow : OpenClaim := { program := "qxb6613555a", sum := "293e81310a2f4d28556c09f53ec0df0c03e8c3e89090993f3874db40d95d01bc", func := "example.com/serialine/serialine/zzlaws_root_b1.FnEachReadTakesANewReadAtTheHeadOfItsAccess", spec := "fnEachReadTakesANewReadAtTheHeadOfItsAccess", unfollowed := true, recurses := true, apart := false }
def FnEachReadTakesANewReadAtTheHeadOfItsAccessSaid : Prop := fnEachReadTakesANewReadAtTheHeadOfItsAccessRow.holds Try.pinned (OpenSpec.ofChange fnEachReadTakesANewReadAtTheHeadOfItsAccessSpec)

/-- ITS FALSE NEIGHBOUR: 'it returns false'. Refute it at one input. -/
def fnEachReadTakesANewReadAtTheHeadOfItsAccessWrong : ChangeSpec := { name := "fnEachReadTakesANewReadAtTheHeadOfItsAccess", fn := fun _ => fun
  | [d1, d2, d3] => { results := [.lit (.bool false)], args := [d1, d2, d3] }
  | _ => none }
def FnEachReadTakesANewReadAtTheHeadOfItsAccessWrongFalsely : Prop := fnEachReadTakesANewReadAtTheHeadOfItsAccessRow.holds Try.pinned (OpenSpec.ofChange fnEachReadTakesANewReadAtTheHeadOfItsAccessWrong)

/-- 'zzlaws_root_b1.FnReleaseMadeFreesEveryHeldReadInWaitOrder': WHATEVER THE INPUT: true; the input reads as it did. -/
def fnReleaseMadeFreesEveryHeldReadInWaitOrderSpec : ChangeSpec := { name := "fnReleaseMadeFreesEveryHeldReadInWaitOrder", fn := fun _ => fun
  | [d1, d2, d3, d4, d5, d6] => { results := [.lit (.bool true)], args := [d1, d2, d3, d4, d5, d6] }
  | _ => none }
def fnReleaseMadeFreesEveryHeldReadInWaitOrderRow : OpenClaim := { program := "qxb6613555a", sum := "293e81310a2f4d28556c09f53ec0df0c03e8c3e89090993f3874db40d95d01bc", func := "example.com/serialine/serialine/zzlaws_root_b1.FnReleaseMadeFreesEveryHeldReadInWaitOrder", spec := "fnReleaseMadeFreesEveryHeldReadInWaitOrder", unfollowed := true, recurses := true, apart := false }
def FnReleaseMadeFreesEveryHeldReadInWaitOrderSaid : Prop := fnReleaseMadeFreesEveryHeldReadInWaitOrderRow.holds Try.pinned (OpenSpec.ofChange fnReleaseMadeFreesEveryHeldReadInWaitOrderSpec)

/-- ITS FALSE NEIGHBOUR: 'it returns false'. Refute it at one input. -/
def fnReleaseMadeFreesEveryHeldReadInWaitOrderWrong : ChangeSpec := { name := "fnReleaseMadeFreesEveryHeldReadInWaitOrder", fn := fun _ => fun
  | [d1, d2, d3, d4, d5, d6] => { results := [.lit (.bool false)], args := [d1, d2, d3, d4, d5, d6] }
  | _ => none }
def FnReleaseMadeFreesEveryHeldReadInWaitOrderWrongFalsely : Prop := fnReleaseMadeFreesEveryHeldReadInWaitOrderRow.holds Try.pinned (OpenSpec.ofChange fnReleaseMadeFreesEveryHeldReadInWaitOrderWrong)

/-- 'zzlaws_root_b1.FnReleaseMadeIsFreeOfTheOrderVersionsWereMade': WHATEVER THE INPUT: true; the input reads as it did. -/
def fnReleaseMadeIsFreeOfTheOrderVersionsWereMadeSpec : ChangeSpec := { name := "fnReleaseMadeIsFreeOfTheOrderVersionsWereMade", fn := fun _ => fun
  | [d1, d2, d3, d4, d5, d6] => { results := [.lit (.bool true)], args := [d1, d2, d3, d4, d5, d6] }
  | _ => none }
def fnReleaseMadeIsFreeOfTheOrderVersionsWereMadeRow : OpenClaim := { program := "qxb6613555a", sum := "293e81310a2f4d28556c09f53ec0df0c03e8c3e89090993f3874db40d95d01bc", func := "example.com/serialine/serialine/zzlaws_root_b1.FnReleaseMadeIsFreeOfTheOrderVersionsWereMade", spec := "fnReleaseMadeIsFreeOfTheOrderVersionsWereMade", unfollowed := true, recurses := true, apart := false }
def FnReleaseMadeIsFreeOfTheOrderVersionsWereMadeSaid : Prop := fnReleaseMadeIsFreeOfTheOrderVersionsWereMadeRow.holds Try.pinned (OpenSpec.ofChange fnReleaseMadeIsFreeOfTheOrderVersionsWereMadeSpec)

/-- ITS FALSE NEIGHBOUR: 'it returns false'. Refute it at one input. -/
def fnReleaseMadeIsFreeOfTheOrderVersionsWereMadeWrong : ChangeSpec := { name := "fnReleaseMadeIsFreeOfTheOrderVersionsWereMade", fn := fun _ => fun
  | [d1, d2, d3, d4, d5, d6] => { results := [.lit (.bool false)], args := [d1, d2, d3, d4, d5, d6] }
  | _ => none }
def FnReleaseMadeIsFreeOfTheOrderVersionsWereMadeWrongFalsely : Prop := fnReleaseMadeIsFreeOfTheOrderVersionsWereMadeRow.holds Try.pinned (OpenSpec.ofChange fnReleaseMadeIsFreeOfTheOrderVersionsWereMadeWrong)

end Rows
end Go.Proofs.Qxb6613555a
