/-
  DERIVED. GIVEN WITH THE SEED: THE CARDS: each row of YtddpfkcofmfmpaaGreatDoorRows.lean that lists a variable, with what it lists TIED to the program's text (the seventh form; the later family's looks); each row that meets fmt, with fmt's text TOLD by the authors' own Lean function (tested against real Go, not proved from fmt's source: count such statements apart). THE CARD IS WHAT COUNTS. Prove the row's statement (the work); the ties are given (YtddpfkcofmfmpaaGreatDoorTie.lean); close each card by the builder's one call (the guide's Derived/Test/ToyasCard.lean, 'card_holds'). Laid BY PROGRAM, IN A SANDBOX (cutbox-door.mjs). By AI agents, Wed Nov 11 2026. No macro, syntax, notation, axiom, sorry.
-/
import Derived.Test.YtddpfkcofmfmpaaGreatDoorRows
import GoSem.ClaimSeven
namespace Go.Proofs.YtddpfkcofmfmpaaGreatDoor
namespace Rows

/-- THE TIED CARD OF 'laws.FnAgain'. -/
def fnAgainCard : Claim7 := { stood := { row := fnAgainRow, standIns := [], harness := (true, "90126d0d88ad080e19404430648cf5f7fba61eeb2d65f4e3e95714f42eea46f3"), looks := false }, kinds := [], alts := [], laidByText := true, laidKinds := [.data], laidTests := true, laidLooks := .later }
def FnAgainCardSaid : Prop := Claim7.holds Tryz.pinned (.plain (OpenSpec.ofChange fnAgainSpec)) fnAgainCard

/-- THE TIED CARD OF 'laws.FnBoth'. -/
def fnBothCard : Claim7 := { stood := { row := fnBothRow, standIns := [], harness := (true, "90126d0d88ad080e19404430648cf5f7fba61eeb2d65f4e3e95714f42eea46f3"), looks := false }, kinds := [], alts := [], laidByText := true, laidKinds := [.data], laidTests := true, laidLooks := .later }
def FnBothCardSaid : Prop := Claim7.holds Tryz.pinned (.plain (OpenSpec.ofChange fnBothSpec)) fnBothCard

/-- THE TIED CARD OF 'laws.FnChurn'. -/
def fnChurnCard : Claim7 := { stood := { row := fnChurnRow, standIns := [], harness := (true, "90126d0d88ad080e19404430648cf5f7fba61eeb2d65f4e3e95714f42eea46f3"), looks := false }, kinds := [], alts := [], laidByText := true, laidKinds := [.data], laidTests := true, laidLooks := .later }
def FnChurnCardSaid : Prop := Claim7.holds Tryz.pinned (.plain (OpenSpec.ofChange fnChurnSpec)) fnChurnCard

/-- THE TIED CARD OF 'laws.FnCleared'. -/
def fnClearedCard : Claim7 := { stood := { row := fnClearedRow, standIns := [], harness := (true, "90126d0d88ad080e19404430648cf5f7fba61eeb2d65f4e3e95714f42eea46f3"), looks := false }, kinds := [], alts := [], laidByText := true, laidKinds := [.data], laidTests := true, laidLooks := .later }
def FnClearedCardSaid : Prop := Claim7.holds Tryz.pinned (.plain (OpenSpec.ofChange fnClearedSpec)) fnClearedCard

/-- THE TIED CARD OF 'laws.FnHash'. -/
def fnHashCard : Claim7 := { stood := { row := fnHashRow, standIns := [], harness := (true, "90126d0d88ad080e19404430648cf5f7fba61eeb2d65f4e3e95714f42eea46f3"), looks := false }, kinds := [], alts := [], laidByText := true, laidKinds := [.data], laidTests := true, laidLooks := .later }
def FnHashCardSaid : Prop := Claim7.holds Tryz.pinned (.plain (OpenSpec.ofChange fnHashSpec)) fnHashCard

/-- THE TIED CARD OF 'laws.FnLast'. -/
def fnLastCard : Claim7 := { stood := { row := fnLastRow, standIns := [], harness := (true, "90126d0d88ad080e19404430648cf5f7fba61eeb2d65f4e3e95714f42eea46f3"), looks := false }, kinds := [], alts := [], laidByText := true, laidKinds := [.data], laidTests := true, laidLooks := .later }
def FnLastCardSaid : Prop := Claim7.holds Tryz.pinned (.plain (OpenSpec.ofChange fnLastSpec)) fnLastCard

/-- THE TIED CARD OF 'laws.FnNoNumbers'. -/
def fnNoNumbersCard : Claim7 := { stood := { row := fnNoNumbersRow, standIns := [], harness := (true, "90126d0d88ad080e19404430648cf5f7fba61eeb2d65f4e3e95714f42eea46f3"), looks := false }, kinds := [], alts := [], laidByText := true, laidKinds := [.data], laidTests := true, laidLooks := .later }
def FnNoNumbersCardSaid : Prop := Claim7.holds Tryz.pinned (.plain (OpenSpec.ofChange fnNoNumbersSpec)) fnNoNumbersCard

/-- THE TIED CARD OF 'laws.FnNothing'. -/
def fnNothingCard : Claim7 := { stood := { row := fnNothingRow, standIns := [], harness := (true, "90126d0d88ad080e19404430648cf5f7fba61eeb2d65f4e3e95714f42eea46f3"), looks := false }, kinds := [], alts := [], laidByText := true, laidKinds := [.data], laidTests := true, laidLooks := .later }
def FnNothingCardSaid : Prop := Claim7.holds Tryz.pinned (.plain (OpenSpec.ofChange fnNothingSpec)) fnNothingCard

/-- THE TIED CARD OF 'laws.FnOrder'. -/
def fnOrderCard : Claim7 := { stood := { row := fnOrderRow, standIns := [], harness := (true, "90126d0d88ad080e19404430648cf5f7fba61eeb2d65f4e3e95714f42eea46f3"), looks := false }, kinds := [], alts := [], laidByText := true, laidKinds := [.data], laidTests := true, laidLooks := .later }
def FnOrderCardSaid : Prop := Claim7.holds Tryz.pinned (.plain (OpenSpec.ofChange fnOrderSpec)) fnOrderCard

/-- THE TIED CARD OF 'laws.FnReturned'. -/
def fnReturnedCard : Claim7 := { stood := { row := fnReturnedRow, standIns := [], harness := (true, "90126d0d88ad080e19404430648cf5f7fba61eeb2d65f4e3e95714f42eea46f3"), looks := false }, kinds := [], alts := [], laidByText := true, laidKinds := [.data], laidTests := true, laidLooks := .later }
def FnReturnedCardSaid : Prop := Claim7.holds Tryz.pinned (.plain (OpenSpec.ofChange fnReturnedSpec)) fnReturnedCard

/-- THE TIED CARD OF 'laws.FnScript'. -/
def fnScriptCard : Claim7 := { stood := { row := fnScriptRow, standIns := [], harness := (true, "90126d0d88ad080e19404430648cf5f7fba61eeb2d65f4e3e95714f42eea46f3"), looks := false }, kinds := [], alts := [], laidByText := true, laidKinds := [.data], laidTests := true, laidLooks := .later }
def FnScriptCardSaid : Prop := Claim7.holds Tryz.pinned (.plain (OpenSpec.ofChange fnScriptSpec)) fnScriptCard

/-- THE TIED CARD OF 'laws.FnWhileGrowing'. -/
def fnWhileGrowingCard : Claim7 := { stood := { row := fnWhileGrowingRow, standIns := [], harness := (true, "90126d0d88ad080e19404430648cf5f7fba61eeb2d65f4e3e95714f42eea46f3"), looks := false }, kinds := [], alts := [], laidByText := true, laidKinds := [.data], laidTests := true, laidLooks := .later }
def FnWhileGrowingCardSaid : Prop := Claim7.holds Tryz.pinned (.plain (OpenSpec.ofChange fnWhileGrowingSpec)) fnWhileGrowingCard

/-- THE TIED CARD OF 'laws.FnWhileShrinking'. -/
def fnWhileShrinkingCard : Claim7 := { stood := { row := fnWhileShrinkingRow, standIns := [], harness := (true, "90126d0d88ad080e19404430648cf5f7fba61eeb2d65f4e3e95714f42eea46f3"), looks := false }, kinds := [], alts := [], laidByText := true, laidKinds := [.data], laidTests := true, laidLooks := .later }
def FnWhileShrinkingCardSaid : Prop := Claim7.holds Tryz.pinned (.plain (OpenSpec.ofChange fnWhileShrinkingSpec)) fnWhileShrinkingCard

/-- THE TIED CARD OF 'laws.FnWhole'. -/
def fnWholeCard : Claim7 := { stood := { row := fnWholeRow, standIns := [], harness := (true, "90126d0d88ad080e19404430648cf5f7fba61eeb2d65f4e3e95714f42eea46f3"), looks := false }, kinds := [], alts := [], laidByText := true, laidKinds := [.data], laidTests := true, laidLooks := .later }
def FnWholeCardSaid : Prop := Claim7.holds Tryz.pinned (.plain (OpenSpec.ofChange fnWholeSpec)) fnWholeCard

/-- THE TIED CARD OF 'laws.FnZeroes'. -/
def fnZeroesCard : Claim7 := { stood := { row := fnZeroesRow, standIns := [], harness := (true, "90126d0d88ad080e19404430648cf5f7fba61eeb2d65f4e3e95714f42eea46f3"), looks := false }, kinds := [], alts := [], laidByText := true, laidKinds := [.data], laidTests := true, laidLooks := .later }
def FnZeroesCardSaid : Prop := Claim7.holds Tryz.pinned (.plain (OpenSpec.ofChange fnZeroesSpec)) fnZeroesCard

/-- THE SECOND FORM's CARD OF 'laws.FnAgain'. -/
def fnAgainUptoCard : Claim7 := { stood := { row := fnAgainUptoRow, standIns := [], harness := (true, "90126d0d88ad080e19404430648cf5f7fba61eeb2d65f4e3e95714f42eea46f3"), looks := false }, kinds := [], alts := [], laidByText := true, laidKinds := [.data], laidTests := true, laidLooks := .later }
def FnAgainUptoCardSaid : Prop := Claim7.holds Tryz.pinned (.plain (OpenSpec.upto fnAgainSpec)) fnAgainUptoCard

/-- THE SECOND FORM's CARD OF 'laws.FnBoth'. -/
def fnBothUptoCard : Claim7 := { stood := { row := fnBothUptoRow, standIns := [], harness := (true, "90126d0d88ad080e19404430648cf5f7fba61eeb2d65f4e3e95714f42eea46f3"), looks := false }, kinds := [], alts := [], laidByText := true, laidKinds := [.data], laidTests := true, laidLooks := .later }
def FnBothUptoCardSaid : Prop := Claim7.holds Tryz.pinned (.plain (OpenSpec.upto fnBothSpec)) fnBothUptoCard

/-- THE SECOND FORM's CARD OF 'laws.FnChurn'. -/
def fnChurnUptoCard : Claim7 := { stood := { row := fnChurnUptoRow, standIns := [], harness := (true, "90126d0d88ad080e19404430648cf5f7fba61eeb2d65f4e3e95714f42eea46f3"), looks := false }, kinds := [], alts := [], laidByText := true, laidKinds := [.data], laidTests := true, laidLooks := .later }
def FnChurnUptoCardSaid : Prop := Claim7.holds Tryz.pinned (.plain (OpenSpec.upto fnChurnSpec)) fnChurnUptoCard

/-- THE SECOND FORM's CARD OF 'laws.FnCleared'. -/
def fnClearedUptoCard : Claim7 := { stood := { row := fnClearedUptoRow, standIns := [], harness := (true, "90126d0d88ad080e19404430648cf5f7fba61eeb2d65f4e3e95714f42eea46f3"), looks := false }, kinds := [], alts := [], laidByText := true, laidKinds := [.data], laidTests := true, laidLooks := .later }
def FnClearedUptoCardSaid : Prop := Claim7.holds Tryz.pinned (.plain (OpenSpec.upto fnClearedSpec)) fnClearedUptoCard

/-- THE SECOND FORM's CARD OF 'laws.FnHash'. -/
def fnHashUptoCard : Claim7 := { stood := { row := fnHashUptoRow, standIns := [], harness := (true, "90126d0d88ad080e19404430648cf5f7fba61eeb2d65f4e3e95714f42eea46f3"), looks := false }, kinds := [], alts := [], laidByText := true, laidKinds := [.data], laidTests := true, laidLooks := .later }
def FnHashUptoCardSaid : Prop := Claim7.holds Tryz.pinned (.plain (OpenSpec.upto fnHashSpec)) fnHashUptoCard

/-- THE SECOND FORM's CARD OF 'laws.FnLast'. -/
def fnLastUptoCard : Claim7 := { stood := { row := fnLastUptoRow, standIns := [], harness := (true, "90126d0d88ad080e19404430648cf5f7fba61eeb2d65f4e3e95714f42eea46f3"), looks := false }, kinds := [], alts := [], laidByText := true, laidKinds := [.data], laidTests := true, laidLooks := .later }
def FnLastUptoCardSaid : Prop := Claim7.holds Tryz.pinned (.plain (OpenSpec.upto fnLastSpec)) fnLastUptoCard

/-- THE SECOND FORM's CARD OF 'laws.FnNoNumbers'. -/
def fnNoNumbersUptoCard : Claim7 := { stood := { row := fnNoNumbersUptoRow, standIns := [], harness := (true, "90126d0d88ad080e19404430648cf5f7fba61eeb2d65f4e3e95714f42eea46f3"), looks := false }, kinds := [], alts := [], laidByText := true, laidKinds := [.data], laidTests := true, laidLooks := .later }
def FnNoNumbersUptoCardSaid : Prop := Claim7.holds Tryz.pinned (.plain (OpenSpec.upto fnNoNumbersSpec)) fnNoNumbersUptoCard

/-- THE SECOND FORM's CARD OF 'laws.FnNothing'. -/
def fnNothingUptoCard : Claim7 := { stood := { row := fnNothingUptoRow, standIns := [], harness := (true, "90126d0d88ad080e19404430648cf5f7fba61eeb2d65f4e3e95714f42eea46f3"), looks := false }, kinds := [], alts := [], laidByText := true, laidKinds := [.data], laidTests := true, laidLooks := .later }
def FnNothingUptoCardSaid : Prop := Claim7.holds Tryz.pinned (.plain (OpenSpec.upto fnNothingSpec)) fnNothingUptoCard

/-- THE SECOND FORM's CARD OF 'laws.FnOrder'. -/
def fnOrderUptoCard : Claim7 := { stood := { row := fnOrderUptoRow, standIns := [], harness := (true, "90126d0d88ad080e19404430648cf5f7fba61eeb2d65f4e3e95714f42eea46f3"), looks := false }, kinds := [], alts := [], laidByText := true, laidKinds := [.data], laidTests := true, laidLooks := .later }
def FnOrderUptoCardSaid : Prop := Claim7.holds Tryz.pinned (.plain (OpenSpec.upto fnOrderSpec)) fnOrderUptoCard

/-- THE SECOND FORM's CARD OF 'laws.FnReturned'. -/
def fnReturnedUptoCard : Claim7 := { stood := { row := fnReturnedUptoRow, standIns := [], harness := (true, "90126d0d88ad080e19404430648cf5f7fba61eeb2d65f4e3e95714f42eea46f3"), looks := false }, kinds := [], alts := [], laidByText := true, laidKinds := [.data], laidTests := true, laidLooks := .later }
def FnReturnedUptoCardSaid : Prop := Claim7.holds Tryz.pinned (.plain (OpenSpec.upto fnReturnedSpec)) fnReturnedUptoCard

/-- THE SECOND FORM's CARD OF 'laws.FnScript'. -/
def fnScriptUptoCard : Claim7 := { stood := { row := fnScriptUptoRow, standIns := [], harness := (true, "90126d0d88ad080e19404430648cf5f7fba61eeb2d65f4e3e95714f42eea46f3"), looks := false }, kinds := [], alts := [], laidByText := true, laidKinds := [.data], laidTests := true, laidLooks := .later }
def FnScriptUptoCardSaid : Prop := Claim7.holds Tryz.pinned (.plain (OpenSpec.upto fnScriptSpec)) fnScriptUptoCard

/-- THE SECOND FORM's CARD OF 'laws.FnWhileGrowing'. -/
def fnWhileGrowingUptoCard : Claim7 := { stood := { row := fnWhileGrowingUptoRow, standIns := [], harness := (true, "90126d0d88ad080e19404430648cf5f7fba61eeb2d65f4e3e95714f42eea46f3"), looks := false }, kinds := [], alts := [], laidByText := true, laidKinds := [.data], laidTests := true, laidLooks := .later }
def FnWhileGrowingUptoCardSaid : Prop := Claim7.holds Tryz.pinned (.plain (OpenSpec.upto fnWhileGrowingSpec)) fnWhileGrowingUptoCard

/-- THE SECOND FORM's CARD OF 'laws.FnWhileShrinking'. -/
def fnWhileShrinkingUptoCard : Claim7 := { stood := { row := fnWhileShrinkingUptoRow, standIns := [], harness := (true, "90126d0d88ad080e19404430648cf5f7fba61eeb2d65f4e3e95714f42eea46f3"), looks := false }, kinds := [], alts := [], laidByText := true, laidKinds := [.data], laidTests := true, laidLooks := .later }
def FnWhileShrinkingUptoCardSaid : Prop := Claim7.holds Tryz.pinned (.plain (OpenSpec.upto fnWhileShrinkingSpec)) fnWhileShrinkingUptoCard

/-- THE SECOND FORM's CARD OF 'laws.FnWhole'. -/
def fnWholeUptoCard : Claim7 := { stood := { row := fnWholeUptoRow, standIns := [], harness := (true, "90126d0d88ad080e19404430648cf5f7fba61eeb2d65f4e3e95714f42eea46f3"), looks := false }, kinds := [], alts := [], laidByText := true, laidKinds := [.data], laidTests := true, laidLooks := .later }
def FnWholeUptoCardSaid : Prop := Claim7.holds Tryz.pinned (.plain (OpenSpec.upto fnWholeSpec)) fnWholeUptoCard

/-- THE SECOND FORM's CARD OF 'laws.FnZeroes'. -/
def fnZeroesUptoCard : Claim7 := { stood := { row := fnZeroesUptoRow, standIns := [], harness := (true, "90126d0d88ad080e19404430648cf5f7fba61eeb2d65f4e3e95714f42eea46f3"), looks := false }, kinds := [], alts := [], laidByText := true, laidKinds := [.data], laidTests := true, laidLooks := .later }
def FnZeroesUptoCardSaid : Prop := Claim7.holds Tryz.pinned (.plain (OpenSpec.upto fnZeroesSpec)) fnZeroesUptoCard
end Rows
end Go.Proofs.YtddpfkcofmfmpaaGreatDoor
