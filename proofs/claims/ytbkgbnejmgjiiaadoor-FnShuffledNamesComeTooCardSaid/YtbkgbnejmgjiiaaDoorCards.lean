/-
  DERIVED. GIVEN WITH THE SEED: THE CARDS: each row of YtbkgbnejmgjiiaaDoorRows.lean that lists a variable, with what it lists TIED to the program's text (the seventh form; the later family's looks); each row that meets fmt, with fmt's text TOLD by the authors' own Lean function (tested against real Go, not proved from fmt's source: count such statements apart). THE CARD IS WHAT COUNTS. Prove the row's statement (the work); the ties are given (YtbkgbnejmgjiiaaDoorTie.lean); close each card by the builder's one call (the guide's Derived/Test/ToyasCard.lean, 'card_holds'). Laid BY PROGRAM, IN A SANDBOX (cutbox-door.mjs). By AI agents, Wed Nov 11 2026. No macro, syntax, notation, axiom, sorry.
-/
import Derived.Test.YtbkgbnejmgjiiaaDoorRows
import GoSem.ClaimSeven
namespace Go.Proofs.YtbkgbnejmgjiiaaDoor
namespace Rows

/-- THE TIED CARD OF 'laws.FnEveryNameComes'. -/
def fnEveryNameComesCard : Claim7 := { stood := { row := fnEveryNameComesRow, standIns := [], harness := (true, "78fec81a17ac46b5a55a125ee35d72d1a9da678c0b58de7860e9b3552de28561"), looks := false }, kinds := [], alts := [], laidByText := true, laidKinds := [.data, .data], laidTests := true, laidLooks := .later }
def FnEveryNameComesCardSaid : Prop := Claim7.holds Tryd.pinned (.plain (OpenSpec.ofChange fnEveryNameComesSpec)) fnEveryNameComesCard

/-- THE TIED CARD OF 'laws.FnNamesAreNames'. -/
def fnNamesAreNamesCard : Claim7 := { stood := { row := fnNamesAreNamesRow, standIns := [], harness := (true, "78fec81a17ac46b5a55a125ee35d72d1a9da678c0b58de7860e9b3552de28561"), looks := false }, kinds := [], alts := [], laidByText := true, laidKinds := [.data, .data], laidTests := true, laidLooks := .later }
def FnNamesAreNamesCardSaid : Prop := Claim7.holds Tryd.pinned (.plain (OpenSpec.ofChange fnNamesAreNamesSpec)) fnNamesAreNamesCard

/-- THE TIED CARD OF 'laws.FnGreatestOfBoth'. -/
def fnGreatestOfBothCard : Claim7 := { stood := { row := fnGreatestOfBothRow, standIns := [], harness := (true, "78fec81a17ac46b5a55a125ee35d72d1a9da678c0b58de7860e9b3552de28561"), looks := false }, kinds := [], alts := [], laidByText := true, laidKinds := [.data, .data], laidTests := true, laidLooks := .later }
def FnGreatestOfBothCardSaid : Prop := Claim7.holds Tryd.pinned (.plain (OpenSpec.ofChange fnGreatestOfBothSpec)) fnGreatestOfBothCard

/-- THE TIED CARD OF 'laws.FnIndexComesBack'. -/
def fnIndexComesBackCard : Claim7 := { stood := { row := fnIndexComesBackRow, standIns := [], harness := (true, "78fec81a17ac46b5a55a125ee35d72d1a9da678c0b58de7860e9b3552de28561"), looks := false }, kinds := [], alts := [], laidByText := true, laidKinds := [.data, .data], laidTests := true, laidLooks := .later }
def FnIndexComesBackCardSaid : Prop := Claim7.holds Tryd.pinned (.plain (OpenSpec.ofChange fnIndexComesBackSpec)) fnIndexComesBackCard

/-- THE TIED CARD OF 'laws.FnCountsAddUp'. -/
def fnCountsAddUpCard : Claim7 := { stood := { row := fnCountsAddUpRow, standIns := [], harness := (true, "78fec81a17ac46b5a55a125ee35d72d1a9da678c0b58de7860e9b3552de28561"), looks := false }, kinds := [], alts := [], laidByText := true, laidKinds := [.data, .data], laidTests := true, laidLooks := .later }
def FnCountsAddUpCardSaid : Prop := Claim7.holds Tryd.pinned (.plain (OpenSpec.ofChange fnCountsAddUpSpec)) fnCountsAddUpCard

/-- THE TIED CARD OF 'laws.FnFollowingChangesNothing'. -/
def fnFollowingChangesNothingCard : Claim7 := { stood := { row := fnFollowingChangesNothingRow, standIns := [], harness := (true, "78fec81a17ac46b5a55a125ee35d72d1a9da678c0b58de7860e9b3552de28561"), looks := false }, kinds := [], alts := [], laidByText := true, laidKinds := [.data, .data, .data], laidTests := true, laidLooks := .later }
def FnFollowingChangesNothingCardSaid : Prop := Claim7.holds Tryd.pinned (.plain (OpenSpec.ofChange fnFollowingChangesNothingSpec)) fnFollowingChangesNothingCard

/-- THE TIED CARD OF 'laws.FnSymbolsAreFollowed'. -/
def fnSymbolsAreFollowedCard : Claim7 := { stood := { row := fnSymbolsAreFollowedRow, standIns := [], harness := (true, "78fec81a17ac46b5a55a125ee35d72d1a9da678c0b58de7860e9b3552de28561"), looks := false }, kinds := [], alts := [], laidByText := true, laidKinds := [.data, .data, .data], laidTests := true, laidLooks := .later }
def FnSymbolsAreFollowedCardSaid : Prop := Claim7.holds Tryd.pinned (.plain (OpenSpec.ofChange fnSymbolsAreFollowedSpec)) fnSymbolsAreFollowedCard

/-- THE TIED CARD OF 'laws.FnUsesAddUp'. -/
def fnUsesAddUpCard : Claim7 := { stood := { row := fnUsesAddUpRow, standIns := [], harness := (true, "78fec81a17ac46b5a55a125ee35d72d1a9da678c0b58de7860e9b3552de28561"), looks := false }, kinds := [], alts := [], laidByText := true, laidKinds := [.data, .data, .data], laidTests := true, laidLooks := .later }
def FnUsesAddUpCardSaid : Prop := Claim7.holds Tryd.pinned (.plain (OpenSpec.ofChange fnUsesAddUpSpec)) fnUsesAddUpCard

/-- THE TIED CARD OF 'laws.FnNothingCountedIsTheSame'. -/
def fnNothingCountedIsTheSameCard : Claim7 := { stood := { row := fnNothingCountedIsTheSameRow, standIns := [], harness := (true, "78fec81a17ac46b5a55a125ee35d72d1a9da678c0b58de7860e9b3552de28561"), looks := false }, kinds := [], alts := [], laidByText := true, laidKinds := [.data, .data], laidTests := true, laidLooks := .later }
def FnNothingCountedIsTheSameCardSaid : Prop := Claim7.holds Tryd.pinned (.plain (OpenSpec.ofChange fnNothingCountedIsTheSameSpec)) fnNothingCountedIsTheSameCard

/-- THE TIED CARD OF 'laws.FnShuffledNamesComeToo'. -/
def fnShuffledNamesComeTooCard : Claim7 := { stood := { row := fnShuffledNamesComeTooRow, standIns := [], harness := (true, "78fec81a17ac46b5a55a125ee35d72d1a9da678c0b58de7860e9b3552de28561"), looks := false }, kinds := [], alts := [], laidByText := true, laidKinds := [.data, .data], laidTests := true, laidLooks := .later }
def FnShuffledNamesComeTooCardSaid : Prop := Claim7.holds Tryd.pinned (.plain (OpenSpec.ofChange fnShuffledNamesComeTooSpec)) fnShuffledNamesComeTooCard

/-- THE TIED CARD OF 'laws.FnTakingBackIsNothing'. -/
def fnTakingBackIsNothingCard : Claim7 := { stood := { row := fnTakingBackIsNothingRow, standIns := [], harness := (true, "78fec81a17ac46b5a55a125ee35d72d1a9da678c0b58de7860e9b3552de28561"), looks := false }, kinds := [], alts := [], laidByText := true, laidKinds := [.data, .data], laidTests := true, laidLooks := .later }
def FnTakingBackIsNothingCardSaid : Prop := Claim7.holds Tryd.pinned (.plain (OpenSpec.ofChange fnTakingBackIsNothingSpec)) fnTakingBackIsNothingCard

/-- THE SECOND FORM's CARD OF 'laws.FnEveryNameComes'. -/
def fnEveryNameComesUptoCard : Claim7 := { stood := { row := fnEveryNameComesUptoRow, standIns := [], harness := (true, "78fec81a17ac46b5a55a125ee35d72d1a9da678c0b58de7860e9b3552de28561"), looks := false }, kinds := [], alts := [], laidByText := true, laidKinds := [.data, .data], laidTests := true, laidLooks := .later }
def FnEveryNameComesUptoCardSaid : Prop := Claim7.holds Tryd.pinned (.plain (OpenSpec.upto fnEveryNameComesSpec)) fnEveryNameComesUptoCard

/-- THE SECOND FORM's CARD OF 'laws.FnNamesAreNames'. -/
def fnNamesAreNamesUptoCard : Claim7 := { stood := { row := fnNamesAreNamesUptoRow, standIns := [], harness := (true, "78fec81a17ac46b5a55a125ee35d72d1a9da678c0b58de7860e9b3552de28561"), looks := false }, kinds := [], alts := [], laidByText := true, laidKinds := [.data, .data], laidTests := true, laidLooks := .later }
def FnNamesAreNamesUptoCardSaid : Prop := Claim7.holds Tryd.pinned (.plain (OpenSpec.upto fnNamesAreNamesSpec)) fnNamesAreNamesUptoCard

/-- THE SECOND FORM's CARD OF 'laws.FnGreatestOfBoth'. -/
def fnGreatestOfBothUptoCard : Claim7 := { stood := { row := fnGreatestOfBothUptoRow, standIns := [], harness := (true, "78fec81a17ac46b5a55a125ee35d72d1a9da678c0b58de7860e9b3552de28561"), looks := false }, kinds := [], alts := [], laidByText := true, laidKinds := [.data, .data], laidTests := true, laidLooks := .later }
def FnGreatestOfBothUptoCardSaid : Prop := Claim7.holds Tryd.pinned (.plain (OpenSpec.upto fnGreatestOfBothSpec)) fnGreatestOfBothUptoCard

/-- THE SECOND FORM's CARD OF 'laws.FnIndexComesBack'. -/
def fnIndexComesBackUptoCard : Claim7 := { stood := { row := fnIndexComesBackUptoRow, standIns := [], harness := (true, "78fec81a17ac46b5a55a125ee35d72d1a9da678c0b58de7860e9b3552de28561"), looks := false }, kinds := [], alts := [], laidByText := true, laidKinds := [.data, .data], laidTests := true, laidLooks := .later }
def FnIndexComesBackUptoCardSaid : Prop := Claim7.holds Tryd.pinned (.plain (OpenSpec.upto fnIndexComesBackSpec)) fnIndexComesBackUptoCard

/-- THE SECOND FORM's CARD OF 'laws.FnCountsAddUp'. -/
def fnCountsAddUpUptoCard : Claim7 := { stood := { row := fnCountsAddUpUptoRow, standIns := [], harness := (true, "78fec81a17ac46b5a55a125ee35d72d1a9da678c0b58de7860e9b3552de28561"), looks := false }, kinds := [], alts := [], laidByText := true, laidKinds := [.data, .data], laidTests := true, laidLooks := .later }
def FnCountsAddUpUptoCardSaid : Prop := Claim7.holds Tryd.pinned (.plain (OpenSpec.upto fnCountsAddUpSpec)) fnCountsAddUpUptoCard

/-- THE SECOND FORM's CARD OF 'laws.FnFollowingChangesNothing'. -/
def fnFollowingChangesNothingUptoCard : Claim7 := { stood := { row := fnFollowingChangesNothingUptoRow, standIns := [], harness := (true, "78fec81a17ac46b5a55a125ee35d72d1a9da678c0b58de7860e9b3552de28561"), looks := false }, kinds := [], alts := [], laidByText := true, laidKinds := [.data, .data, .data], laidTests := true, laidLooks := .later }
def FnFollowingChangesNothingUptoCardSaid : Prop := Claim7.holds Tryd.pinned (.plain (OpenSpec.upto fnFollowingChangesNothingSpec)) fnFollowingChangesNothingUptoCard

/-- THE SECOND FORM's CARD OF 'laws.FnSymbolsAreFollowed'. -/
def fnSymbolsAreFollowedUptoCard : Claim7 := { stood := { row := fnSymbolsAreFollowedUptoRow, standIns := [], harness := (true, "78fec81a17ac46b5a55a125ee35d72d1a9da678c0b58de7860e9b3552de28561"), looks := false }, kinds := [], alts := [], laidByText := true, laidKinds := [.data, .data, .data], laidTests := true, laidLooks := .later }
def FnSymbolsAreFollowedUptoCardSaid : Prop := Claim7.holds Tryd.pinned (.plain (OpenSpec.upto fnSymbolsAreFollowedSpec)) fnSymbolsAreFollowedUptoCard

/-- THE SECOND FORM's CARD OF 'laws.FnUsesAddUp'. -/
def fnUsesAddUpUptoCard : Claim7 := { stood := { row := fnUsesAddUpUptoRow, standIns := [], harness := (true, "78fec81a17ac46b5a55a125ee35d72d1a9da678c0b58de7860e9b3552de28561"), looks := false }, kinds := [], alts := [], laidByText := true, laidKinds := [.data, .data, .data], laidTests := true, laidLooks := .later }
def FnUsesAddUpUptoCardSaid : Prop := Claim7.holds Tryd.pinned (.plain (OpenSpec.upto fnUsesAddUpSpec)) fnUsesAddUpUptoCard

/-- THE SECOND FORM's CARD OF 'laws.FnNothingCountedIsTheSame'. -/
def fnNothingCountedIsTheSameUptoCard : Claim7 := { stood := { row := fnNothingCountedIsTheSameUptoRow, standIns := [], harness := (true, "78fec81a17ac46b5a55a125ee35d72d1a9da678c0b58de7860e9b3552de28561"), looks := false }, kinds := [], alts := [], laidByText := true, laidKinds := [.data, .data], laidTests := true, laidLooks := .later }
def FnNothingCountedIsTheSameUptoCardSaid : Prop := Claim7.holds Tryd.pinned (.plain (OpenSpec.upto fnNothingCountedIsTheSameSpec)) fnNothingCountedIsTheSameUptoCard

/-- THE SECOND FORM's CARD OF 'laws.FnShuffledNamesComeToo'. -/
def fnShuffledNamesComeTooUptoCard : Claim7 := { stood := { row := fnShuffledNamesComeTooUptoRow, standIns := [], harness := (true, "78fec81a17ac46b5a55a125ee35d72d1a9da678c0b58de7860e9b3552de28561"), looks := false }, kinds := [], alts := [], laidByText := true, laidKinds := [.data, .data], laidTests := true, laidLooks := .later }
def FnShuffledNamesComeTooUptoCardSaid : Prop := Claim7.holds Tryd.pinned (.plain (OpenSpec.upto fnShuffledNamesComeTooSpec)) fnShuffledNamesComeTooUptoCard

/-- THE SECOND FORM's CARD OF 'laws.FnTakingBackIsNothing'. -/
def fnTakingBackIsNothingUptoCard : Claim7 := { stood := { row := fnTakingBackIsNothingUptoRow, standIns := [], harness := (true, "78fec81a17ac46b5a55a125ee35d72d1a9da678c0b58de7860e9b3552de28561"), looks := false }, kinds := [], alts := [], laidByText := true, laidKinds := [.data, .data], laidTests := true, laidLooks := .later }
def FnTakingBackIsNothingUptoCardSaid : Prop := Claim7.holds Tryd.pinned (.plain (OpenSpec.upto fnTakingBackIsNothingSpec)) fnTakingBackIsNothingUptoCard
end Rows
end Go.Proofs.YtbkgbnejmgjiiaaDoor
