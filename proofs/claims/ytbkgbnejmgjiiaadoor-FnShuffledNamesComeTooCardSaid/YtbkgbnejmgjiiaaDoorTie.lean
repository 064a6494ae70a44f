/-
  DERIVED. GIVEN WITH THE SEED: THE PROGRAM's TIES (one call each: nine closed facts by the kernel) AND EACH ROW's TIE, after the 31st guide's Derived/Test/Toyas{Tie, Card}.lean. No idea stands in it: it is a product of the set-up. Laid BY PROGRAM, IN A SANDBOX (cutbox-door.mjs). By AI agents, Wed Nov 11 2026. No macro, syntax, notation, axiom, sorry.
-/
import Derived.Test.YtbkgbnejmgjiiaaDoorRows
import Derived.LaidByTextLater
import Derived.SevenTiedAt
import Derived.LaidSub
import Derived.LaidOnce
namespace Go.Proofs.YtbkgbnejmgjiiaaDoor
open Go
set_option maxRecDepth 100000
theorem seatTie1 : Tryd.prog.laidByTextLater [("namesandsymbols/pub/esbuild/inner/ast.InvalidRef", Rows.laid_namesandsymbols_pub_esbuild_inner_ast_InvalidRef), ("namesandsymbols/pub/esbuild/inner/ast.DefaultNameMinifierJS", Rows.laid_namesandsymbols_pub_esbuild_inner_ast_DefaultNameMinifierJS), ("namesandsymbols/pub/esbuild/inner/ast.DefaultNameMinifierCSS", Rows.laid_namesandsymbols_pub_esbuild_inner_ast_DefaultNameMinifierCSS)] [.data, .data, .data] true :=
  Program.laidByTextLater_by_one 24 8 3 (by kernel_rfl) (by kernel_rfl) (by kernel_rfl) (by kernel_rfl) (by kernel_rfl) (by kernel_rfl) (fun _ _ => by kernel_rfl)
theorem noOwnUnsafe : Tryd.pinned.checked.prog.headLifts.contains "ownunsafe" = false := by kernel_rfl
theorem tie : Tryd.prog.laidByTextLater [("namesandsymbols/pub/esbuild/inner/ast.DefaultNameMinifierJS", Rows.laid_namesandsymbols_pub_esbuild_inner_ast_DefaultNameMinifierJS), ("namesandsymbols/pub/esbuild/inner/ast.DefaultNameMinifierCSS", Rows.laid_namesandsymbols_pub_esbuild_inner_ast_DefaultNameMinifierCSS)] [.data, .data] true :=
  Program.laidByTextLater.sub seatTie1 ["namesandsymbols/pub/esbuild/inner/ast.DefaultNameMinifierJS", "namesandsymbols/pub/esbuild/inner/ast.DefaultNameMinifierCSS"] (by kernel_rfl) (by kernel_rfl)
theorem fnEveryNameComes_row_tie : Rows.fnEveryNameComesRow.laidByTextAt .later Tryd.pinned [.data, .data] true :=
  OpenClaim.laidByTextAt_later rfl rfl tie noOwnUnsafe
theorem fnNamesAreNames_row_tie : Rows.fnNamesAreNamesRow.laidByTextAt .later Tryd.pinned [.data, .data] true :=
  OpenClaim.laidByTextAt_later rfl rfl tie noOwnUnsafe
theorem fnGreatestOfBoth_row_tie : Rows.fnGreatestOfBothRow.laidByTextAt .later Tryd.pinned [.data, .data] true :=
  OpenClaim.laidByTextAt_later rfl rfl tie noOwnUnsafe
theorem fnIndexComesBack_row_tie : Rows.fnIndexComesBackRow.laidByTextAt .later Tryd.pinned [.data, .data] true :=
  OpenClaim.laidByTextAt_later rfl rfl tie noOwnUnsafe
theorem fnCountsAddUp_row_tie : Rows.fnCountsAddUpRow.laidByTextAt .later Tryd.pinned [.data, .data] true :=
  OpenClaim.laidByTextAt_later rfl rfl tie noOwnUnsafe
theorem fnNothingCountedIsTheSame_row_tie : Rows.fnNothingCountedIsTheSameRow.laidByTextAt .later Tryd.pinned [.data, .data] true :=
  OpenClaim.laidByTextAt_later rfl rfl tie noOwnUnsafe
theorem fnShuffledNamesComeToo_row_tie : Rows.fnShuffledNamesComeTooRow.laidByTextAt .later Tryd.pinned [.data, .data] true :=
  OpenClaim.laidByTextAt_later rfl rfl tie noOwnUnsafe
theorem fnTakingBackIsNothing_row_tie : Rows.fnTakingBackIsNothingRow.laidByTextAt .later Tryd.pinned [.data, .data] true :=
  OpenClaim.laidByTextAt_later rfl rfl tie noOwnUnsafe
theorem tie2 : Tryd.prog.laidByTextLater [("namesandsymbols/pub/esbuild/inner/ast.InvalidRef", Rows.laid_namesandsymbols_pub_esbuild_inner_ast_InvalidRef), ("namesandsymbols/pub/esbuild/inner/ast.DefaultNameMinifierJS", Rows.laid_namesandsymbols_pub_esbuild_inner_ast_DefaultNameMinifierJS), ("namesandsymbols/pub/esbuild/inner/ast.DefaultNameMinifierCSS", Rows.laid_namesandsymbols_pub_esbuild_inner_ast_DefaultNameMinifierCSS)] [.data, .data, .data] true :=
  Program.laidByTextLater.sub seatTie1 ["namesandsymbols/pub/esbuild/inner/ast.InvalidRef", "namesandsymbols/pub/esbuild/inner/ast.DefaultNameMinifierJS", "namesandsymbols/pub/esbuild/inner/ast.DefaultNameMinifierCSS"] (by kernel_rfl) (by kernel_rfl)
theorem fnFollowingChangesNothing_row_tie : Rows.fnFollowingChangesNothingRow.laidByTextAt .later Tryd.pinned [.data, .data, .data] true :=
  OpenClaim.laidByTextAt_later rfl rfl tie2 noOwnUnsafe
theorem fnSymbolsAreFollowed_row_tie : Rows.fnSymbolsAreFollowedRow.laidByTextAt .later Tryd.pinned [.data, .data, .data] true :=
  OpenClaim.laidByTextAt_later rfl rfl tie2 noOwnUnsafe
theorem fnUsesAddUp_row_tie : Rows.fnUsesAddUpRow.laidByTextAt .later Tryd.pinned [.data, .data, .data] true :=
  OpenClaim.laidByTextAt_later rfl rfl tie2 noOwnUnsafe
theorem fnEveryNameComesUpto_row_tie : Rows.fnEveryNameComesUptoRow.laidByTextAt .later Tryd.pinned [.data, .data] true :=
  OpenClaim.laidByTextAt_later rfl rfl tie noOwnUnsafe
theorem fnNamesAreNamesUpto_row_tie : Rows.fnNamesAreNamesUptoRow.laidByTextAt .later Tryd.pinned [.data, .data] true :=
  OpenClaim.laidByTextAt_later rfl rfl tie noOwnUnsafe
theorem fnGreatestOfBothUpto_row_tie : Rows.fnGreatestOfBothUptoRow.laidByTextAt .later Tryd.pinned [.data, .data] true :=
  OpenClaim.laidByTextAt_later rfl rfl tie noOwnUnsafe
theorem fnIndexComesBackUpto_row_tie : Rows.fnIndexComesBackUptoRow.laidByTextAt .later Tryd.pinned [.data, .data] true :=
  OpenClaim.laidByTextAt_later rfl rfl tie noOwnUnsafe
theorem fnCountsAddUpUpto_row_tie : Rows.fnCountsAddUpUptoRow.laidByTextAt .later Tryd.pinned [.data, .data] true :=
  OpenClaim.laidByTextAt_later rfl rfl tie noOwnUnsafe
theorem fnFollowingChangesNothingUpto_row_tie : Rows.fnFollowingChangesNothingUptoRow.laidByTextAt .later Tryd.pinned [.data, .data, .data] true :=
  OpenClaim.laidByTextAt_later rfl rfl tie2 noOwnUnsafe
theorem fnSymbolsAreFollowedUpto_row_tie : Rows.fnSymbolsAreFollowedUptoRow.laidByTextAt .later Tryd.pinned [.data, .data, .data] true :=
  OpenClaim.laidByTextAt_later rfl rfl tie2 noOwnUnsafe
theorem fnUsesAddUpUpto_row_tie : Rows.fnUsesAddUpUptoRow.laidByTextAt .later Tryd.pinned [.data, .data, .data] true :=
  OpenClaim.laidByTextAt_later rfl rfl tie2 noOwnUnsafe
theorem fnNothingCountedIsTheSameUpto_row_tie : Rows.fnNothingCountedIsTheSameUptoRow.laidByTextAt .later Tryd.pinned [.data, .data] true :=
  OpenClaim.laidByTextAt_later rfl rfl tie noOwnUnsafe
theorem fnShuffledNamesComeTooUpto_row_tie : Rows.fnShuffledNamesComeTooUptoRow.laidByTextAt .later Tryd.pinned [.data, .data] true :=
  OpenClaim.laidByTextAt_later rfl rfl tie noOwnUnsafe
theorem fnTakingBackIsNothingUpto_row_tie : Rows.fnTakingBackIsNothingUptoRow.laidByTextAt .later Tryd.pinned [.data, .data] true :=
  OpenClaim.laidByTextAt_later rfl rfl tie noOwnUnsafe
end Go.Proofs.YtbkgbnejmgjiiaaDoor
