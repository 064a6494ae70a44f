/-
  NARROWER THAN 'FOR EVERY INPUT', by the rows' own cells (each row's printed sentence says how): FnEveryNameComes: laid · FnNamesAreNames: laid · FnGreatestOfBoth: laid · FnIndexComesBack: laid · FnCountsAddUp: laid · FnFollowingChangesNothing: laid · FnSymbolsAreFollowed: laid · FnUsesAddUp: laid · FnNothingCountedIsTheSame: laid · FnShuffledNamesComeToo: laid · FnTakingBackIsNothing: laid.
  DERIVED. THE GIVEN ROWS OF THIS SEAT. 11 by the template 'for every input the law returns true; each argument reads behind the call as it read before'; 0 by the template 'total and deterministic' (their statements: YtbkgbnejmgjiiaaDoorTotals.lean).
  GIVEN WITH THE SEED: the statements are not yours to turn. If you find one false, say at which input.
  Laid BY PROGRAM, IN A SANDBOX (cutbox-rows.mjs): the forced cells as the released guide's own fill.sh prints them over the translation afd972afc0f89e1b… (all of the seat's roots in one cut). By AI agents, Wed Nov 11 2026. No macro, syntax, notation, axiom, sorry.
-/
import Derived.Test.YtbkgbnejmgjiiaaDoorChecked
import GoSem.Claim
import GoSem.ClaimJoined
import GoSem.ClaimMapViews
import Derived.JoinedTies
import Derived.KernelRfl
namespace Go.Proofs.YtbkgbnejmgjiiaaDoor
/- THE CELL 'sum', in the pinned program and in every row, IS THE sha256 OF THE DUMP (.gsa) THAT YtbkgbnejmgjiiaaDoorProg.lean LOADS. Nothing in Lean hashes anything: it is a label: what it is worth is what the hold of that sum in a sandbox is worth. -/
noncomputable def Tryd.pinned : Pinned := { name := "ytbkgbnejmgjiiaadoor", sum := "afd972afc0f89e1be09ff0f20ca12ce3d91bf3dc7d9e39b91787d53a3d37109a", checked := Tryd.checked }
namespace Rows
def none {H : Type} : Left H := { results := [], args := [] }

/- WHAT THE LISTED PACKAGE-LEVEL VARIABLES READ AS WHEN THE CALL BEGINS. Each datum BY PROGRAM (the guide's laid-datum.mjs) off the statement by which the dump's own 'gosem.cut.vars' lays the variable. In a bare row this is a premise. The card (YtbkgbnejmgjiiaaDoorCards.lean) ties it to the program's text. -/
def laid_namesandsymbols_pub_esbuild_inner_ast_DefaultNameMinifierJS {H : Type} : DataW H := .agg [.lit (.string [97, 98, 99, 100, 101, 102, 103, 104, 105, 106, 107, 108, 109, 110, 111, 112, 113, 114, 115, 116, 117, 118, 119, 120, 121, 122, 65, 66, 67, 68, 69, 70, 71, 72, 73, 74, 75, 76, 77, 78, 79, 80, 81, 82, 83, 84, 85, 86, 87, 88, 89, 90, 95, 36]), .lit (.string [97, 98, 99, 100, 101, 102, 103, 104, 105, 106, 107, 108, 109, 110, 111, 112, 113, 114, 115, 116, 117, 118, 119, 120, 121, 122, 65, 66, 67, 68, 69, 70, 71, 72, 73, 74, 75, 76, 77, 78, 79, 80, 81, 82, 83, 84, 85, 86, 87, 88, 89, 90, 48, 49, 50, 51, 52, 53, 54, 55, 56, 57, 95, 36])]
def laid_namesandsymbols_pub_esbuild_inner_ast_DefaultNameMinifierCSS {H : Type} : DataW H := .agg [.lit (.string [97, 98, 99, 100, 101, 102, 103, 104, 105, 106, 107, 108, 109, 110, 111, 112, 113, 114, 115, 116, 117, 118, 119, 120, 121, 122, 65, 66, 67, 68, 69, 70, 71, 72, 73, 74, 75, 76, 77, 78, 79, 80, 81, 82, 83, 84, 85, 86, 87, 88, 89, 90, 95]), .lit (.string [97, 98, 99, 100, 101, 102, 103, 104, 105, 106, 107, 108, 109, 110, 111, 112, 113, 114, 115, 116, 117, 118, 119, 120, 121, 122, 65, 66, 67, 68, 69, 70, 71, 72, 73, 74, 75, 76, 77, 78, 79, 80, 81, 82, 83, 84, 85, 86, 87, 88, 89, 90, 48, 49, 50, 51, 52, 53, 54, 55, 56, 57, 95])]
def laid_namesandsymbols_pub_esbuild_inner_ast_InvalidRef {H : Type} : DataW H := .agg [.lit (.int .u32 4294967295), .lit (.int .u32 4294967295)]

/-- 'laws.FnEveryNameComes': WHATEVER THE INPUT: true; the input reads as it did. -/
def fnEveryNameComesSpec : ChangeSpec := { name := "fnEveryNameComes", fn := fun _ => fun
  | [d1, d2] => { results := [.lit (.bool true)], args := [d1, d2] }
  | _ => none }
def fnEveryNameComesRow : OpenClaim := { program := "ytbkgbnejmgjiiaadoor", sum := "afd972afc0f89e1be09ff0f20ca12ce3d91bf3dc7d9e39b91787d53a3d37109a", func := "namesandsymbols/laws.FnEveryNameComes", spec := "fnEveryNameComes", inPlace := ["internal/abi.NoEscape"], named := ["namesandsymbols/pub/esbuild/inner/ast.DefaultNameMinifierCSS", "namesandsymbols/pub/esbuild/inner/ast.DefaultNameMinifierJS"], apart := false, laid := [("namesandsymbols/pub/esbuild/inner/ast.DefaultNameMinifierJS", laid_namesandsymbols_pub_esbuild_inner_ast_DefaultNameMinifierJS), ("namesandsymbols/pub/esbuild/inner/ast.DefaultNameMinifierCSS", laid_namesandsymbols_pub_esbuild_inner_ast_DefaultNameMinifierCSS)] }
def FnEveryNameComesSaid : Prop := fnEveryNameComesRow.holds Tryd.pinned (OpenSpec.ofChange fnEveryNameComesSpec)

/-- ITS FALSE NEIGHBOUR: 'it returns false'. Refute it at one input. -/
def fnEveryNameComesWrong : ChangeSpec := { name := "fnEveryNameComes", fn := fun _ => fun
  | [d1, d2] => { results := [.lit (.bool false)], args := [d1, d2] }
  | _ => none }
def FnEveryNameComesWrongFalsely : Prop := fnEveryNameComesRow.holds Tryd.pinned (OpenSpec.ofChange fnEveryNameComesWrong)

/-- 'laws.FnNamesAreNames': WHATEVER THE INPUT: true; the input reads as it did. -/
def fnNamesAreNamesSpec : ChangeSpec := { name := "fnNamesAreNames", fn := fun _ => fun
  | [d1, d2, d3] => { results := [.lit (.bool true)], args := [d1, d2, d3] }
  | _ => none }
def fnNamesAreNamesRow : OpenClaim := { program := "ytbkgbnejmgjiiaadoor", sum := "afd972afc0f89e1be09ff0f20ca12ce3d91bf3dc7d9e39b91787d53a3d37109a", func := "namesandsymbols/laws.FnNamesAreNames", spec := "fnNamesAreNames", inPlace := ["internal/abi.NoEscape"], named := ["namesandsymbols/pub/esbuild/inner/ast.DefaultNameMinifierCSS", "namesandsymbols/pub/esbuild/inner/ast.DefaultNameMinifierJS"], apart := false, laid := [("namesandsymbols/pub/esbuild/inner/ast.DefaultNameMinifierJS", laid_namesandsymbols_pub_esbuild_inner_ast_DefaultNameMinifierJS), ("namesandsymbols/pub/esbuild/inner/ast.DefaultNameMinifierCSS", laid_namesandsymbols_pub_esbuild_inner_ast_DefaultNameMinifierCSS)] }
def FnNamesAreNamesSaid : Prop := fnNamesAreNamesRow.holds Tryd.pinned (OpenSpec.ofChange fnNamesAreNamesSpec)

/-- ITS FALSE NEIGHBOUR: 'it returns false'. Refute it at one input. -/
def fnNamesAreNamesWrong : ChangeSpec := { name := "fnNamesAreNames", fn := fun _ => fun
  | [d1, d2, d3] => { results := [.lit (.bool false)], args := [d1, d2, d3] }
  | _ => none }
def FnNamesAreNamesWrongFalsely : Prop := fnNamesAreNamesRow.holds Tryd.pinned (OpenSpec.ofChange fnNamesAreNamesWrong)

/-- 'laws.FnGreatestOfBoth': WHATEVER THE INPUT: true; the input reads as it did. -/
def fnGreatestOfBothSpec : ChangeSpec := { name := "fnGreatestOfBoth", fn := fun _ => fun
  | [d1, d2] => { results := [.lit (.bool true)], args := [d1, d2] }
  | _ => none }
def fnGreatestOfBothRow : OpenClaim := { program := "ytbkgbnejmgjiiaadoor", sum := "afd972afc0f89e1be09ff0f20ca12ce3d91bf3dc7d9e39b91787d53a3d37109a", func := "namesandsymbols/laws.FnGreatestOfBoth", spec := "fnGreatestOfBoth", inPlace := ["internal/abi.NoEscape"], named := ["namesandsymbols/pub/esbuild/inner/ast.DefaultNameMinifierCSS", "namesandsymbols/pub/esbuild/inner/ast.DefaultNameMinifierJS"], apart := false, laid := [("namesandsymbols/pub/esbuild/inner/ast.DefaultNameMinifierJS", laid_namesandsymbols_pub_esbuild_inner_ast_DefaultNameMinifierJS), ("namesandsymbols/pub/esbuild/inner/ast.DefaultNameMinifierCSS", laid_namesandsymbols_pub_esbuild_inner_ast_DefaultNameMinifierCSS)] }
def FnGreatestOfBothSaid : Prop := fnGreatestOfBothRow.holds Tryd.pinned (OpenSpec.ofChange fnGreatestOfBothSpec)

/-- ITS FALSE NEIGHBOUR: 'it returns false'. Refute it at one input. -/
def fnGreatestOfBothWrong : ChangeSpec := { name := "fnGreatestOfBoth", fn := fun _ => fun
  | [d1, d2] => { results := [.lit (.bool false)], args := [d1, d2] }
  | _ => none }
def FnGreatestOfBothWrongFalsely : Prop := fnGreatestOfBothRow.holds Tryd.pinned (OpenSpec.ofChange fnGreatestOfBothWrong)

/-- 'laws.FnIndexComesBack': WHATEVER THE INPUT: true; the input reads as it did. -/
def fnIndexComesBackSpec : ChangeSpec := { name := "fnIndexComesBack", fn := fun _ => fun
  | [d] => { results := [.lit (.bool true)], args := [d] }
  | _ => none }
def fnIndexComesBackRow : OpenClaim := { program := "ytbkgbnejmgjiiaadoor", sum := "afd972afc0f89e1be09ff0f20ca12ce3d91bf3dc7d9e39b91787d53a3d37109a", func := "namesandsymbols/laws.FnIndexComesBack", spec := "fnIndexComesBack", inPlace := ["internal/abi.NoEscape"], named := ["namesandsymbols/pub/esbuild/inner/ast.DefaultNameMinifierCSS", "namesandsymbols/pub/esbuild/inner/ast.DefaultNameMinifierJS"], apart := false, laid := [("namesandsymbols/pub/esbuild/inner/ast.DefaultNameMinifierJS", laid_namesandsymbols_pub_esbuild_inner_ast_DefaultNameMinifierJS), ("namesandsymbols/pub/esbuild/inner/ast.DefaultNameMinifierCSS", laid_namesandsymbols_pub_esbuild_inner_ast_DefaultNameMinifierCSS)] }
def FnIndexComesBackSaid : Prop := fnIndexComesBackRow.holds Tryd.pinned (OpenSpec.ofChange fnIndexComesBackSpec)

/-- ITS FALSE NEIGHBOUR: 'it returns false'. Refute it at one input. -/
def fnIndexComesBackWrong : ChangeSpec := { name := "fnIndexComesBack", fn := fun _ => fun
  | [d] => { results := [.lit (.bool false)], args := [d] }
  | _ => none }
def FnIndexComesBackWrongFalsely : Prop := fnIndexComesBackRow.holds Tryd.pinned (OpenSpec.ofChange fnIndexComesBackWrong)

/-- 'laws.FnCountsAddUp': WHATEVER THE INPUT: true; the input reads as it did. -/
def fnCountsAddUpSpec : ChangeSpec := { name := "fnCountsAddUp", fn := fun _ => fun
  | [d1, d2] => { results := [.lit (.bool true)], args := [d1, d2] }
  | _ => none }
def fnCountsAddUpRow : OpenClaim := { program := "ytbkgbnejmgjiiaadoor", sum := "afd972afc0f89e1be09ff0f20ca12ce3d91bf3dc7d9e39b91787d53a3d37109a", func := "namesandsymbols/laws.FnCountsAddUp", spec := "fnCountsAddUp", inPlace := ["internal/abi.NoEscape"], named := ["namesandsymbols/pub/esbuild/inner/ast.DefaultNameMinifierCSS", "namesandsymbols/pub/esbuild/inner/ast.DefaultNameMinifierJS"], apart := false, laid := [("namesandsymbols/pub/esbuild/inner/ast.DefaultNameMinifierJS", laid_namesandsymbols_pub_esbuild_inner_ast_DefaultNameMinifierJS), ("namesandsymbols/pub/esbuild/inner/ast.DefaultNameMinifierCSS", laid_namesandsymbols_pub_esbuild_inner_ast_DefaultNameMinifierCSS)] }
def FnCountsAddUpSaid : Prop := fnCountsAddUpRow.holds Tryd.pinned (OpenSpec.ofChange fnCountsAddUpSpec)

/-- ITS FALSE NEIGHBOUR: 'it returns false'. Refute it at one input. -/
def fnCountsAddUpWrong : ChangeSpec := { name := "fnCountsAddUp", fn := fun _ => fun
  | [d1, d2] => { results := [.lit (.bool false)], args := [d1, d2] }
  | _ => none }
def FnCountsAddUpWrongFalsely : Prop := fnCountsAddUpRow.holds Tryd.pinned (OpenSpec.ofChange fnCountsAddUpWrong)

/-- 'laws.FnFollowingChangesNothing': WHATEVER THE INPUT: true; the input reads as it did. -/
def fnFollowingChangesNothingSpec : ChangeSpec := { name := "fnFollowingChangesNothing", fn := fun _ => fun
  | [d1, d2, d3] => { results := [.lit (.bool true)], args := [d1, d2, d3] }
  | _ => none }
def fnFollowingChangesNothingRow : OpenClaim := { program := "ytbkgbnejmgjiiaadoor", sum := "afd972afc0f89e1be09ff0f20ca12ce3d91bf3dc7d9e39b91787d53a3d37109a", func := "namesandsymbols/laws.FnFollowingChangesNothing", spec := "fnFollowingChangesNothing", inPlace := ["internal/abi.NoEscape"], recurses := true, named := ["namesandsymbols/pub/esbuild/inner/ast.DefaultNameMinifierCSS", "namesandsymbols/pub/esbuild/inner/ast.DefaultNameMinifierJS", "namesandsymbols/pub/esbuild/inner/ast.InvalidRef"], apart := false, laid := [("namesandsymbols/pub/esbuild/inner/ast.InvalidRef", laid_namesandsymbols_pub_esbuild_inner_ast_InvalidRef), ("namesandsymbols/pub/esbuild/inner/ast.DefaultNameMinifierJS", laid_namesandsymbols_pub_esbuild_inner_ast_DefaultNameMinifierJS), ("namesandsymbols/pub/esbuild/inner/ast.DefaultNameMinifierCSS", laid_namesandsymbols_pub_esbuild_inner_ast_DefaultNameMinifierCSS)] }
def FnFollowingChangesNothingSaid : Prop := fnFollowingChangesNothingRow.holds Tryd.pinned (OpenSpec.ofChange fnFollowingChangesNothingSpec)

/-- ITS FALSE NEIGHBOUR: 'it returns false'. Refute it at one input. -/
def fnFollowingChangesNothingWrong : ChangeSpec := { name := "fnFollowingChangesNothing", fn := fun _ => fun
  | [d1, d2, d3] => { results := [.lit (.bool false)], args := [d1, d2, d3] }
  | _ => none }
def FnFollowingChangesNothingWrongFalsely : Prop := fnFollowingChangesNothingRow.holds Tryd.pinned (OpenSpec.ofChange fnFollowingChangesNothingWrong)

/-- 'laws.FnSymbolsAreFollowed': WHATEVER THE INPUT: true; the input reads as it did. -/
def fnSymbolsAreFollowedSpec : ChangeSpec := { name := "fnSymbolsAreFollowed", fn := fun _ => fun
  | [d1, d2, d3] => { results := [.lit (.bool true)], args := [d1, d2, d3] }
  | _ => none }
def fnSymbolsAreFollowedRow : OpenClaim := { program := "ytbkgbnejmgjiiaadoor", sum := "afd972afc0f89e1be09ff0f20ca12ce3d91bf3dc7d9e39b91787d53a3d37109a", func := "namesandsymbols/laws.FnSymbolsAreFollowed", spec := "fnSymbolsAreFollowed", inPlace := ["internal/abi.NoEscape"], recurses := true, named := ["namesandsymbols/pub/esbuild/inner/ast.DefaultNameMinifierCSS", "namesandsymbols/pub/esbuild/inner/ast.DefaultNameMinifierJS", "namesandsymbols/pub/esbuild/inner/ast.InvalidRef"], apart := false, laid := [("namesandsymbols/pub/esbuild/inner/ast.InvalidRef", laid_namesandsymbols_pub_esbuild_inner_ast_InvalidRef), ("namesandsymbols/pub/esbuild/inner/ast.DefaultNameMinifierJS", laid_namesandsymbols_pub_esbuild_inner_ast_DefaultNameMinifierJS), ("namesandsymbols/pub/esbuild/inner/ast.DefaultNameMinifierCSS", laid_namesandsymbols_pub_esbuild_inner_ast_DefaultNameMinifierCSS)] }
def FnSymbolsAreFollowedSaid : Prop := fnSymbolsAreFollowedRow.holds Tryd.pinned (OpenSpec.ofChange fnSymbolsAreFollowedSpec)

/-- ITS FALSE NEIGHBOUR: 'it returns false'. Refute it at one input. -/
def fnSymbolsAreFollowedWrong : ChangeSpec := { name := "fnSymbolsAreFollowed", fn := fun _ => fun
  | [d1, d2, d3] => { results := [.lit (.bool false)], args := [d1, d2, d3] }
  | _ => none }
def FnSymbolsAreFollowedWrongFalsely : Prop := fnSymbolsAreFollowedRow.holds Tryd.pinned (OpenSpec.ofChange fnSymbolsAreFollowedWrong)

/-- 'laws.FnUsesAddUp': WHATEVER THE INPUT: true; the input reads as it did. -/
def fnUsesAddUpSpec : ChangeSpec := { name := "fnUsesAddUp", fn := fun _ => fun
  | [d1, d2, d3] => { results := [.lit (.bool true)], args := [d1, d2, d3] }
  | _ => none }
def fnUsesAddUpRow : OpenClaim := { program := "ytbkgbnejmgjiiaadoor", sum := "afd972afc0f89e1be09ff0f20ca12ce3d91bf3dc7d9e39b91787d53a3d37109a", func := "namesandsymbols/laws.FnUsesAddUp", spec := "fnUsesAddUp", inPlace := ["internal/abi.NoEscape"], recurses := true, named := ["namesandsymbols/pub/esbuild/inner/ast.DefaultNameMinifierCSS", "namesandsymbols/pub/esbuild/inner/ast.DefaultNameMinifierJS", "namesandsymbols/pub/esbuild/inner/ast.InvalidRef"], apart := false, laid := [("namesandsymbols/pub/esbuild/inner/ast.InvalidRef", laid_namesandsymbols_pub_esbuild_inner_ast_InvalidRef), ("namesandsymbols/pub/esbuild/inner/ast.DefaultNameMinifierJS", laid_namesandsymbols_pub_esbuild_inner_ast_DefaultNameMinifierJS), ("namesandsymbols/pub/esbuild/inner/ast.DefaultNameMinifierCSS", laid_namesandsymbols_pub_esbuild_inner_ast_DefaultNameMinifierCSS)] }
def FnUsesAddUpSaid : Prop := fnUsesAddUpRow.holds Tryd.pinned (OpenSpec.ofChange fnUsesAddUpSpec)

/-- ITS FALSE NEIGHBOUR: 'it returns false'. Refute it at one input. -/
def fnUsesAddUpWrong : ChangeSpec := { name := "fnUsesAddUp", fn := fun _ => fun
  | [d1, d2, d3] => { results := [.lit (.bool false)], args := [d1, d2, d3] }
  | _ => none }
def FnUsesAddUpWrongFalsely : Prop := fnUsesAddUpRow.holds Tryd.pinned (OpenSpec.ofChange fnUsesAddUpWrong)

/-- 'laws.FnNothingCountedIsTheSame': WHATEVER THE INPUT: true; the input reads as it did. -/
def fnNothingCountedIsTheSameSpec : ChangeSpec := { name := "fnNothingCountedIsTheSame", fn := fun _ => fun
  | [d1, d2, d3] => { results := [.lit (.bool true)], args := [d1, d2, d3] }
  | _ => none }
def fnNothingCountedIsTheSameRow : OpenClaim := { program := "ytbkgbnejmgjiiaadoor", sum := "afd972afc0f89e1be09ff0f20ca12ce3d91bf3dc7d9e39b91787d53a3d37109a", func := "namesandsymbols/laws.FnNothingCountedIsTheSame", spec := "fnNothingCountedIsTheSame", inPlace := ["internal/abi.NoEscape"], unfollowed := true, recurses := true, named := ["namesandsymbols/pub/esbuild/inner/ast.DefaultNameMinifierCSS", "namesandsymbols/pub/esbuild/inner/ast.DefaultNameMinifierJS"], apart := false, laid := [("namesandsymbols/pub/esbuild/inner/ast.DefaultNameMinifierJS", laid_namesandsymbols_pub_esbuild_inner_ast_DefaultNameMinifierJS), ("namesandsymbols/pub/esbuild/inner/ast.DefaultNameMinifierCSS", laid_namesandsymbols_pub_esbuild_inner_ast_DefaultNameMinifierCSS)] }
def FnNothingCountedIsTheSameSaid : Prop := fnNothingCountedIsTheSameRow.holds Tryd.pinned (OpenSpec.ofChange fnNothingCountedIsTheSameSpec)

/-- ITS FALSE NEIGHBOUR: 'it returns false'. Refute it at one input. -/
def fnNothingCountedIsTheSameWrong : ChangeSpec := { name := "fnNothingCountedIsTheSame", fn := fun _ => fun
  | [d1, d2, d3] => { results := [.lit (.bool false)], args := [d1, d2, d3] }
  | _ => none }
def FnNothingCountedIsTheSameWrongFalsely : Prop := fnNothingCountedIsTheSameRow.holds Tryd.pinned (OpenSpec.ofChange fnNothingCountedIsTheSameWrong)

/-- 'laws.FnShuffledNamesComeToo': WHATEVER THE INPUT: true; the input reads as it did. -/
def fnShuffledNamesComeTooSpec : ChangeSpec := { name := "fnShuffledNamesComeToo", fn := fun _ => fun
  | [d1, d2, d3] => { results := [.lit (.bool true)], args := [d1, d2, d3] }
  | _ => none }
def fnShuffledNamesComeTooRow : OpenClaim := { program := "ytbkgbnejmgjiiaadoor", sum := "afd972afc0f89e1be09ff0f20ca12ce3d91bf3dc7d9e39b91787d53a3d37109a", func := "namesandsymbols/laws.FnShuffledNamesComeToo", spec := "fnShuffledNamesComeToo", inPlace := ["internal/abi.NoEscape"], unfollowed := true, recurses := true, named := ["namesandsymbols/pub/esbuild/inner/ast.DefaultNameMinifierCSS", "namesandsymbols/pub/esbuild/inner/ast.DefaultNameMinifierJS"], apart := false, laid := [("namesandsymbols/pub/esbuild/inner/ast.DefaultNameMinifierJS", laid_namesandsymbols_pub_esbuild_inner_ast_DefaultNameMinifierJS), ("namesandsymbols/pub/esbuild/inner/ast.DefaultNameMinifierCSS", laid_namesandsymbols_pub_esbuild_inner_ast_DefaultNameMinifierCSS)] }
def FnShuffledNamesComeTooSaid : Prop := fnShuffledNamesComeTooRow.holds Tryd.pinned (OpenSpec.ofChange fnShuffledNamesComeTooSpec)

/-- ITS FALSE NEIGHBOUR: 'it returns false'. Refute it at one input. -/
def fnShuffledNamesComeTooWrong : ChangeSpec := { name := "fnShuffledNamesComeToo", fn := fun _ => fun
  | [d1, d2, d3] => { results := [.lit (.bool false)], args := [d1, d2, d3] }
  | _ => none }
def FnShuffledNamesComeTooWrongFalsely : Prop := fnShuffledNamesComeTooRow.holds Tryd.pinned (OpenSpec.ofChange fnShuffledNamesComeTooWrong)

/-- 'laws.FnTakingBackIsNothing': WHATEVER THE INPUT: true; the input reads as it did. -/
def fnTakingBackIsNothingSpec : ChangeSpec := { name := "fnTakingBackIsNothing", fn := fun _ => fun
  | [d1, d2, d3, d4] => { results := [.lit (.bool true)], args := [d1, d2, d3, d4] }
  | _ => none }
def fnTakingBackIsNothingRow : OpenClaim := { program := "ytbkgbnejmgjiiaadoor", sum := "afd972afc0f89e1be09ff0f20ca12ce3d91bf3dc7d9e39b91787d53a3d37109a", func := "namesandsymbols/laws.FnTakingBackIsNothing", spec := "fnTakingBackIsNothing", inPlace := ["internal/abi.NoEscape"], unfollowed := true, recurses := true, named := ["namesandsymbols/pub/esbuild/inner/ast.DefaultNameMinifierCSS", "namesandsymbols/pub/esbuild/inner/ast.DefaultNameMinifierJS"], apart := false, laid := [("namesandsymbols/pub/esbuild/inner/ast.DefaultNameMinifierJS", laid_namesandsymbols_pub_esbuild_inner_ast_DefaultNameMinifierJS), ("namesandsymbols/pub/esbuild/inner/ast.DefaultNameMinifierCSS", laid_namesandsymbols_pub_esbuild_inner_ast_DefaultNameMinifierCSS)] }
def FnTakingBackIsNothingSaid : Prop := fnTakingBackIsNothingRow.holds Tryd.pinned (OpenSpec.ofChange fnTakingBackIsNothingSpec)

/-- ITS FALSE NEIGHBOUR: 'it returns false'. Refute it at one input. -/
def fnTakingBackIsNothingWrong : ChangeSpec := { name := "fnTakingBackIsNothing", fn := fun _ => fun
  | [d1, d2, d3, d4] => { results := [.lit (.bool false)], args := [d1, d2, d3, d4] }
  | _ => none }
def FnTakingBackIsNothingWrongFalsely : Prop := fnTakingBackIsNothingRow.holds Tryd.pinned (OpenSpec.ofChange fnTakingBackIsNothingWrong)

/- THE SECOND FORM. 'bulk': how many values and letters a reading holds, each counted each time it is reached (what is shared counts as often as it is met; a slice's spare places count too). A statement '..UptoSaid' is the law's where the arguments, and the package variables that the reading takes, are together of bulk at most 1048576: NARROWER than '..Said'. Prove '..Said' where nothing that the law and all that it calls make is longer than what came in: it says more and counts as full. Else prove '..UptoSaid'. A law counts once. -/
mutual
def uptoBulk {H : Type} : DataW H → Nat
  | .lit (.string bytes) => bytes.length + 1
  | .lit _ => 1
  | .nil => 1
  | .ptr d => uptoBulk d + 1
  | .slice elems spare => uptoBulkAll elems + uptoBulkAll spare + 1
  | .agg parts => uptoBulkAll parts + 1
  | .iface _ d => uptoBulk d + 1
  | .map entries => uptoBulkEntries entries + 1
  | .held _ => 1
def uptoBulkAll {H : Type} : List (DataW H) → Nat
  | [] => 0
  | d :: r => uptoBulk d + uptoBulkAll r
def uptoBulkEntries {H : Type} : List (Lit × DataW H) → Nat
  | [] => 0
  | x :: r => uptoBulkEntry x + uptoBulkEntries r
def uptoBulkEntry {H : Type} : Lit × DataW H → Nat
  | (.string bytes, d) => bytes.length + uptoBulk d + 1
  | (_, d) => uptoBulk d + 1
 end
def uptoSmall : (H : Type) → List (DataW H) → Bool := fun _ ds => decide (uptoBulkAll ds ≤ 1048576)
def OpenSpec.upto (s : _root_.Go.ChangeSpec) : _root_.Go.OpenSpec := { _root_.Go.OpenSpec.ofChange s with cond := some uptoSmall }

/-- 'laws.FnEveryNameComes', WHERE WHAT IT READS IS OF BULK AT MOST 1048576: true; the input reads as it did. -/
def fnEveryNameComesUptoRow : OpenClaim := { program := "ytbkgbnejmgjiiaadoor", sum := "afd972afc0f89e1be09ff0f20ca12ce3d91bf3dc7d9e39b91787d53a3d37109a", func := "namesandsymbols/laws.FnEveryNameComes", spec := "fnEveryNameComes", inPlace := ["internal/abi.NoEscape"], named := ["namesandsymbols/pub/esbuild/inner/ast.DefaultNameMinifierCSS", "namesandsymbols/pub/esbuild/inner/ast.DefaultNameMinifierJS"], apart := false, laid := [("namesandsymbols/pub/esbuild/inner/ast.DefaultNameMinifierJS", laid_namesandsymbols_pub_esbuild_inner_ast_DefaultNameMinifierJS), ("namesandsymbols/pub/esbuild/inner/ast.DefaultNameMinifierCSS", laid_namesandsymbols_pub_esbuild_inner_ast_DefaultNameMinifierCSS)], narrowed := true }
def FnEveryNameComesUptoSaid : Prop := fnEveryNameComesUptoRow.holds Tryd.pinned (OpenSpec.upto fnEveryNameComesSpec)

/-- 'laws.FnNamesAreNames', WHERE WHAT IT READS IS OF BULK AT MOST 1048576: true; the input reads as it did. -/
def fnNamesAreNamesUptoRow : OpenClaim := { program := "ytbkgbnejmgjiiaadoor", sum := "afd972afc0f89e1be09ff0f20ca12ce3d91bf3dc7d9e39b91787d53a3d37109a", func := "namesandsymbols/laws.FnNamesAreNames", spec := "fnNamesAreNames", inPlace := ["internal/abi.NoEscape"], named := ["namesandsymbols/pub/esbuild/inner/ast.DefaultNameMinifierCSS", "namesandsymbols/pub/esbuild/inner/ast.DefaultNameMinifierJS"], apart := false, laid := [("namesandsymbols/pub/esbuild/inner/ast.DefaultNameMinifierJS", laid_namesandsymbols_pub_esbuild_inner_ast_DefaultNameMinifierJS), ("namesandsymbols/pub/esbuild/inner/ast.DefaultNameMinifierCSS", laid_namesandsymbols_pub_esbuild_inner_ast_DefaultNameMinifierCSS)], narrowed := true }
def FnNamesAreNamesUptoSaid : Prop := fnNamesAreNamesUptoRow.holds Tryd.pinned (OpenSpec.upto fnNamesAreNamesSpec)

/-- 'laws.FnGreatestOfBoth', WHERE WHAT IT READS IS OF BULK AT MOST 1048576: true; the input reads as it did. -/
def fnGreatestOfBothUptoRow : OpenClaim := { program := "ytbkgbnejmgjiiaadoor", sum := "afd972afc0f89e1be09ff0f20ca12ce3d91bf3dc7d9e39b91787d53a3d37109a", func := "namesandsymbols/laws.FnGreatestOfBoth", spec := "fnGreatestOfBoth", inPlace := ["internal/abi.NoEscape"], named := ["namesandsymbols/pub/esbuild/inner/ast.DefaultNameMinifierCSS", "namesandsymbols/pub/esbuild/inner/ast.DefaultNameMinifierJS"], apart := false, laid := [("namesandsymbols/pub/esbuild/inner/ast.DefaultNameMinifierJS", laid_namesandsymbols_pub_esbuild_inner_ast_DefaultNameMinifierJS), ("namesandsymbols/pub/esbuild/inner/ast.DefaultNameMinifierCSS", laid_namesandsymbols_pub_esbuild_inner_ast_DefaultNameMinifierCSS)], narrowed := true }
def FnGreatestOfBothUptoSaid : Prop := fnGreatestOfBothUptoRow.holds Tryd.pinned (OpenSpec.upto fnGreatestOfBothSpec)

/-- 'laws.FnIndexComesBack', WHERE WHAT IT READS IS OF BULK AT MOST 1048576: true; the input reads as it did. -/
def fnIndexComesBackUptoRow : OpenClaim := { program := "ytbkgbnejmgjiiaadoor", sum := "afd972afc0f89e1be09ff0f20ca12ce3d91bf3dc7d9e39b91787d53a3d37109a", func := "namesandsymbols/laws.FnIndexComesBack", spec := "fnIndexComesBack", inPlace := ["internal/abi.NoEscape"], named := ["namesandsymbols/pub/esbuild/inner/ast.DefaultNameMinifierCSS", "namesandsymbols/pub/esbuild/inner/ast.DefaultNameMinifierJS"], apart := false, laid := [("namesandsymbols/pub/esbuild/inner/ast.DefaultNameMinifierJS", laid_namesandsymbols_pub_esbuild_inner_ast_DefaultNameMinifierJS), ("namesandsymbols/pub/esbuild/inner/ast.DefaultNameMinifierCSS", laid_namesandsymbols_pub_esbuild_inner_ast_DefaultNameMinifierCSS)], narrowed := true }
def FnIndexComesBackUptoSaid : Prop := fnIndexComesBackUptoRow.holds Tryd.pinned (OpenSpec.upto fnIndexComesBackSpec)

/-- 'laws.FnCountsAddUp', WHERE WHAT IT READS IS OF BULK AT MOST 1048576: true; the input reads as it did. -/
def fnCountsAddUpUptoRow : OpenClaim := { program := "ytbkgbnejmgjiiaadoor", sum := "afd972afc0f89e1be09ff0f20ca12ce3d91bf3dc7d9e39b91787d53a3d37109a", func := "namesandsymbols/laws.FnCountsAddUp", spec := "fnCountsAddUp", inPlace := ["internal/abi.NoEscape"], named := ["namesandsymbols/pub/esbuild/inner/ast.DefaultNameMinifierCSS", "namesandsymbols/pub/esbuild/inner/ast.DefaultNameMinifierJS"], apart := false, laid := [("namesandsymbols/pub/esbuild/inner/ast.DefaultNameMinifierJS", laid_namesandsymbols_pub_esbuild_inner_ast_DefaultNameMinifierJS), ("namesandsymbols/pub/esbuild/inner/ast.DefaultNameMinifierCSS", laid_namesandsymbols_pub_esbuild_inner_ast_DefaultNameMinifierCSS)], narrowed := true }
def FnCountsAddUpUptoSaid : Prop := fnCountsAddUpUptoRow.holds Tryd.pinned (OpenSpec.upto fnCountsAddUpSpec)

/-- 'laws.FnFollowingChangesNothing', WHERE WHAT IT READS IS OF BULK AT MOST 1048576: true; the input reads as it did. -/
def fnFollowingChangesNothingUptoRow : OpenClaim := { program := "ytbkgbnejmgjiiaadoor", sum := "afd972afc0f89e1be09ff0f20ca12ce3d91bf3dc7d9e39b91787d53a3d37109a", func := "namesandsymbols/laws.FnFollowingChangesNothing", spec := "fnFollowingChangesNothing", inPlace := ["internal/abi.NoEscape"], recurses := true, named := ["namesandsymbols/pub/esbuild/inner/ast.DefaultNameMinifierCSS", "namesandsymbols/pub/esbuild/inner/ast.DefaultNameMinifierJS", "namesandsymbols/pub/esbuild/inner/ast.InvalidRef"], apart := false, laid := [("namesandsymbols/pub/esbuild/inner/ast.InvalidRef", laid_namesandsymbols_pub_esbuild_inner_ast_InvalidRef), ("namesandsymbols/pub/esbuild/inner/ast.DefaultNameMinifierJS", laid_namesandsymbols_pub_esbuild_inner_ast_DefaultNameMinifierJS), ("namesandsymbols/pub/esbuild/inner/ast.DefaultNameMinifierCSS", laid_namesandsymbols_pub_esbuild_inner_ast_DefaultNameMinifierCSS)], narrowed := true }
def FnFollowingChangesNothingUptoSaid : Prop := fnFollowingChangesNothingUptoRow.holds Tryd.pinned (OpenSpec.upto fnFollowingChangesNothingSpec)

/-- 'laws.FnSymbolsAreFollowed', WHERE WHAT IT READS IS OF BULK AT MOST 1048576: true; the input reads as it did. -/
def fnSymbolsAreFollowedUptoRow : OpenClaim := { program := "ytbkgbnejmgjiiaadoor", sum := "afd972afc0f89e1be09ff0f20ca12ce3d91bf3dc7d9e39b91787d53a3d37109a", func := "namesandsymbols/laws.FnSymbolsAreFollowed", spec := "fnSymbolsAreFollowed", inPlace := ["internal/abi.NoEscape"], recurses := true, named := ["namesandsymbols/pub/esbuild/inner/ast.DefaultNameMinifierCSS", "namesandsymbols/pub/esbuild/inner/ast.DefaultNameMinifierJS", "namesandsymbols/pub/esbuild/inner/ast.InvalidRef"], apart := false, laid := [("namesandsymbols/pub/esbuild/inner/ast.InvalidRef", laid_namesandsymbols_pub_esbuild_inner_ast_InvalidRef), ("namesandsymbols/pub/esbuild/inner/ast.DefaultNameMinifierJS", laid_namesandsymbols_pub_esbuild_inner_ast_DefaultNameMinifierJS), ("namesandsymbols/pub/esbuild/inner/ast.DefaultNameMinifierCSS", laid_namesandsymbols_pub_esbuild_inner_ast_DefaultNameMinifierCSS)], narrowed := true }
def FnSymbolsAreFollowedUptoSaid : Prop := fnSymbolsAreFollowedUptoRow.holds Tryd.pinned (OpenSpec.upto fnSymbolsAreFollowedSpec)

/-- 'laws.FnUsesAddUp', WHERE WHAT IT READS IS OF BULK AT MOST 1048576: true; the input reads as it did. -/
def fnUsesAddUpUptoRow : OpenClaim := { program := "ytbkgbnejmgjiiaadoor", sum := "afd972afc0f89e1be09ff0f20ca12ce3d91bf3dc7d9e39b91787d53a3d37109a", func := "namesandsymbols/laws.FnUsesAddUp", spec := "fnUsesAddUp", inPlace := ["internal/abi.NoEscape"], recurses := true, named := ["namesandsymbols/pub/esbuild/inner/ast.DefaultNameMinifierCSS", "namesandsymbols/pub/esbuild/inner/ast.DefaultNameMinifierJS", "namesandsymbols/pub/esbuild/inner/ast.InvalidRef"], apart := false, laid := [("namesandsymbols/pub/esbuild/inner/ast.InvalidRef", laid_namesandsymbols_pub_esbuild_inner_ast_InvalidRef), ("namesandsymbols/pub/esbuild/inner/ast.DefaultNameMinifierJS", laid_namesandsymbols_pub_esbuild_inner_ast_DefaultNameMinifierJS), ("namesandsymbols/pub/esbuild/inner/ast.DefaultNameMinifierCSS", laid_namesandsymbols_pub_esbuild_inner_ast_DefaultNameMinifierCSS)], narrowed := true }
def FnUsesAddUpUptoSaid : Prop := fnUsesAddUpUptoRow.holds Tryd.pinned (OpenSpec.upto fnUsesAddUpSpec)

/-- 'laws.FnNothingCountedIsTheSame', WHERE WHAT IT READS IS OF BULK AT MOST 1048576: true; the input reads as it did. -/
def fnNothingCountedIsTheSameUptoRow : OpenClaim := { program := "ytbkgbnejmgjiiaadoor", sum := "afd972afc0f89e1be09ff0f20ca12ce3d91bf3dc7d9e39b91787d53a3d37109a", func := "namesandsymbols/laws.FnNothingCountedIsTheSame", spec := "fnNothingCountedIsTheSame", inPlace := ["internal/abi.NoEscape"], unfollowed := true, recurses := true, named := ["namesandsymbols/pub/esbuild/inner/ast.DefaultNameMinifierCSS", "namesandsymbols/pub/esbuild/inner/ast.DefaultNameMinifierJS"], apart := false, laid := [("namesandsymbols/pub/esbuild/inner/ast.DefaultNameMinifierJS", laid_namesandsymbols_pub_esbuild_inner_ast_DefaultNameMinifierJS), ("namesandsymbols/pub/esbuild/inner/ast.DefaultNameMinifierCSS", laid_namesandsymbols_pub_esbuild_inner_ast_DefaultNameMinifierCSS)], narrowed := true }
def FnNothingCountedIsTheSameUptoSaid : Prop := fnNothingCountedIsTheSameUptoRow.holds Tryd.pinned (OpenSpec.upto fnNothingCountedIsTheSameSpec)

/-- 'laws.FnShuffledNamesComeToo', WHERE WHAT IT READS IS OF BULK AT MOST 1048576: true; the input reads as it did. -/
def fnShuffledNamesComeTooUptoRow : OpenClaim := { program := "ytbkgbnejmgjiiaadoor", sum := "afd972afc0f89e1be09ff0f20ca12ce3d91bf3dc7d9e39b91787d53a3d37109a", func := "namesandsymbols/laws.FnShuffledNamesComeToo", spec := "fnShuffledNamesComeToo", inPlace := ["internal/abi.NoEscape"], unfollowed := true, recurses := true, named := ["namesandsymbols/pub/esbuild/inner/ast.DefaultNameMinifierCSS", "namesandsymbols/pub/esbuild/inner/ast.DefaultNameMinifierJS"], apart := false, laid := [("namesandsymbols/pub/esbuild/inner/ast.DefaultNameMinifierJS", laid_namesandsymbols_pub_esbuild_inner_ast_DefaultNameMinifierJS), ("namesandsymbols/pub/esbuild/inner/ast.DefaultNameMinifierCSS", laid_namesandsymbols_pub_esbuild_inner_ast_DefaultNameMinifierCSS)], narrowed := true }
def FnShuffledNamesComeTooUptoSaid : Prop := fnShuffledNamesComeTooUptoRow.holds Tryd.pinned (OpenSpec.upto fnShuffledNamesComeTooSpec)

/-- 'laws.FnTakingBackIsNothing', WHERE WHAT IT READS IS OF BULK AT MOST 1048576: true; the input reads as it did. -/
def fnTakingBackIsNothingUptoRow : OpenClaim := { program := "ytbkgbnejmgjiiaadoor", sum := "afd972afc0f89e1be09ff0f20ca12ce3d91bf3dc7d9e39b91787d53a3d37109a", func := "namesandsymbols/laws.FnTakingBackIsNothing", spec := "fnTakingBackIsNothing", inPlace := ["internal/abi.NoEscape"], unfollowed := true, recurses := true, named := ["namesandsymbols/pub/esbuild/inner/ast.DefaultNameMinifierCSS", "namesandsymbols/pub/esbuild/inner/ast.DefaultNameMinifierJS"], apart := false, laid := [("namesandsymbols/pub/esbuild/inner/ast.DefaultNameMinifierJS", laid_namesandsymbols_pub_esbuild_inner_ast_DefaultNameMinifierJS), ("namesandsymbols/pub/esbuild/inner/ast.DefaultNameMinifierCSS", laid_namesandsymbols_pub_esbuild_inner_ast_DefaultNameMinifierCSS)], narrowed := true }
def FnTakingBackIsNothingUptoSaid : Prop := fnTakingBackIsNothingUptoRow.holds Tryd.pinned (OpenSpec.upto fnTakingBackIsNothingSpec)

end Rows
end Go.Proofs.YtbkgbnejmgjiiaaDoor
