/- THE CARD OF FnGreatestOfBoth: for every input that the row speaks of (no condition of its own beyond the listed variables, which the card ties) the law returns true and the arguments read as before. -/
import Derived.Test.YtbkgbnejmgjiiaaDoorFrameB
import Derived.Test.YtbkgbnejmgjiiaaDoorLGreatest
namespace Go.Proofs.YtbkgbnejmgjiiaaDoor.fnGreatestOfBoth
open Go.ChangeShapes Go.WideShapes Go.ChangeAt Go.RowKit

set_option maxRecDepth 100000 in
theorem contract (H : Type) (enc : TypeId × Value → H) (W : World) (base : Nat) (args : Array Value) (ds gs : List (DataW H)) (before : List MemPlace)
    (hval : ∀ (j : Nat) t v, Tryd.f5.params[j]? = some t → args[j]? = some v → Value.okWide Tryd.prog W .any base t v)
    (hW : DataW.Whole enc Tryd.prog Tryd.f5.params.toList Rows.fnGreatestOfBothSpec.vars false W args.toList ds gs before) (hL : laidMetH Tryd.prog Rows.fnGreatestOfBothRow.laid W) :
    Calls Tryd.prog 5 args W fun e W' => ∃ v, e = .returned v ∧ Rows.fnGreatestOfBothSpec.post enc Tryd.prog Tryd.f5 false true false false W args v W' := by
  have hG := glob_of_laid hL
  clear hL
  have hW' := hW
  obtain ⟨p, q, hA0, hV, hpq, hfz, hnd⟩ := hW
  have hA : DataW.TrodAll enc Tryd.prog W 0 (fun _ => true) true Tryd.f5.params.toList args.toList ds p := hA0
  rw [Tryd.params5] at hA hval
  have hlt : ∀ x ∈ p, x.block < W.heap.size := fun x hx => hW'.lt x (by rw [hpq]; simp [hx])
  clear hfz hnd hpq hA0
  obtain ⟨v0, vs0, d0, ds0, p0, q0, hargs, rfl, rfl, h0, r0⟩ := trodAll_cons hA
  obtain ⟨v1, vs1, d1, ds1, p1, q1, rfl, rfl, rfl, h1, r1⟩ := trodAll_cons r0
  obtain ⟨rfl, rfl, rfl⟩ := trodAll_nil r1
  obtain rfl := args_two hargs
  obtain ⟨rfl, rfl⟩ := trodVars_none hV
  obtain ⟨X, rfl⟩ := open_arr4 (hval 0 30 v0 rfl rfl) h0
  obtain ⟨Y, rfl⟩ := open_arr4 (hval 1 30 v1 rfl rfl) h1
  refine (law_greatest X Y W hG).mono fun e W' ⟨he, hg⟩ => ?_
  subst he
  exact ⟨_, rfl, law_post hW' rfl rfl rfl rfl (by kernel_rfl) (by kernel_rfl) hg⟩

theorem laid_met (os : Os) : laidMet Tryd.prog Rows.fnGreatestOfBothRow.laid ((laidWorld os).forCall (fun _ _ => 0) ⟨#[], #[.agg #[.int .u32 0, .int .u32 0, .int .u32 0, .int .u32 0], .agg #[.int .u32 0, .int .u32 0, .int .u32 0, .int .u32 0]], []⟩).memory :=
  laidMet_of_run' 8 (by kernel_rfl) (by kernel_rfl)
theorem reads (os : Os) {H : Type} (enc : TypeId × Value → H) : ∃ places, DataW.whole enc Tryd.prog ((laidWorld os).forCall (fun _ _ => 0) ⟨#[], #[.agg #[.int .u32 0, .int .u32 0, .int .u32 0, .int .u32 0], .agg #[.int .u32 0, .int .u32 0, .int .u32 0, .int .u32 0]], []⟩).memory Tryd.f5.params.toList Rows.fnGreatestOfBothSpec.vars false #[Value.agg #[.int .u32 0, .int .u32 0, .int .u32 0, .int .u32 0], .agg #[.int .u32 0, .int .u32 0, .int .u32 0, .int .u32 0]].toList 8 = some ([.agg [.lit (.int .u32 0), .lit (.int .u32 0), .lit (.int .u32 0), .lit (.int .u32 0)], .agg [.lit (.int .u32 0), .lit (.int .u32 0), .lit (.int .u32 0), .lit (.int .u32 0)]], [], places) :=
  ⟨[], by kernel_rfl⟩

set_option maxRecDepth 100000 in
theorem lifted (os : Os) (started : os.Started) (H : Type) (enc : TypeId × Value → H) (F : Stop.Interp) :
    ReturnsInHanded {} Tryd.checked os 5 .any ((OpenSpec.ofChange Rows.fnGreatestOfBothSpec).preRow enc Tryd.prog Tryd.f5 Rows.fnGreatestOfBothRow.domain false Rows.fnGreatestOfBothRow.laid) (((OpenSpec.ofChange Rows.fnGreatestOfBothSpec).at F).post enc Tryd.prog Tryd.f5 false true false false) := by
  obtain ⟨places, hx⟩ := reads os enc
  refine returnsInHanded_of_row (C := Tryd.checked) (s := OpenSpec.ofChange Rows.fnGreatestOfBothSpec) own started (by kernel_rfl) Tryd.func5
    (witness_row_at (enc := enc) (C := Tryd.checked) false (laidWorld os) #[.agg #[.int .u32 0, .int .u32 0, .int .u32 0, .int .u32 0], .agg #[.int .u32 0, .int .u32 0, .int .u32 0, .int .u32 0]] rfl (by kernel_rfl) (by kernel_rfl) (by kernel_rfl)
      (OpenSpec.preRow_of_cond 8 hx (by kernel_rfl) (fun k hk => by cases hk) (by kernel_rfl) (laid_met os))) ?_
  intro W base args ds gs before hval hW _ _ _ hL _ _
  exact contract H enc W base args ds gs before hval hW hL

theorem said : Rows.FnGreatestOfBothSaid :=
  OpenClaim.holds_of_cond 5 Tryd.f5 rfl rfl rfl rfl rfl rfl rfl ⟨rfl, rfl, rfl, rfl, rfl⟩ rfl rfl rfl rfl rfl (by kernel_rfl) Tryd.func5 (by kernel_rfl)
    (of_decide_eq_true (by kernel_rfl)) (by unfold Func.isWrapper; first | (rw [if_pos (by decide +kernel)]; kernel_rfl) | (rw [if_neg (by decide +kernel)]; exact ⟨rfl, rfl⟩))
    (fun os started H enc _ F => by rw [OpenClaim.pre_eq_preRow]; exact lifted os started H enc F)

theorem plain (f : FuncId) (fn : Func) (hf : Tryd.pinned.checked.prog.funcNamed Rows.fnGreatestOfBothRow.func = some f) (hfn : Tryd.pinned.checked.prog.funcs[f]? = some fn) :
    false = Tryd.pinned.checked.prog.looks [] ∧ ∀ (j : Nat) t, fn.params[j]? = some t → Tryd.pinned.checked.prog.wantsStandIn t = false := by
  obtain rfl : f = 5 := Option.some.inj ((show Tryd.prog.funcNamed Rows.fnGreatestOfBothRow.func = some 5 by kernel_rfl).symm.trans hf) |>.symm
  obtain rfl : fn = Tryd.f5 := (Option.some.inj (Tryd.func5.symm.trans hfn)).symm
  refine ⟨by kernel_rfl, fun j t ht => ?_⟩
  rw [Tryd.params5] at ht
  have hm : t = 30 := by simpa using Array.mem_of_getElem? ht
  subst hm
  exact (show Tryd.prog.wantsStandIn 30 = false by kernel_rfl)

theorem card : Rows.FnGreatestOfBothCardSaid :=
  Claim7.holds_tied_plain_at .later [] _ _ _ _ said (fun _ h => by cases h) (by kernel_rfl) (fun _ h => by cases h) fnGreatestOfBoth_row_tie rfl ⟨rfl, rfl⟩ (by kernel_rfl) rfl plain (by kernel_rfl)
#print axioms card
end Go.Proofs.YtbkgbnejmgjiiaaDoor.fnGreatestOfBoth
