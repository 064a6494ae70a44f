/- THE SECOND FORM's CARD OF FnSymbolsAreFollowed: for every input of bulk at most 1048576 (the listed variables tied by the card) the law returns true and the arguments read as before. -/
import Derived.Test.YtbkgbnejmgjiiaaDoorFrameB
import Derived.Test.YtbkgbnejmgjiiaaDoorOpenInts
import Derived.Test.YtbkgbnejmgjiiaaDoorLFollowed
namespace Go.Proofs.YtbkgbnejmgjiiaaDoor.fnSymbolsAreFollowedUpto
open Go.ChangeShapes Go.WideShapes Go.ChangeAt Go.RowKit

set_option maxRecDepth 100000 in
theorem contract (H : Type) (enc : TypeId × Value → H) (W : World) (base : Nat) (args : Array Value) (ds gs : List (DataW H)) (before : List MemPlace)
    (hval : ∀ (j : Nat) t v, Tryd.f9.params[j]? = some t → args[j]? = some v → Value.okWide Tryd.prog W .any base t v)
    (hk : ∀ k, (Rows.OpenSpec.upto Rows.fnSymbolsAreFollowedSpec).cond = some k → k H (ds ++ gs) = true)
    (hW : DataW.Whole enc Tryd.prog Tryd.f9.params.toList Rows.fnSymbolsAreFollowedSpec.vars false W args.toList ds gs before) (hL : laidMetH Tryd.prog Rows.fnSymbolsAreFollowedUptoRow.laid W) :
    Calls Tryd.prog 9 args W fun e W' => ∃ v, e = .returned v ∧ Rows.fnSymbolsAreFollowedSpec.post enc Tryd.prog Tryd.f9 false true false false W args v W' := by
  have hG := globR_of_laid hL
  clear hL
  have hW' := hW
  obtain ⟨p, q, hA0, hV, hpq, hfz, hnd⟩ := hW
  have hA : DataW.TrodAll enc Tryd.prog W 0 (fun _ => true) true Tryd.f9.params.toList args.toList ds p := hA0
  rw [Tryd.params9] at hA hval
  have hlt : ∀ x ∈ p, x.block < W.heap.size := fun x hx => hW'.lt x (by rw [hpq]; simp [hx])
  clear hfz hnd hpq hA0
  obtain ⟨v0, vs0, d0, ds0, p0, q0, hargs, rfl, rfl, h0, r0⟩ := trodAll_cons hA
  obtain ⟨v1, vs1, d1, ds1, p1, q1, rfl, rfl, rfl, h1, r1⟩ := trodAll_cons r0
  obtain ⟨v2, vs2, d2, ds2, p2, q2, rfl, rfl, rfl, h2, r2⟩ := trodAll_cons r1
  obtain ⟨rfl, rfl, rfl⟩ := trodAll_nil r2
  obtain rfl := args_three hargs
  obtain ⟨rfl, rfl⟩ := trodVars_none hV
  obtain ⟨A, n, c, l, rfl, han, hac, ham, har, hab, _⟩ := open_ints (hval 0 40 v0 rfl rfl) h0
  obtain ⟨D, q2, cq, steps, rfl, hsn, _, _, hsr, hsb⟩ := open_steps (hval 1 44 v1 rfl rfl) h1
  obtain ⟨ahead, rfl, rfl, rfl⟩ := open_bool Tryd.underlying4 (hval 2 4 v2 rfl rfl) h2
  have hbulk := bulk_bound (hk _ rfl)
  simp only [List.append_nil, Rows.uptoBulkAll] at hbulk
  refine (law_followed A D n q2 c cq l steps ahead W hG har han (by omega) hac (by unfold maxLen at ham; omega) hsr hsn (by omega)).mono fun e W' ⟨he, hg⟩ => ?_
  subst he
  exact ⟨_, rfl, law_post hW' rfl rfl rfl rfl (by kernel_rfl) (by kernel_rfl) hg⟩

theorem laid_met (os : Os) : laidMet Tryd.prog Rows.fnSymbolsAreFollowedUptoRow.laid ((laidWorld os).forCall (fun _ _ => 0) ⟨#[], #[.slice none 0 0, .slice none 0 0, .bool true], []⟩).memory :=
  laidMet_of_run' 8 (by kernel_rfl) (by kernel_rfl)
theorem reads (os : Os) {H : Type} (enc : TypeId × Value → H) : ∃ places, DataW.whole enc Tryd.prog ((laidWorld os).forCall (fun _ _ => 0) ⟨#[], #[.slice none 0 0, .slice none 0 0, .bool true], []⟩).memory Tryd.f9.params.toList Rows.fnSymbolsAreFollowedSpec.vars false #[Value.slice none 0 0, .slice none 0 0, .bool true].toList 8 = some ([.nil, .nil, .lit (.bool true)], [], places) :=
  ⟨[], by kernel_rfl⟩

set_option maxRecDepth 100000 in
theorem lifted (os : Os) (started : os.Started) (H : Type) (enc : TypeId × Value → H) (F : Stop.Interp) :
    ReturnsInHanded {} Tryd.checked os 9 .any ((Rows.OpenSpec.upto Rows.fnSymbolsAreFollowedSpec).preRow enc Tryd.prog Tryd.f9 Rows.fnSymbolsAreFollowedUptoRow.domain false Rows.fnSymbolsAreFollowedUptoRow.laid) (((Rows.OpenSpec.upto Rows.fnSymbolsAreFollowedSpec).at F).post enc Tryd.prog Tryd.f9 false true false false) := by
  obtain ⟨places, hx⟩ := reads os enc
  refine returnsInHanded_of_row (C := Tryd.checked) (s := Rows.OpenSpec.upto Rows.fnSymbolsAreFollowedSpec) own started (by kernel_rfl) Tryd.func9
    (witness_row_at (enc := enc) (C := Tryd.checked) false (laidWorld os) #[.slice none 0 0, .slice none 0 0, .bool true] rfl (by kernel_rfl) (by kernel_rfl) (by kernel_rfl)
      (OpenSpec.preRow_of_cond 8 hx (by kernel_rfl) (fun k hk => by cases hk; kernel_rfl) (by kernel_rfl) (laid_met os))) ?_
  intro W base args ds gs before hval hW _ hk _ hL _ _
  exact contract H enc W base args ds gs before hval hk hW hL

theorem said : Rows.FnSymbolsAreFollowedUptoSaid :=
  OpenClaim.holds_of_cond 9 Tryd.f9 rfl rfl rfl rfl rfl rfl rfl ⟨rfl, rfl, rfl, rfl, rfl⟩ rfl rfl rfl rfl rfl (by kernel_rfl) Tryd.func9 (by kernel_rfl)
    (of_decide_eq_true (by kernel_rfl)) (by unfold Func.isWrapper; first | (rw [if_pos (by decide +kernel)]; kernel_rfl) | (rw [if_neg (by decide +kernel)]; exact ⟨rfl, rfl⟩))
    (fun os started H enc _ F => by rw [OpenClaim.pre_eq_preRow]; exact lifted os started H enc F)

theorem plain (f : FuncId) (fn : Func) (hf : Tryd.pinned.checked.prog.funcNamed Rows.fnSymbolsAreFollowedRow.func = some f) (hfn : Tryd.pinned.checked.prog.funcs[f]? = some fn) :
    false = Tryd.pinned.checked.prog.looks [] ∧ ∀ (j : Nat) t, fn.params[j]? = some t → Tryd.pinned.checked.prog.wantsStandIn t = false := by
  obtain rfl : f = 9 := Option.some.inj ((show Tryd.prog.funcNamed Rows.fnSymbolsAreFollowedRow.func = some 9 by kernel_rfl).symm.trans hf) |>.symm
  obtain rfl : fn = Tryd.f9 := (Option.some.inj (Tryd.func9.symm.trans hfn)).symm
  refine ⟨by kernel_rfl, fun j t ht => ?_⟩
  rw [Tryd.params9] at ht
  have hm : t = 40 ∨ t = 44 ∨ t = 4 := by simpa using Array.mem_of_getElem? ht
  rcases hm with rfl | rfl | rfl
  · exact (show Tryd.prog.wantsStandIn 40 = false by kernel_rfl)
  · exact (show Tryd.prog.wantsStandIn 44 = false by kernel_rfl)
  · exact (show Tryd.prog.wantsStandIn 4 = false by kernel_rfl)

theorem card : Rows.FnSymbolsAreFollowedUptoCardSaid :=
  Claim7.holds_tied_plain_at .later [] _ _ _ _ said (fun _ h => by cases h) (by kernel_rfl) (fun _ h => by cases h) fnSymbolsAreFollowedUpto_row_tie rfl ⟨rfl, rfl⟩ (by kernel_rfl) rfl plain (by kernel_rfl)
#print axioms card
end Go.Proofs.YtbkgbnejmgjiiaaDoor.fnSymbolsAreFollowedUpto
