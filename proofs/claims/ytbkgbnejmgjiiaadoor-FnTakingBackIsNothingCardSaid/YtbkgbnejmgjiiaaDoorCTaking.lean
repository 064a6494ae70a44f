/- THE CARD OF FnTakingBackIsNothing: for every input that the row speaks of (no condition of its own beyond the listed variables, which the card ties) the law returns true and the arguments read as before. -/
import Derived.Test.YtbkgbnejmgjiiaaDoorFrameB
import Derived.Test.YtbkgbnejmgjiiaaDoorOpenInts
import Derived.Test.YtbkgbnejmgjiiaaDoorOpenTextsW
import Derived.Test.YtbkgbnejmgjiiaaDoorLTaking
namespace Go.Proofs.YtbkgbnejmgjiiaaDoor.fnTakingBackIsNothing
open Go.ChangeShapes Go.WideShapes Go.ChangeAt Go.RowKit
open Go.ChangeMaps (open_string shut_string)
set_option maxRecDepth 100000 in
theorem contract (H : Type) (enc : TypeId × Value → H) (W : World) (base : Nat) (args : Array Value) (ds gs : List (DataW H)) (before : List MemPlace)
    (hval : ∀ (j : Nat) t v, Tryd.f13.params[j]? = some t → args[j]? = some v → Value.okWide Tryd.prog W .any base t v)
    (hwt : (DataW.weightsEach Tryd.prog (Tryd.f13.params.toList ++ (OpenSpec.ofChange Rows.fnTakingBackIsNothingSpec).bare.plain.varTypes Tryd.prog) (ds ++ gs)).all (· ≤ reachBytes) = true)
    (hW : DataW.Whole enc Tryd.prog Tryd.f13.params.toList Rows.fnTakingBackIsNothingSpec.vars false W args.toList ds gs before) (hL : laidMetH Tryd.prog Rows.fnTakingBackIsNothingRow.laid W) :
    Calls Tryd.prog 13 args W fun e W' => ∃ v, e = .returned v ∧ Rows.fnTakingBackIsNothingSpec.post enc Tryd.prog Tryd.f13 false true false false W args v W' := by
  have hG := glob_of_laid hL
  clear hL
  have hW' := hW
  obtain ⟨p, q, hA0, hV, hpq, hfz, hnd⟩ := hW
  have hA : DataW.TrodAll enc Tryd.prog W 0 (fun _ => true) true Tryd.f13.params.toList args.toList ds p := hA0
  rw [Tryd.params13] at hA hval
  have hlt : ∀ x ∈ p, x.block < W.heap.size := fun x hx => hW'.lt x (by rw [hpq]; simp [hx])
  clear hfz hnd hpq hA0
  obtain ⟨v0, vs0, d0, ds0, p0, q0, hargs, rfl, rfl, h0, r0⟩ := trodAll_cons hA
  obtain ⟨v1, vs1, d1, ds1, p1, q1, rfl, rfl, rfl, h1, r1⟩ := trodAll_cons r0
  obtain ⟨v2, vs2, d2, ds2, p2, q2, rfl, rfl, rfl, h2, r2⟩ := trodAll_cons r1
  obtain ⟨v3, vs3, d3, ds3, p3, q3, rfl, rfl, rfl, h3, r3⟩ := trodAll_cons r2
  obtain ⟨rfl, rfl, rfl⟩ := trodAll_nil r3
  obtain rfl := args_four hargs
  obtain ⟨rfl, rfl⟩ := trodVars_none hV
  have hwt' : ∀ x ∈ DataW.weightsEach Tryd.prog [36, 9, 3, 40] [d0, d1, d2, d3], x ≤ 140737488351232 := fun x hx => by
    rw [Tryd.params13] at hwt
    have h := List.all_eq_true.1 hwt x hx
    exact of_decide_eq_true h
  simp only [DataW.weightsEach, List.mem_append] at hwt'
  obtain ⟨A, n, c, xs, rfl, hx, hxn, hxs⟩ := open_texts_w (hval 0 36 v0 rfl rfl) h0 (fun x h => hwt' x (Or.inl h))
  obtain ⟨s, rfl, rfl, rfl, _⟩ := open_string Tryd.underlying9 (hval 1 9 v1 rfl rfl) h1
  have hss : s.size ≤ 140737488351232 := by
    rw [Lib.size_eq]
    exact hwt' _ (Or.inr (Or.inl (by simp [DataW.weights])))
  obtain ⟨times, rfl, rfl, rfl, _⟩ := open_int Tryd.underlying3 (hval 2 3 v2 rfl rfl) h2
  obtain ⟨B, m, d, l, rfl, han, hac, ham, har, _, _⟩ := open_ints (hval 3 40 v3 rfl rfl) h3
  refine (law_taking A B n c m d xs s times l W hG hx.reads hx.len hxn hxs hss har han (by unfold maxLen at ham; omega)).mono fun e W' ⟨he, hg⟩ => ?_
  subst he
  exact ⟨_, rfl, law_post hW' rfl rfl rfl rfl (by kernel_rfl) (by kernel_rfl) hg⟩

theorem laid_met (os : Os) : laidMet Tryd.prog Rows.fnTakingBackIsNothingRow.laid ((laidWorld os).forCall (fun _ _ => 0) ⟨#[], #[.slice none 0 0, .string ⟨#[]⟩, .int .i64 0, .slice none 0 0], []⟩).memory :=
  laidMet_of_run' 8 (by kernel_rfl) (by kernel_rfl)
theorem reads (os : Os) {H : Type} (enc : TypeId × Value → H) : ∃ places, DataW.whole enc Tryd.prog ((laidWorld os).forCall (fun _ _ => 0) ⟨#[], #[.slice none 0 0, .string ⟨#[]⟩, .int .i64 0, .slice none 0 0], []⟩).memory Tryd.f13.params.toList Rows.fnTakingBackIsNothingSpec.vars false #[Value.slice none 0 0, .string ⟨#[]⟩, .int .i64 0, .slice none 0 0].toList 8 = some ([.nil, .lit (.string []), .lit (.int .i64 0), .nil], [], places) :=
  ⟨[], by kernel_rfl⟩

set_option maxRecDepth 100000 in
theorem lifted (os : Os) (started : os.Started) (H : Type) (enc : TypeId × Value → H) (F : Stop.Interp) :
    ReturnsInHanded {} Tryd.checked os 13 .any ((OpenSpec.ofChange Rows.fnTakingBackIsNothingSpec).preRow enc Tryd.prog Tryd.f13 Rows.fnTakingBackIsNothingRow.domain false Rows.fnTakingBackIsNothingRow.laid) (((OpenSpec.ofChange Rows.fnTakingBackIsNothingSpec).at F).post enc Tryd.prog Tryd.f13 false true false false) := by
  obtain ⟨places, hx⟩ := reads os enc
  refine returnsInHanded_of_row (C := Tryd.checked) (s := OpenSpec.ofChange Rows.fnTakingBackIsNothingSpec) own started (by kernel_rfl) Tryd.func13
    (witness_row_at (enc := enc) (C := Tryd.checked) false (laidWorld os) #[.slice none 0 0, .string ⟨#[]⟩, .int .i64 0, .slice none 0 0] rfl (by kernel_rfl) (by kernel_rfl) (by kernel_rfl)
      (OpenSpec.preRow_of_cond 8 hx (by kernel_rfl) (fun k hk => by cases hk) (by kernel_rfl) (laid_met os))) ?_
  intro W base args ds gs before hval hW _ _ hwt hL _ _
  exact contract H enc W base args ds gs before hval hwt hW hL

theorem said : Rows.FnTakingBackIsNothingSaid :=
  OpenClaim.holds_of_cond 13 Tryd.f13 rfl rfl rfl rfl rfl rfl rfl ⟨rfl, rfl, rfl, rfl, rfl⟩ rfl rfl rfl rfl rfl (by kernel_rfl) Tryd.func13 (by kernel_rfl)
    (of_decide_eq_true (by kernel_rfl)) (by unfold Func.isWrapper; first | (rw [if_pos (by decide +kernel)]; kernel_rfl) | (rw [if_neg (by decide +kernel)]; exact ⟨rfl, rfl⟩))
    (fun os started H enc _ F => by rw [OpenClaim.pre_eq_preRow]; exact lifted os started H enc F)

theorem plain (f : FuncId) (fn : Func) (hf : Tryd.pinned.checked.prog.funcNamed Rows.fnTakingBackIsNothingRow.func = some f) (hfn : Tryd.pinned.checked.prog.funcs[f]? = some fn) :
    false = Tryd.pinned.checked.prog.looks [] ∧ ∀ (j : Nat) t, fn.params[j]? = some t → Tryd.pinned.checked.prog.wantsStandIn t = false := by
  obtain rfl : f = 13 := Option.some.inj ((show Tryd.prog.funcNamed Rows.fnTakingBackIsNothingRow.func = some 13 by kernel_rfl).symm.trans hf) |>.symm
  obtain rfl : fn = Tryd.f13 := (Option.some.inj (Tryd.func13.symm.trans hfn)).symm
  refine ⟨by kernel_rfl, fun j t ht => ?_⟩
  rw [Tryd.params13] at ht
  have hm : t = 36 ∨ t = 9 ∨ t = 3 ∨ t = 40 := by simpa using Array.mem_of_getElem? ht
  rcases hm with rfl | rfl | rfl | rfl
  · exact (show Tryd.prog.wantsStandIn 36 = false by kernel_rfl)
  · exact (show Tryd.prog.wantsStandIn 9 = false by kernel_rfl)
  · exact (show Tryd.prog.wantsStandIn 3 = false by kernel_rfl)
  · exact (show Tryd.prog.wantsStandIn 40 = false by kernel_rfl)

theorem card : Rows.FnTakingBackIsNothingCardSaid :=
  Claim7.holds_tied_plain_at .later [] _ _ _ _ said (fun _ h => by cases h) (by kernel_rfl) (fun _ h => by cases h) fnTakingBackIsNothing_row_tie rfl ⟨rfl, rfl⟩ (by kernel_rfl) rfl plain (by kernel_rfl)
#print axioms card
end Go.Proofs.YtbkgbnejmgjiiaaDoor.fnTakingBackIsNothing
