/- THE CARD OF FnShuffledNamesComeToo: for every input that the row speaks of (no condition of its own beyond the listed variables, which the card ties) the law returns true and the arguments read as before. -/
import Derived.Test.YtbkgbnejmgjiiaaDoorFrameB
import Derived.Test.YtbkgbnejmgjiiaaDoorOpenTextsW
import Derived.Test.YtbkgbnejmgjiiaaDoorLShuf
namespace Go.Proofs.YtbkgbnejmgjiiaaDoor.fnShuffledNamesComeToo
open Go.ChangeShapes Go.WideShapes Go.ChangeAt Go.RowKit
open Go.ChangeMaps (open_string shut_string)
set_option maxRecDepth 100000 in
theorem contract (H : Type) (enc : TypeId × Value → H) (W : World) (base : Nat) (args : Array Value) (ds gs : List (DataW H)) (before : List MemPlace)
    (hval : ∀ (j : Nat) t v, Tryd.f12.params[j]? = some t → args[j]? = some v → Value.okWide Tryd.prog W .any base t v)
    (hwt : (DataW.weightsEach Tryd.prog (Tryd.f12.params.toList ++ (OpenSpec.ofChange Rows.fnShuffledNamesComeTooSpec).bare.plain.varTypes Tryd.prog) (ds ++ gs)).all (· ≤ reachBytes) = true)
    (hW : DataW.Whole enc Tryd.prog Tryd.f12.params.toList Rows.fnShuffledNamesComeTooSpec.vars false W args.toList ds gs before) (hL : laidMetH Tryd.prog Rows.fnShuffledNamesComeTooRow.laid W) :
    Calls Tryd.prog 12 args W fun e W' => ∃ v, e = .returned v ∧ Rows.fnShuffledNamesComeTooSpec.post enc Tryd.prog Tryd.f12 false true false false W args v W' := by
  have hG := glob_of_laid hL
  clear hL
  have hW' := hW
  obtain ⟨p, q, hA0, hV, hpq, hfz, hnd⟩ := hW
  have hA : DataW.TrodAll enc Tryd.prog W 0 (fun _ => true) true Tryd.f12.params.toList args.toList ds p := hA0
  rw [Tryd.params12] at hA hval
  have hlt : ∀ x ∈ p, x.block < W.heap.size := fun x hx => hW'.lt x (by rw [hpq]; simp [hx])
  clear hfz hnd hpq hA0
  obtain ⟨v0, vs0, d0, ds0, p0, q0, hargs, rfl, rfl, h0, r0⟩ := trodAll_cons hA
  obtain ⟨v1, vs1, d1, ds1, p1, q1, rfl, rfl, rfl, h1, r1⟩ := trodAll_cons r0
  obtain ⟨v2, vs2, d2, ds2, p2, q2, rfl, rfl, rfl, h2, r2⟩ := trodAll_cons r1
  obtain ⟨rfl, rfl, rfl⟩ := trodAll_nil r2
  obtain rfl := args_three hargs
  obtain ⟨rfl, rfl⟩ := trodVars_none hV
  have hwt' : ∀ x ∈ DataW.weightsEach Tryd.prog [4, 36, 9] [d0, d1, d2], x ≤ 140737488351232 := fun x hx => by
    rw [Tryd.params12] at hwt
    have h := List.all_eq_true.1 hwt x hx
    exact of_decide_eq_true h
  simp only [DataW.weightsEach, List.mem_append] at hwt'
  obtain ⟨css, rfl, rfl, rfl⟩ := open_bool Tryd.underlying4 (hval 0 4 v0 rfl rfl) h0
  obtain ⟨A, n, c, xs, rfl, hx, hxn, hxs⟩ := open_texts_w (hval 1 36 v1 rfl rfl) h1 (fun x h => hwt' x (Or.inr (Or.inl h)))
  obtain ⟨s, rfl, rfl, rfl, _⟩ := open_string Tryd.underlying9 (hval 2 9 v2 rfl rfl) h2
  have hss : s.size ≤ 140737488351232 := by
    rw [Lib.size_eq]
    exact hwt' _ (Or.inr (Or.inr (Or.inl (by simp [DataW.weights]))))
  refine (law_shuffled css A n c xs s W hG hx.reads hx.len hxn hxs hss).mono fun e W' ⟨he, hg⟩ => ?_
  subst he
  exact ⟨_, rfl, law_post hW' rfl rfl rfl rfl (by kernel_rfl) (by kernel_rfl) hg⟩

theorem laid_met (os : Os) : laidMet Tryd.prog Rows.fnShuffledNamesComeTooRow.laid ((laidWorld os).forCall (fun _ _ => 0) ⟨#[], #[.bool false, .slice none 0 0, .string ⟨#[]⟩], []⟩).memory :=
  laidMet_of_run' 8 (by kernel_rfl) (by kernel_rfl)
theorem reads (os : Os) {H : Type} (enc : TypeId × Value → H) : ∃ places, DataW.whole enc Tryd.prog ((laidWorld os).forCall (fun _ _ => 0) ⟨#[], #[.bool false, .slice none 0 0, .string ⟨#[]⟩], []⟩).memory Tryd.f12.params.toList Rows.fnShuffledNamesComeTooSpec.vars false #[Value.bool false, .slice none 0 0, .string ⟨#[]⟩].toList 8 = some ([.lit (.bool false), .nil, .lit (.string [])], [], places) :=
  ⟨[], by kernel_rfl⟩

set_option maxRecDepth 100000 in
theorem lifted (os : Os) (started : os.Started) (H : Type) (enc : TypeId × Value → H) (F : Stop.Interp) :
    ReturnsInHanded {} Tryd.checked os 12 .any ((OpenSpec.ofChange Rows.fnShuffledNamesComeTooSpec).preRow enc Tryd.prog Tryd.f12 Rows.fnShuffledNamesComeTooRow.domain false Rows.fnShuffledNamesComeTooRow.laid) (((OpenSpec.ofChange Rows.fnShuffledNamesComeTooSpec).at F).post enc Tryd.prog Tryd.f12 false true false false) := by
  obtain ⟨places, hx⟩ := reads os enc
  refine returnsInHanded_of_row (C := Tryd.checked) (s := OpenSpec.ofChange Rows.fnShuffledNamesComeTooSpec) own started (by kernel_rfl) Tryd.func12
    (witness_row_at (enc := enc) (C := Tryd.checked) false (laidWorld os) #[.bool false, .slice none 0 0, .string ⟨#[]⟩] rfl (by kernel_rfl) (by kernel_rfl) (by kernel_rfl)
      (OpenSpec.preRow_of_cond 8 hx (by kernel_rfl) (fun k hk => by cases hk) (by kernel_rfl) (laid_met os))) ?_
  intro W base args ds gs before hval hW _ _ hwt hL _ _
  exact contract H enc W base args ds gs before hval hwt hW hL

theorem said : Rows.FnShuffledNamesComeTooSaid :=
  OpenClaim.holds_of_cond 12 Tryd.f12 rfl rfl rfl rfl rfl rfl rfl ⟨rfl, rfl, rfl, rfl, rfl⟩ rfl rfl rfl rfl rfl (by kernel_rfl) Tryd.func12 (by kernel_rfl)
    (of_decide_eq_true (by kernel_rfl)) (by unfold Func.isWrapper; first | (rw [if_pos (by decide +kernel)]; kernel_rfl) | (rw [if_neg (by decide +kernel)]; exact ⟨rfl, rfl⟩))
    (fun os started H enc _ F => by rw [OpenClaim.pre_eq_preRow]; exact lifted os started H enc F)

theorem plain (f : FuncId) (fn : Func) (hf : Tryd.pinned.checked.prog.funcNamed Rows.fnShuffledNamesComeTooRow.func = some f) (hfn : Tryd.pinned.checked.prog.funcs[f]? = some fn) :
    false = Tryd.pinned.checked.prog.looks [] ∧ ∀ (j : Nat) t, fn.params[j]? = some t → Tryd.pinned.checked.prog.wantsStandIn t = false := by
  obtain rfl : f = 12 := Option.some.inj ((show Tryd.prog.funcNamed Rows.fnShuffledNamesComeTooRow.func = some 12 by kernel_rfl).symm.trans hf) |>.symm
  obtain rfl : fn = Tryd.f12 := (Option.some.inj (Tryd.func12.symm.trans hfn)).symm
  refine ⟨by kernel_rfl, fun j t ht => ?_⟩
  rw [Tryd.params12] at ht
  have hm : t = 4 ∨ t = 36 ∨ t = 9 := by simpa using Array.mem_of_getElem? ht
  rcases hm with rfl | rfl | rfl
  · exact (show Tryd.prog.wantsStandIn 4 = false by kernel_rfl)
  · exact (show Tryd.prog.wantsStandIn 36 = false by kernel_rfl)
  · exact (show Tryd.prog.wantsStandIn 9 = false by kernel_rfl)

theorem card : Rows.FnShuffledNamesComeTooCardSaid :=
  Claim7.holds_tied_plain_at .later [] _ _ _ _ said (fun _ h => by cases h) (by kernel_rfl) (fun _ h => by cases h) fnShuffledNamesComeToo_row_tie rfl ⟨rfl, rfl⟩ (by kernel_rfl) rfl plain (by kernel_rfl)
#print axioms card
end Go.Proofs.YtbkgbnejmgjiiaaDoor.fnShuffledNamesComeToo
