/- The frame of the cards' proofs: what the listed package-level variables' cells hold, and the row's last step behind a call that laid new memory alone. Conditions: none beyond the hypotheses of each lemma. -/
import Derived.Test.YtbkgbnejmgjiiaaDoorCards
import Derived.Test.YtbkgbnejmgjiiaaDoorTie
import Derived.Test.YtbkgbnejmgjiiaaDoorWName
import Derived.WalkKit
import Derived.ProofKit
import Derived.OpenShut
import Derived.ShutString
import Derived.Deep.DeepHandedRow
import Derived.Lib.LaidTab
import Derived.Stop.LaidErr
namespace Go.Proofs.YtbkgbnejmgjiiaaDoor
open Go.ChangeShapes Go.WideShapes Go.ChangeAt Go.RowKit

theorem own : ownKnob Tryd.prog.godebug = none := by kernel_rfl
/-- The names of the listed variables, as the given rows write them. -/
def nmInv : String := (Rows.fnUsesAddUpRow.laid.getD 0 (Rows.fnUsesAddUpRow.func, .nil)).1
def nmJs : String := (Rows.fnUsesAddUpRow.laid.getD 1 (Rows.fnUsesAddUpRow.func, .nil)).1
def nmCss : String := (Rows.fnUsesAddUpRow.laid.getD 2 (Rows.fnUsesAddUpRow.func, .nil)).1
theorem gCss : Tryd.prog.globalNamed nmCss = some 0 := by kernel_rfl
theorem gJs : Tryd.prog.globalNamed nmJs = some 1 := by kernel_rfl
theorem gInv : Tryd.prog.globalNamed nmInv = some 2 := by kernel_rfl
theorem gCssType : (Tryd.prog.globals[0]?).map (·.type) = some 74 := by kernel_rfl
theorem gJsType : (Tryd.prog.globals[1]?).map (·.type) = some 74 := by kernel_rfl
theorem gInvType : (Tryd.prog.globals[2]?).map (·.type) = some 100 := by kernel_rfl
theorem cells74 : Tryd.prog.cellsOf 74 = 2 := by kernel_rfl
theorem cells9 : Tryd.prog.cellsOf 9 = 1 := by kernel_rfl
theorem cells100 : Tryd.prog.cellsOf 100 = 2 := by kernel_rfl
theorem cells29 : Tryd.prog.cellsOf 29 = 1 := by kernel_rfl

theorem cell_lt {W : World} {a : Addr} {v : Value} (h : W.cell? a = some v) : a.block < W.heap.size := by
  rcases Nat.lt_or_ge a.block W.heap.size with h' | h'
  · exact h'
  · simp [World.cell?, Array.getElem?_eq_none h'] at h

theorem two_of (cs : Array Value) (h : cs.toList.length = 2) : ∃ x0 x1, cs = #[x0, x1] := by
  rcases cs with ⟨l⟩
  match l, h with
  | [x0, x1], _ => exact ⟨x0, x1, rfl⟩

theorem args_one {args : Array Value} {a : Value} (h : args.toList = [a]) : args = #[a] := by
  cases args; exact congrArg Array.mk h
theorem args_two {args : Array Value} {a b : Value} (h : args.toList = [a, b]) : args = #[a, b] := by
  cases args; exact congrArg Array.mk h
theorem args_three {args : Array Value} {a b c : Value} (h : args.toList = [a, b, c]) : args = #[a, b, c] := by
  cases args; exact congrArg Array.mk h
theorem args_four {args : Array Value} {a b c d : Value} (h : args.toList = [a, b, c, d]) : args = #[a, b, c, d] := by
  cases args; exact congrArg Array.mk h

theorem pair_of_laid {W : World} {name : String} {g : Nat} {h t : ByteArray} {rest : List (String × DataW Unit)}
    (hg : Tryd.prog.globalNamed name = some g) (hty : (Tryd.prog.globals[g]?).map (·.type) = some 74)
    (hl : laidMet Tryd.prog ((name, .agg [.lit (.string h.data.toList), .lit (.string t.data.toList)]) :: rest) W) :
    W.cell? ⟨g, 0, none⟩ = some (.string h) ∧ W.cell? ⟨g, 1, none⟩ = some (.string t) ∧ g < W.heap.size := by
  obtain ⟨ps, ⟨g', t', cs, fuel, p, q, hg', ht', hvar, hd, _, _⟩, _⟩ := hl
  obtain rfl := Option.some.inj (hg.symm.trans hg')
  obtain rfl := Option.some.inj (hty.symm.trans ht')
  obtain ⟨y0, y1, n, hx, hlen, h0, h1⟩ := trod_struct2 Tryd.underlying74 hd
  obtain ⟨s0, e0, rfl, _⟩ := DataW.trod_string Tryd.underlying9 h0
  obtain ⟨s1, e1, rfl, _⟩ := DataW.trod_string Tryd.underlying9 h1
  rw [cells74] at hlen
  rw [cells9] at e0 e1
  have hx1 := congrArg Prod.fst hx
  simp only [DataW.agg.injEq, List.cons.injEq, DataW.lit.injEq, Lit.string.injEq, and_true] at hx1
  obtain ⟨ea, eb⟩ := hx1
  obtain rfl : h = s0 := ByteArray.ext (Array.toList_inj.1 ea)
  obtain rfl : t = s1 := ByteArray.ext (Array.toList_inj.1 eb)
  have c0 := World.var?_cell hg hvar 0
  have c1 := World.var?_cell hg hvar 1
  obtain ⟨x0, x1, hc⟩ := two_of cs hlen
  rw [hc] at c0 c1 e0 e1
  have f0 : x0 = .string h := by simpa using e0
  have f1 : x1 = .string t := by simpa using e1
  rw [f0] at c0
  rw [f1] at c1
  exact ⟨c0, c1, cell_lt c0⟩
theorem ref_of_laid {W : World} {name : String} {g : Nat} {a b : Int} {rest : List (String × DataW Unit)}
    (hg : Tryd.prog.globalNamed name = some g) (hty : (Tryd.prog.globals[g]?).map (·.type) = some 100)
    (hl : laidMet Tryd.prog ((name, .agg [.lit (.int .u32 a), .lit (.int .u32 b)]) :: rest) W) :
    W.cell? ⟨g, 0, none⟩ = some (.int .u32 a) ∧ W.cell? ⟨g, 1, none⟩ = some (.int .u32 b) ∧ g < W.heap.size := by
  obtain ⟨ps, ⟨g', t', cs, fuel, p, q, hg', ht', hvar, hd, _, _⟩, _⟩ := hl
  obtain rfl := Option.some.inj (hg.symm.trans hg')
  obtain rfl := Option.some.inj (hty.symm.trans ht')
  obtain ⟨y0, y1, n, hx, hlen, h0, h1⟩ := trod_struct2 Tryd.underlying100 hd
  obtain ⟨s0, e0, rfl, _⟩ := DataW.trod_int Tryd.underlying29 h0
  obtain ⟨s1, e1, rfl, _⟩ := DataW.trod_int Tryd.underlying29 h1
  rw [cells100] at hlen
  rw [cells29] at e0 e1
  have hx1 := congrArg Prod.fst hx
  simp only [DataW.agg.injEq, List.cons.injEq, DataW.lit.injEq, Lit.int.injEq, and_true, true_and] at hx1
  obtain ⟨rfl, rfl⟩ := hx1
  have c0 := World.var?_cell hg hvar 0
  have c1 := World.var?_cell hg hvar 1
  obtain ⟨x0, x1, hc⟩ := two_of cs hlen
  rw [hc] at c0 c1 e0 e1
  have f0 : x0 = .int .u32 a := by simpa using e0
  have f1 : x1 = .int .u32 b := by simpa using e1
  rw [f0] at c0
  rw [f1] at c1
  exact ⟨c0, c1, cell_lt c0⟩

/-- What the list of two gives. -/
theorem glob_of_laid {W : World} (h : laidMetH Tryd.prog Rows.fnEveryNameComesRow.laid W) : Glob W := by
  have h1 : laidMet Tryd.prog [(nmJs, .agg [.lit (.string (headB false).data.toList), .lit (.string (tailB false).data.toList)]), (nmCss, .agg [.lit (.string (headB true).data.toList), .lit (.string (tailB true).data.toList)])] W := h
  obtain ⟨a0, a1, az⟩ := pair_of_laid gJs gJsType h1
  obtain ⟨b0, b1, _⟩ := pair_of_laid gCss gCssType h1.tail
  exact ⟨by omega, b0, b1, a0, a1⟩

/-- The invalid reference. -/
structure GlobR (w : World) : Prop extends Glob w where
  size3 : 3 ≤ w.heap.size
  c20 : w.cell? ⟨2, 0, none⟩ = some (.int .u32 4294967295)
  c21 : w.cell? ⟨2, 1, none⟩ = some (.int .u32 4294967295)
theorem GlobR.below {B : Nat} {w w' : World} (h : GlobR w) (hb : Below B w w') (hB : 3 ≤ B) : GlobR w' where
  toGlob := h.toGlob.below hb (by omega)
  size3 := Nat.le_trans h.size3 hb.size
  c20 := (hb.cell (p := ⟨2, 0, none⟩) (show 2 < B by omega)).trans h.c20
  c21 := (hb.cell (p := ⟨2, 1, none⟩) (show 2 < B by omega)).trans h.c21

/-- What the list of three gives. -/
theorem globR_of_laid {W : World} (h : laidMetH Tryd.prog Rows.fnUsesAddUpRow.laid W) : GlobR W := by
  have h1 : laidMet Tryd.prog [(nmInv, .agg [.lit (.int .u32 4294967295), .lit (.int .u32 4294967295)]), (nmJs, .agg [.lit (.string (headB false).data.toList), .lit (.string (tailB false).data.toList)]), (nmCss, .agg [.lit (.string (headB true).data.toList), .lit (.string (tailB true).data.toList)])] W := h
  obtain ⟨r0, r1, rz⟩ := ref_of_laid gInv gInvType h1
  obtain ⟨a0, a1, az⟩ := pair_of_laid gJs gJsType h1.tail
  obtain ⟨b0, b1, _⟩ := pair_of_laid gCss gCssType h1.tail.tail
  exact ⟨⟨by omega, b0, b1, a0, a1⟩, by omega, r0, r1⟩

/-- A WORLD FOR THE WITNESS: the settled one, the three variables holding what their initialisers lay. -/
def laidObj (cs : Array Value) (o : Obj) : Obj := match o with
  | .cells _ t frozen => .cells cs t frozen
  | o => o
noncomputable def laidWorld (os : Os) : World :=
  { World.holding Tryd.prog os ⟨#[], #[], []⟩ with heap := (((World.holding Tryd.prog os ⟨#[], #[], []⟩).heap.modify 0 (laidObj #[.string (headB true), .string (tailB true)])).modify 1
      (laidObj #[.string (headB false), .string (tailB false)])).modify 2 (laidObj #[.int .u32 4294967295, .int .u32 4294967295]) }

section
variable {H : Type} {enc : TypeId × Value → H} {P : Program}
theorem post_of_below {f : Func} {s : ChangeSpec} {apart fresh handsOn again : Bool} {W W' : World} {args : Array Value} {v : Value} {ds gs : List (DataW H)} {before pa pv : List MemPlace}
    (hW : DataW.Whole enc P f.params.toList s.vars apart W args.toList ds gs before)
    (hres : ∀ (b : Nat) (sp : Nat → Bool) (hd : Bool), DataW.TrodAll enc P W' b sp hd f.resultTypes.toList (v.resultList f.resultTypes.size) (s.fn H (ds ++ gs)).results [])
    (hargs : ∀ sp : Nat → Bool, (∀ p ∈ before, sp p.block = true) → DataW.TrodAll enc P W' 0 sp true f.params.toList args.toList (s.fn H (ds ++ gs)).args pa)
    (hvars : ∀ sp : Nat → Bool, (∀ p ∈ before, sp p.block = true) → DataW.TrodVars enc P W' sp s.vars (s.fn H (ds ++ gs)).vars pv)
    (hps : before = pa ++ pv) (hb : Below W.heap.size W W')
    (hok : ∀ (j : Nat) (t : TypeId) (r : Value), f.resultTypes[j]? = some t → (v.resultList f.resultTypes.size)[j]? = some r → Value.okWide P W' .any 0 t r) :
    s.post enc P f apart fresh handsOn again W args v W' := by
  have hlt : ∀ p ∈ before, p.block < W.heap.size := fun p hp => hW.lt p hp
  have hold : ∀ p ∈ before, (fun b => decide (b < W.heap.size)) p.block = true := fun p hp => by simpa using hlt p hp
  refine ⟨ds, gs, before, [], pa, pv, hW, hres _ _ _, hargs _ hold, hvars _ hold, World.keptBut_mono (fun p hp => ⟨hp, ?_⟩) (hb.frame (· ∈ before)), fun _ => ?_⟩
  · rw [hps, List.mem_append] at hp
    exact Or.inr hp
  · obtain ⟨_, _, _, _, _, hz, hn⟩ := hW
    refine ⟨hok, _, _, ([] ++ pa) ++ pv, ⟨[] ++ pa, pv, trodAll_append (hargs _ (fun _ _ => rfl)) (hres _ _ _), hvars _ (fun _ _ => rfl), rfl, ?_, ?_⟩, ?_⟩
    · intro b off hp
      have hin : MemPlace.cell b off ∈ before := by rw [hps]; simpa using hp
      rw [hb.frozen (hlt _ hin)]
      exact hz b off hin
    · intro ha
      have := hn ha
      rw [hps] at this
      simpa using this
    · intro p hp _
      rw [hps]
      simpa using hp
end

end Go.Proofs.YtbkgbnejmgjiiaaDoor
