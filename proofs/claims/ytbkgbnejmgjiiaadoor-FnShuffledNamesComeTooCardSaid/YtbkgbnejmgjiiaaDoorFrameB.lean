/- The last step of the laws whose arguments may be slices and arrays: the arguments read as before, the result is true. Conditions: the walk leaves what was in memory as it was. -/
import Derived.Test.YtbkgbnejmgjiiaaDoorFrame
import Derived.Laws.IdiomArrays
namespace Go.Proofs.YtbkgbnejmgjiiaaDoor
open Go.ChangeShapes Go.WideShapes Go.ChangeAt Go.RowKit

set_option maxRecDepth 100000
theorem laidOut : laidOutB Tryd.prog = true := by kernel_rfl

section
variable {H : Type} {enc : TypeId × Value → H}
theorem trodAll_later {W W' : World} (hb : Below W.heap.size W W') : ∀ (ts : List TypeId) (vs : List Value) (ds : List (DataW H)) (p : List MemPlace),
    (∀ t ∈ ts, Tryd.prog.readableRec t = true ∧ t < Tryd.prog.types.size) → DataW.TrodAll enc Tryd.prog W 0 (fun _ => true) true ts vs ds p →
    (∀ x ∈ p, x.block < W.heap.size) → ∀ sp : Nat → Bool, (∀ x ∈ p, sp x.block = true) → DataW.TrodAll enc Tryd.prog W' 0 sp true ts vs ds p := by
  intro ts
  induction ts with
  | nil =>
    intro vs ds p _ h _ sp _
    obtain ⟨rfl, rfl, rfl⟩ := trodAll_nil h
    exact trodAll_mk0
  | cons t ts ih =>
    intro vs ds p hr h hlt sp hsp
    obtain ⟨v0, vs0, d0, ds0, p0, q0, rfl, rfl, rfl, h0, r0⟩ := trodAll_cons h
    have hh := hr t (by simp)
    refine trodAll_cons_mk (WideElems.Trod_stays laidOut hh.1 hh.2 h0 (fun x hx => hb.same (hlt x (by simp [hx]))) (fun x hx => hsp x (by simp [hx]))) ?_
    exact ih vs0 ds0 q0 (fun t' ht' => hr t' (by simp [ht'])) r0 (fun x hx => hlt x (by simp [hx])) sp (fun x hx => hsp x (by simp [hx]))

/-- A LAW's LAST STEP: the arguments read as before, the result is true. -/
theorem law_post {f : Func} {s : ChangeSpec} {W W' : World} {args : Array Value} {ds : List (DataW H)} {before : List MemPlace}
    (hW : DataW.Whole enc Tryd.prog f.params.toList s.vars false W args.toList ds [] before) (hsv : s.vars = [])
    (hres : (s.fn H (ds ++ [])).results = [.lit (.bool true)]) (harg : (s.fn H (ds ++ [])).args = ds) (hvar : (s.fn H (ds ++ [])).vars = [])
    (hrt : f.resultTypes = #[4]) (hread : f.params.toList.all (fun t => Tryd.prog.readableRec t && decide (t < Tryd.prog.types.size)) = true)
    (hb : Below W.heap.size W W') : s.post enc Tryd.prog f false true false false W args (.bool true) W' := by
  have hW' := hW
  obtain ⟨p, q, hA, hV, rfl, hfz, hnd⟩ := hW
  rw [hsv] at hV
  obtain ⟨_, rfl⟩ := trodVars_none hV
  have hlt : ∀ x ∈ p ++ [], x.block < W.heap.size := fun x hx => hW'.lt x hx
  refine post_of_below (pa := p) (pv := []) hW' ?_ ?_ ?_ rfl hb ?_
  · intro b sp hd
    rw [hres, hrt]
    exact trodAll_cons_mk (shut_bool Tryd.underlying4 _) trodAll_mk0
  · intro sp hsp
    rw [harg]
    refine trodAll_later hb _ _ _ _ (fun t ht => ?_) hA (fun x hx => hlt x (by simp [hx])) sp (fun x hx => hsp x (by simp [hx]))
    have h1 := List.all_eq_true.1 hread t ht
    simpa using h1
  · intro sp _
    rw [hvar, hsv]
    rfl
  · exact ok_one hrt rfl (okWide_bool_mk Tryd.underlying4 _)
end

theorem cells30 : Tryd.prog.cellsOf 30 = 4 := by kernel_rfl
theorem list4 (l : List Value) (h : l.length = 4) : ∃ a b c d, l = [a, b, c, d] := by
  match l, h with
  | [a, b, c, d], _ => exact ⟨a, b, c, d, rfl⟩
theorem open_arr4 {H : Type} {enc : TypeId × Value → H} {W : World} {base b0 : Nat} {sp : Nat → Bool} {held : Bool} {v : Value} {d : DataW H} {p : List MemPlace}
    (hv : Value.okWide Tryd.prog W .any base 30 v) (h : DataW.Trod enc Tryd.prog W b0 sp held 30 v d p) :
    ∃ X : Nat → Int, v = .agg #[.int .u32 (X 0), .int .u32 (X 1), .int .u32 (X 2), .int .u32 (X 3)] := by
  obtain ⟨cs, rfl, hsz, _⟩ : ∃ cs, v = .agg cs ∧ cs.size = Tryd.prog.cellsOf 30 ∧ Row.okWide Tryd.prog W .any base 30 cs := by
    simpa [Value.okWide, Tryd.underlying30] using hv
  rw [cells30] at hsz
  obtain ⟨l⟩ := cs
  obtain ⟨c0, c1, c2, c3, rfl⟩ := list4 l hsz
  obtain ⟨fuel, hf⟩ := h
  obtain ⟨y0, y1, y2, y3, m, hx, hy0, hy1, hy2, hy3⟩ := trod_array4 Tryd.underlying30 cells29 hf
  obtain ⟨x0, e0, rfl, w0⟩ := DataW.trod_int Tryd.underlying29 hy0
  obtain ⟨x1, e1, rfl, w1⟩ := DataW.trod_int Tryd.underlying29 hy1
  obtain ⟨x2, e2, rfl, w2⟩ := DataW.trod_int Tryd.underlying29 hy2
  obtain ⟨x3, e3, rfl, w3⟩ := DataW.trod_int Tryd.underlying29 hy3
  simp at e0 e1 e2 e3
  subst e0 e1 e2 e3
  exact ⟨fun i => if i = 0 then x0 else if i = 1 then x1 else if i = 2 then x2 else x3, rfl⟩
end Go.Proofs.YtbkgbnejmgjiiaaDoor
