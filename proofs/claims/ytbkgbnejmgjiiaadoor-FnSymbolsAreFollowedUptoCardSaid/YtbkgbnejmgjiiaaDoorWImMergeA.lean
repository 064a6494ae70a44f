/- What stands while impl.Merge runs: the table, the list of symbols and what has been told. Conditions: each lemma names its own. -/
import Derived.Test.YtbkgbnejmgjiiaaDoorWSym
namespace Go.Proofs.YtbkgbnejmgjiiaaDoor
open Go.RowKit Go.Deep

theorem info55 : (Tryd.prog.info? 55).map (fun i => (i.zero, i.size, i.bytes)) = some (some (.agg #[.int .i64 0, .int .i64 0]), 2, 16) := by kernel_rfl
theorem info3m : (Tryd.prog.info? 3).map (fun i => (i.zero, i.size, i.bytes)) = some (some (.int .i64 0), 1, 8) := by kernel_rfl

def plCells (sz : List Nat) (l : List Nat) : List Value := l.flatMap fun i => [.int .i64 ((pl sz i).1 : Int), .int .i64 ((pl sz i).2 : Int)]
theorem plCells_snoc (sz : List Nat) (l : List Nat) (i : Nat) : plCells sz (l ++ [i]) = plCells sz l ++ [.int .i64 ((pl sz i).1 : Int), .int .i64 ((pl sz i).2 : Int)] := by simp [plCells]
theorem plCells_length (sz : List Nat) (l : List Nat) : (plCells sz l).length = l.length * 2 := by
  induction l with
  | nil => rfl
  | cons t ts ih => simp only [plCells, List.flatMap_cons, List.length_append, List.length_cons, List.length_nil] at *; omega
theorem plCells_at (sz : List Nat) (l : List Nat) : ∀ (k : Nat) (h : k < l.length), (plCells sz l)[k * 2]? = some (.int .i64 ((pl sz l[k]).1 : Int)) ∧ (plCells sz l)[k * 2 + 1]? = some (.int .i64 ((pl sz l[k]).2 : Int)) := by
  induction l with
  | nil => intro k h; simp at h
  | cons p r ih =>
    intro k h
    cases k with
    | zero => exact ⟨rfl, rfl⟩
    | succ k =>
      have := ih k (by simpa using h)
      have e1 : (k + 1) * 2 = k * 2 + 1 + 1 := by omega
      rw [e1]
      simpa [plCells] using this
theorem rfCells_at (l : List (Nat × Nat)) : ∀ (k : Nat) (h : k < l.length), (rfCells l)[k * 2]? = some (.int .u32 (l[k].1 : Int)) ∧ (rfCells l)[k * 2 + 1]? = some (.int .u32 (l[k].2 : Int)) := by
  induction l with
  | nil => intro k h; simp at h
  | cons p r ih =>
    intro k h
    cases k with
    | zero => exact ⟨rfl, rfl⟩
    | succ k =>
      have := ih k (by simpa using h)
      have e1 : (k + 1) * 2 = k * 2 + 1 + 1 := by omega
      rw [e1]
      simpa [rfCells] using this
/-- what steps tell -/
structure ToldOk (n : Nat) (st : St) (steps : List (Int × Int)) (tl : List Nat) : Prop where
  len : tl.length = steps.length
  lt : ∀ k (h : k < tl.length), tl[k] < n
  fol : ∀ k (h : k < tl.length) (h2 : k < steps.length), steps[k].2 < 0 → tl[k] = (st.run (steps.take k)).g steps[k].1.toNat
  mer : ∀ k (h : k < tl.length) (h2 : k < steps.length), ¬ steps[k].2 < 0 → (st.run (steps.take k)).g tl[k] = (st.run (steps.take k)).g steps[k].2.toNat
theorem ToldOk.none (n : Nat) (st : St) : ToldOk n st [] [] := ⟨rfl, fun k h => by simp at h, fun k h => by simp at h, fun k h => by simp at h⟩
theorem ToldOk.snoc {n : Nat} {st : St} {steps : List (Int × Int)} {tl : List Nat} {k t : Nat} (h : ToldOk n st (steps.take k) tl) (hk : k < steps.length) (ht : t < n)
    (h1 : steps[k].2 < 0 → t = (st.run (steps.take k)).g steps[k].1.toNat) (h2 : ¬ steps[k].2 < 0 → (st.run (steps.take k)).g t = (st.run (steps.take k)).g steps[k].2.toNat) : ToldOk n st (steps.take (k + 1)) (tl ++ [t]) := by
  have hlen : tl.length = k := by rw [h.len, List.length_take]; omega
  have hl2 : (steps.take k).length = k := by rw [List.length_take]; omega
  have hst : steps.take (k + 1) = steps.take k ++ [steps[k]] := List.take_succ_eq_append_getElem hk
  constructor
  · rw [List.length_append, List.length_take, hlen]; simp; omega
  · intro j hj
    rw [List.length_append, hlen] at hj
    simp at hj
    by_cases e : j < k
    · rw [List.getElem_append_left (by omega)]; exact h.lt j (by omega)
    · have : j = k := by omega
      subst this
      rw [List.getElem_append_right (by omega)]
      simpa [hlen] using ht
  · intro j hj hj2 hlt
    rw [List.length_append, hlen] at hj
    simp at hj
    by_cases e : j < k
    · rw [List.getElem_append_left (by omega)]
      have hg : (steps.take (k + 1))[j] = (steps.take k)[j]'(by omega) := by simp
      have ht2 : (steps.take (k + 1)).take j = (steps.take k).take j := by rw [List.take_take, List.take_take, Nat.min_eq_left (by omega), Nat.min_eq_left (by omega)]
      rw [hg] at hlt ⊢
      rw [ht2]
      exact h.fol j (by omega) (by omega) hlt
    · have : j = k := by omega
      subst this
      have hg : (steps.take (j + 1))[j] = steps[j] := by simp
      have ht2 : (steps.take (j + 1)).take j = steps.take j := by rw [List.take_take, Nat.min_eq_left (by omega)]
      rw [hg] at hlt ⊢
      rw [List.getElem_append_right (by omega), ht2]
      simpa [hlen] using h1 hlt
  · intro j hj hj2 hlt
    rw [List.length_append, hlen] at hj
    simp at hj
    by_cases e : j < k
    · rw [List.getElem_append_left (by omega)]
      have hg : (steps.take (k + 1))[j] = (steps.take k)[j]'(by omega) := by simp
      have ht2 : (steps.take (k + 1)).take j = (steps.take k).take j := by rw [List.take_take, List.take_take, Nat.min_eq_left (by omega), Nat.min_eq_left (by omega)]
      rw [hg] at hlt ⊢
      rw [ht2]
      exact h.mer j (by omega) (by omega) hlt
    · have : j = k := by omega
      subst this
      have hg : (steps.take (j + 1))[j] = steps[j] := by simp
      have ht2 : (steps.take (j + 1)).take j = steps.take j := by rw [List.take_take, Nat.min_eq_left (by omega)]
      rw [hg] at hlt ⊢
      rw [List.getElem_append_right (by omega), ht2]
      simpa [hlen] using h2 hlt

/-- the table, the list of symbols, the box of the table -/
structure MS (w : World) (T : Tbl) (sz : List Nat) (N : Nat) (vr : Value) (st : St) (wr : World) : Prop where
  sym : Sym T sz st w.heap.size wr
  refs : wr.ownsRow w.heap.size 100 2 vr sz.sum (rfCells (refsTo sz sz.sum))
  refA : ∀ g, vr.ownBlock = some g → g < N ∧ ∀ f, f < T.nf → g ≠ T.B f
  box : wr.cell? ⟨N, 0, none⟩ = some (.slice (some ⟨T.S, 0, none⟩) T.nf T.nf)
  bel : Below w.heap.size w wr
  big : N < wr.heap.size
  ltS : T.S < N
  ltB : ∀ f, f < T.nf → T.B f < N
  base : w.heap.size ≤ N
section
variable {w : World} {T : Tbl} {sz : List Nat} {N : Nat} {vr : Value} {st st' : St} {wr w' : World}
theorem MS.kp (h : MS w T sz N vr st wr) (hk : Kp T wr w') (hs : Sym T sz st' w.heap.size w') : MS w T sz N vr st' w' :=
  { h with
    sym := hs
    refs := own_keep h.refs (fun g hg => hk.block g (h.refs.lt g hg).2 (h.refA g hg).2)
    box := (hk.cell (p := ⟨N, 0, none⟩) h.big (fun f hf e => by have := h.ltB f hf; simp only at e; omega)).trans h.box
    bel := by
      obtain ⟨s, ht, _⟩ := h.sym.tab
      exact h.bel.trans (hk.below ht)
    big := Nat.lt_of_lt_of_le h.big hk.size }
theorem MS.sub (h : MS w T sz N vr st wr) (hb : Below wr.heap.size wr w') : MS w T sz N vr st w' := h.kp (Kp.of_below hb) (h.sym.sub hb)
theorem MS.alloc (h : MS w T sz N vr st wr) (o : Obj) : MS w T sz N vr st (wr.alloc o) := h.sub ((Below.refl _ _).alloc (Nat.le_refl _) _)
theorem MS.grown {row : Option Nat} (h : MS w T sz N vr st wr) (hg : wr.grownBy w' row) (hr : ∀ g, row = some g → N < g) : MS w T sz N vr st w' :=
  { h with
    sym := h.sym.grown hg (fun g e => by have := hr g e; have := h.ltS; exact ⟨by omega, fun f hf => by have := h.ltB f hf; omega⟩)
    refs := own_keep h.refs (fun g hg' => hg.block g (h.refs.lt g hg').2 (fun e => by have := hr g e.symm; have := (h.refA g hg').1; omega))
    box := (World.cell?_of_block (hg.block N h.big (fun e => by have := hr N e.symm; omega))).trans h.box
    bel := h.bel.grown hg h.bel.size (fun g e => by have := hr g e; have := h.base; omega)
    big := Nat.lt_of_lt_of_le h.big hg.size }
theorem MS.inv (h : MS w T sz N vr st wr) (hi : InvRef w) : InvRef wr := hi.below h.bel hi.size3
theorem MS.few (h : MS w T sz N vr st wr) : T.nf ≤ 1048576 := by
  obtain ⟨s, ht, _⟩ := h.sym.tab
  exact ht.few
/-- the reference with a number -/
theorem MS.ref {i : Nat} (h : MS w T sz N vr st wr) (hi : i < sz.sum) : ∃ b off c, vr = .slice (some ⟨b, off, none⟩) sz.sum c ∧ sz.sum ≤ c ∧ wr.cell? ⟨b, off + i * 2, none⟩ = some (.int .u32 ((pl sz i).1 : Int)) ∧ wr.cell? ⟨b, off + i * 2 + 1, none⟩ = some (.int .u32 ((pl sz i).2 : Int)) := by
  obtain ⟨A, c, e, hc, hr⟩ := own_slice h.refs
  have hl : (refsTo sz sz.sum).length = sz.sum := by simp [refsTo]
  have hat := rfCells_at (refsTo sz sz.sum) i (by rw [hl]; exact hi)
  have hg : (refsTo sz sz.sum)[i]'(by rw [hl]; exact hi) = pl sz i := by simp [refsTo]
  rw [hg] at hat
  obtain ⟨b, off, rfl, _, hcell⟩ := hr.at_ (by
    have := (List.getElem?_eq_some_iff.1 hat.1).1
    omega)
  exact ⟨b, off, c, e, hc, hcell _ _ hat.1, hcell _ _ hat.2⟩
theorem MS.refAll (h : MS w T sz N vr st wr) (h0 : 0 < sz.sum) : ∃ b off c, vr = .slice (some ⟨b, off, none⟩) sz.sum c ∧ sz.sum ≤ c ∧ ∀ i, i < sz.sum → wr.cell? ⟨b, off + i * 2, none⟩ = some (.int .u32 ((pl sz i).1 : Int)) ∧ wr.cell? ⟨b, off + i * 2 + 1, none⟩ = some (.int .u32 ((pl sz i).2 : Int)) := by
  obtain ⟨b, off, c, e, hc, _⟩ := h.ref h0
  refine ⟨b, off, c, e, hc, fun i hi => ?_⟩
  obtain ⟨b', off', c', e', _, h1⟩ := h.ref hi
  rw [e] at e'
  injection e' with e1 e2 e3
  injection e1 with e1
  injection e1 with e1 e4
  subst e1 e4
  exact h1
end
theorem pl_small {T : Tbl} {sz : List Nat} {base : Nat} {s : UF} {w : World} (hF : Fits T sz) (ht : Tab T base s w) {i : Nat} (hi : i < sz.sum) : (pl sz i).1 ≤ 4294967295 ∧ (pl sz i).2 ≤ 4294967295 := by
  have h := hF.pl hi
  have h1 := ht.few
  have h2 := ht.small _ h.1
  have h3 := h.1
  have h4 := h.2
  constructor <;> omega
end Go.Proofs.YtbkgbnejmgjiiaaDoor
