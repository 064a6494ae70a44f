/- How an argument that is a slice of texts is opened, with the bound on its weights. Conditions: none beyond the hypotheses of each lemma. -/
import Derived.Test.YtbkgbnejmgjiiaaDoorOpenTexts
namespace Go.Proofs.YtbkgbnejmgjiiaaDoor
open Go.ChangeShapes Go.WideShapes Go.ChangeAt Go.RowKit Go.Deep
set_option maxRecDepth 100000

theorem weights_part {H : Type} {e : TypeId} {d : DataW H} {l : List (DataW H)} {x : Nat} (h : d ∈ l) (hx : x ∈ d.weights Tryd.prog e) : x ∈ DataW.weightsAll Tryd.prog e l := by
  induction l with
  | nil => cases h
  | cons y r ih =>
    simp only [DataW.weightsAll, List.mem_append]
    rcases List.mem_cons.1 h with rfl | h
    · exact Or.inl hx
    · exact Or.inr (ih h)

theorem open_texts_w {H : Type} {enc : TypeId × Value → H} {W : World} {base : Nat} {v : Value} {d : DataW H} {p : List MemPlace} {B : Nat}
    (hv : Value.okWide Tryd.prog W .any base 36 v) (h : DataW.Trod enc Tryd.prog W 0 (fun _ => true) true 36 v d p) (hB : ∀ x ∈ d.weights Tryd.prog 36, x ≤ B) :
    ∃ A n c ts, v = .slice A n c ∧ TextsIn W A n c ts ∧ n * 24 ≤ B ∧ ∀ t ∈ ts, t.1.size ≤ B := by
  obtain ⟨A, len, cap, rfl⟩ := okWide_slice Tryd.underlying36 hv
  obtain ⟨fuel, hf⟩ := h
  rcases open_slice_pairs Tryd.underlying36 Tryd.underlying65 cells65 rfl rfl cells9 cells3 hf with ⟨hcs, hx⟩ | ⟨a, len', cap', m, k, V0, V1, D0, D1, P0, P1, hcs, _, hl, hm, hmm, hx, hel⟩
  · simp only [Value.cells] at hcs
    simp at hcs
    obtain ⟨rfl, rfl, rfl⟩ := hcs
    exact ⟨none, 0, 0, [], rfl, ⟨rfl, Nat.le_refl _, by unfold maxLen; omega, Reads.none_, fun t ht => (by cases ht)⟩, by omega, fun t ht => (by cases ht)⟩
  · simp only [Value.cells] at hcs
    simp at hcs
    obtain ⟨rfl, rfl, rfl⟩ := hcs
    simp only [if_true] at hmm
    obtain rfl : cap = m := hmm.symm
    have hd : d = .slice ((List.range len).map fun i => .agg [D0 i, D1 i]) ((List.range (cap - len)).map fun j => .agg [D0 (len + j), D1 (len + j)]) := congrArg Prod.fst hx
    subst hd
    have hch : ∀ i, i < cap → ∃ q : ByteArray × Int, V0 i = .string q.1 ∧ V1 i = .int .i64 q.2 ∧ D0 i = .lit (.string q.1.data.toList) ∧ q.1.size ≤ maxLen := by
      intro i hi
      obtain ⟨_, _, t0, t1⟩ := hel i hi
      obtain ⟨s, es, ed, hs⟩ := DataW.trod_string Tryd.underlying9 t0
      obtain ⟨z, ez, _, _⟩ := DataW.trod_int Tryd.underlying3 t1
      simp at es ez
      exact ⟨(s, z), es, ez, congrArg Prod.fst ed, hs⟩
    obtain ⟨q, hq⟩ := choose_lt hch
    have hw : ∀ x, x ∈ ((((List.range len).map fun i => (DataW.agg [D0 i, D1 i] : DataW H)).length + ((List.range (cap - len)).map fun j => (DataW.agg [D0 (len + j), D1 (len + j)] : DataW H)).length) * 24 :: (DataW.weightsAll Tryd.prog 65 ((List.range len).map fun i => .agg [D0 i, D1 i]) ++ DataW.weightsAll Tryd.prog 65 ((List.range (cap - len)).map fun j => .agg [D0 (len + j), D1 (len + j)]))) → x ≤ B := fun x hx => hB x (by
      simp only [DataW.weights, Tryd.underlying36, bytes65]
      exact hx)
    refine ⟨some a, len, cap, (List.range len).map fun i => ((q i).1, (q i).2), rfl, ⟨by simp, hl, hm, ?_, ?_⟩, ?_, ?_⟩
    · refine reads_of_cells (by rw [txtCells_length]; simp) (fun j u hu => ?_) (by decide)
      obtain ⟨i, hi, h' | h'⟩ := txtCells_get (fun i => (q i).1) (fun i => (q i).2) len j u hu
      · rw [h'.1, (hel i (by omega)).1, (hq i (by omega)).1, h'.2]
      · rw [h'.1, (hel i (by omega)).2.1, (hq i (by omega)).2.1, h'.2]
    · intro t ht
      simp only [List.mem_map, List.mem_range] at ht
      obtain ⟨i, hi, rfl⟩ := ht
      exact (hq i (by omega)).2.2.2
    · have := hw _ (List.mem_cons_self)
      simp at this
      omega
    · intro t ht
      simp only [List.mem_map, List.mem_range] at ht
      obtain ⟨i, hi, rfl⟩ := ht
      show (q i).1.size ≤ B
      rw [Lib.size_eq]
      refine hw _ (List.mem_cons_of_mem _ (List.mem_append_left _ (weights_part (d := .agg [D0 i, D1 i]) (List.mem_map.2 ⟨i, List.mem_range.2 hi, rfl⟩) ?_)))
      simp only [DataW.weights, Tryd.underlying65]
      show _ ∈ DataW.weightsEach Tryd.prog [9, 3] [D0 i, D1 i]
      rw [(hq i (by omega)).2.2.1]
      simp [DataW.weightsEach, DataW.weights]
end Go.Proofs.YtbkgbnejmgjiiaaDoor
