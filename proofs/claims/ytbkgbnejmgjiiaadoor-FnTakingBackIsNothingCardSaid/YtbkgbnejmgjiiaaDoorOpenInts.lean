/- How an argument that is a slice of numbers or a slice of steps is opened. Conditions: none beyond the hypotheses of each lemma. -/
import Derived.Test.YtbkgbnejmgjiiaaDoorOpenTexts
import Derived.Test.YtbkgbnejmgjiiaaDoorWSizes
namespace Go.Proofs.YtbkgbnejmgjiiaaDoor
open Go.ChangeShapes Go.WideShapes Go.ChangeAt Go.RowKit Go.Deep
set_option maxRecDepth 100000

theorem cells50 : Tryd.prog.cellsOf 50 = 2 := by kernel_rfl
theorem bytes50 : Tryd.prog.bytesOf 50 = 16 := by kernel_rfl
theorem bytes3 : Tryd.prog.bytesOf 3 = 8 := by kernel_rfl

theorem open_ints {H : Type} {enc : TypeId × Value → H} {W : World} {base : Nat} {v : Value} {d : DataW H} {p : List MemPlace}
    (hv : Value.okWide Tryd.prog W .any base 40 v) (h : DataW.Trod enc Tryd.prog W 0 (fun _ => true) true 40 v d p) :
    ∃ A n c l, v = .slice A n c ∧ n = l.length ∧ n ≤ c ∧ c ≤ maxLen ∧ Reads W W.heap.size 1 A n (intCells l) ∧ n ≤ Rows.uptoBulk d ∧
      (∀ B : Nat, (d.weights Tryd.prog 40).all (· ≤ B) = true → n * 8 ≤ B) := by
  obtain ⟨A, len, cap, rfl⟩ := okWide_slice Tryd.underlying40 hv
  obtain ⟨fuel, hf⟩ := h
  rcases open_slice1 Tryd.underlying40 cells3 hf with ⟨hcs, hx⟩ | ⟨a, len', cap', m, k, V, D, P, hcs, _, hl, hm, hmm, hx, hel⟩
  · simp only [Value.cells] at hcs
    simp at hcs
    obtain ⟨rfl, rfl, rfl⟩ := hcs
    exact ⟨none, 0, 0, [], rfl, rfl, Nat.le_refl _, by unfold maxLen; omega, Reads.none_, Nat.zero_le _, fun B _ => (by omega)⟩
  · simp only [Value.cells] at hcs
    simp at hcs
    obtain ⟨rfl, rfl, rfl⟩ := hcs
    simp only [if_true] at hmm
    obtain rfl : cap = m := hmm.symm
    have hd : d = .slice ((List.range len).map D) ((List.range (cap - len)).map fun j => D (len + j)) := congrArg Prod.fst hx
    subst hd
    have hch : ∀ i, i < cap → ∃ q : Int, V i = .int .i64 q := by
      intro i hi
      obtain ⟨z, ez, _, _⟩ := DataW.trod_int Tryd.underlying3 (hel i hi).2
      simp at ez
      exact ⟨z, ez⟩
    obtain ⟨q, hq⟩ := choose_lt hch
    refine ⟨some a, len, cap, (List.range len).map q, rfl, by simp, hl, hm, ?_, ?_, ?_⟩
    · refine reads_of_cells (by rw [intCells_length]; simp) (fun j u hu => ?_) (by decide)
      have hj : j < len := by
        have := (List.getElem?_eq_some_iff.1 hu).1
        simpa [intCells] using this
      rw [(hel j (by omega)).1, hq j (by omega)]
      rw [← hu]
      simp [intCells, hj]
    · refine Nat.le_trans ?_ (bulk_slice _ _)
      have := bulk_length ((List.range len).map D)
      simpa using this
    · intro B hB
      simp only [DataW.weights, Tryd.underlying40, List.all_cons, Bool.and_eq_true, decide_eq_true_eq, List.length_map, List.length_range, bytes3] at hB
      omega

theorem pairCells_get (S T : Nat → Int) (n : Nat) (j : Nat) (u : Value) (h : (pairCells ((List.range n).map fun i => (S i, T i)))[j]? = some u) :
    ∃ i, i < n ∧ ((j = i * 2 ∧ u = .int .i64 (S i)) ∨ (j = i * 2 + 1 ∧ u = .int .i64 (T i))) := by
  have hl := pairCells_length ((List.range n).map fun i => (S i, T i))
  simp only [List.length_map, List.length_range] at hl
  have hj : j < n * 2 := by
    have := (List.getElem?_eq_some_iff.1 h).1
    omega
  have hat := pairCells_at ((List.range n).map fun i => (S i, T i)) (j / 2) (by simp; omega)
  simp only [List.getElem_map, List.getElem_range] at hat
  refine ⟨j / 2, by omega, ?_⟩
  rcases Nat.mod_two_eq_zero_or_one j with hm | hm
  · left
    have e : j = j / 2 * 2 := by omega
    refine ⟨e, ?_⟩
    rw [e] at h
    rw [hat.1] at h
    injection h with h
    rw [← h]
  · right
    have e : j = j / 2 * 2 + 1 := by omega
    refine ⟨e, ?_⟩
    rw [e] at h
    rw [hat.2] at h
    injection h with h
    rw [← h]

theorem open_steps {H : Type} {enc : TypeId × Value → H} {W : World} {base : Nat} {v : Value} {d : DataW H} {p : List MemPlace}
    (hv : Value.okWide Tryd.prog W .any base 44 v) (h : DataW.Trod enc Tryd.prog W 0 (fun _ => true) true 44 v d p) :
    ∃ A n c l, v = .slice A n c ∧ n = l.length ∧ n ≤ c ∧ c ≤ maxLen ∧ Reads W W.heap.size 2 A n (pairCells l) ∧ n ≤ Rows.uptoBulk d := by
  obtain ⟨A, len, cap, rfl⟩ := okWide_slice Tryd.underlying44 hv
  obtain ⟨fuel, hf⟩ := h
  rcases open_slice_pairs Tryd.underlying44 Tryd.underlying50 cells50 rfl rfl cells3 cells3 hf with ⟨hcs, hx⟩ | ⟨a, len', cap', m, k, V0, V1, D0, D1, P0, P1, hcs, _, hl, hm, hmm, hx, hel⟩
  · simp only [Value.cells] at hcs
    simp at hcs
    obtain ⟨rfl, rfl, rfl⟩ := hcs
    exact ⟨none, 0, 0, [], rfl, rfl, Nat.le_refl _, by unfold maxLen; omega, Reads.none_, Nat.zero_le _⟩
  · simp only [Value.cells] at hcs
    simp at hcs
    obtain ⟨rfl, rfl, rfl⟩ := hcs
    simp only [if_true] at hmm
    obtain rfl : cap = m := hmm.symm
    have hd : d = .slice ((List.range len).map fun i => .agg [D0 i, D1 i]) ((List.range (cap - len)).map fun j => .agg [D0 (len + j), D1 (len + j)]) := congrArg Prod.fst hx
    subst hd
    have hch : ∀ i, i < cap → ∃ q : Int × Int, V0 i = .int .i64 q.1 ∧ V1 i = .int .i64 q.2 := by
      intro i hi
      obtain ⟨_, _, t0, t1⟩ := hel i hi
      obtain ⟨y, ey, _, _⟩ := DataW.trod_int Tryd.underlying3 t0
      obtain ⟨z, ez, _, _⟩ := DataW.trod_int Tryd.underlying3 t1
      simp at ey ez
      exact ⟨(y, z), ey, ez⟩
    obtain ⟨q, hq⟩ := choose_lt hch
    refine ⟨some a, len, cap, (List.range len).map fun i => ((q i).1, (q i).2), rfl, by simp, hl, hm, ?_, ?_⟩
    · refine reads_of_cells (by rw [pairCells_length]; simp) (fun j u hu => ?_) (by decide)
      obtain ⟨i, hi, h' | h'⟩ := pairCells_get (fun i => (q i).1) (fun i => (q i).2) len j u hu
      · rw [h'.1, (hel i (by omega)).1, (hq i (by omega)).1, h'.2]
      · rw [h'.1, (hel i (by omega)).2.1, (hq i (by omega)).2, h'.2]
    · refine Nat.le_trans ?_ (bulk_slice _ _)
      have := bulk_length ((List.range len).map fun i => (DataW.agg [D0 i, D1 i] : DataW H))
      simpa using this
end Go.Proofs.YtbkgbnejmgjiiaaDoor
