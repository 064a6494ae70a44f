/- How an argument that is a slice of texts is opened, and what the bound on the bulk gives. Conditions: none beyond the hypotheses of each lemma. -/
import Derived.Test.YtbkgbnejmgjiiaaDoorFrameB
import Derived.Test.YtbkgbnejmgjiiaaDoorWTexts
import Derived.Deep.SlicePairs
namespace Go.Proofs.YtbkgbnejmgjiiaaDoor
open Go.ChangeShapes Go.WideShapes Go.ChangeAt Go.RowKit Go.Deep
set_option maxRecDepth 100000

theorem bulk_one {H : Type} (d : DataW H) : 1 ≤ Rows.uptoBulk d := by
  cases d with
  | lit l => cases l <;> simp [Rows.uptoBulk]
  | nil => simp [Rows.uptoBulk]
  | ptr d => simp [Rows.uptoBulk]
  | slice elems spare => simp [Rows.uptoBulk]
  | agg parts => simp [Rows.uptoBulk]
  | iface t d => simp [Rows.uptoBulk]
  | map entries => simp [Rows.uptoBulk]
  | held h => simp [Rows.uptoBulk]
theorem bulk_part {H : Type} {d : DataW H} {l : List (DataW H)} (h : d ∈ l) : Rows.uptoBulk d ≤ Rows.uptoBulkAll l := by
  induction l with
  | nil => cases h
  | cons x r ih =>
    simp only [Rows.uptoBulkAll]
    cases List.mem_cons.1 h with
    | inl e => subst e; omega
    | inr e => have := ih e; omega
theorem bulk_length {H : Type} (l : List (DataW H)) : l.length ≤ Rows.uptoBulkAll l := by
  induction l with
  | nil => simp [Rows.uptoBulkAll]
  | cons x r ih => have := bulk_one x; simp only [Rows.uptoBulkAll, List.length_cons]; omega
theorem bulk_slice {H : Type} (elems spare : List (DataW H)) : Rows.uptoBulkAll elems ≤ Rows.uptoBulk (.slice elems spare) := by
  simp only [Rows.uptoBulk]; omega
theorem bulk_string {H : Type} (bytes : List UInt8) : Rows.uptoBulk (DataW.lit (H := H) (.string bytes)) = bytes.length + 1 := by
  simp [Rows.uptoBulk]

theorem bulk_bound {H : Type} {l : List (DataW H)} (h : Rows.uptoSmall H l = true) : Rows.uptoBulkAll l ≤ 1048576 := of_decide_eq_true h
theorem cells65 : Tryd.prog.cellsOf 65 = 2 := by kernel_rfl
theorem cells3 : Tryd.prog.cellsOf 3 = 1 := by kernel_rfl
theorem bytes65 : Tryd.prog.bytesOf 65 = 24 := by kernel_rfl

/-- what a slice of texts that came in is -/
structure TextsIn (W : World) (A : Option Addr) (n c : Nat) (ts : List (ByteArray × Int)) : Prop where
  len : n = ts.length
  cap : n ≤ c
  max : c ≤ maxLen
  reads : Reads W W.heap.size 2 A n (txtCells ts)
  size : ∀ t ∈ ts, t.1.size ≤ maxLen

theorem reads_of_cells {W : World} {a : Addr} {n size : Nat} {xs : List Value} (hl : xs.length = n * size) (h : ∀ j u, xs[j]? = some u → W.cell? (a.add j) = some u) (hsz : 0 < size) : Reads W W.heap.size size (some a) n xs := by
  refine ⟨hl, fun hn => ⟨a, rfl, ?_, h⟩⟩
  have hx : 0 < xs.length := by rw [hl]; exact Nat.mul_pos hn hsz
  have h0 := h 0 _ (List.getElem?_eq_getElem hx)
  have := cell_lt h0
  rw [block_of_add] at this
  exact this

theorem txtCells_get (S : Nat → ByteArray) (T : Nat → Int) (n : Nat) (j : Nat) (u : Value) (h : (txtCells ((List.range n).map fun i => (S i, T i)))[j]? = some u) :
    ∃ i, i < n ∧ ((j = i * 2 ∧ u = .string (S i)) ∨ (j = i * 2 + 1 ∧ u = .int .i64 (T i))) := by
  have hl := txtCells_length ((List.range n).map fun i => (S i, T i))
  simp only [List.length_map, List.length_range] at hl
  have hj : j < n * 2 := by
    have := (List.getElem?_eq_some_iff.1 h).1
    omega
  have hat := txtCells_at ((List.range n).map fun i => (S i, T i)) (j / 2) (by simp; omega)
  simp only [List.getElem_map, List.getElem_range] at hat
  refine ⟨j / 2, by omega, ?_⟩
  rcases Nat.mod_two_eq_zero_or_one j with hm | hm
  · left
    have e : j = j / 2 * 2 := by omega
    refine ⟨e, ?_⟩
    rw [e] at h
    rw [hat.1] at h
    injection h with h
    rw [← h]
  · right
    have e : j = j / 2 * 2 + 1 := by omega
    refine ⟨e, ?_⟩
    rw [e] at h
    rw [hat.2] at h
    injection h with h
    rw [← h]

theorem open_texts {H : Type} {enc : TypeId × Value → H} {W : World} {base : Nat} {v : Value} {d : DataW H} {p : List MemPlace}
    (hv : Value.okWide Tryd.prog W .any base 36 v) (h : DataW.Trod enc Tryd.prog W 0 (fun _ => true) true 36 v d p) :
    ∃ A n c ts, v = .slice A n c ∧ TextsIn W A n c ts ∧ n ≤ Rows.uptoBulk d ∧ (∀ t ∈ ts, t.1.size ≤ Rows.uptoBulk d) ∧
      (∀ B : Nat, (d.weights Tryd.prog 36).all (· ≤ B) = true → n * 24 ≤ B) := by
  obtain ⟨A, len, cap, rfl⟩ := okWide_slice Tryd.underlying36 hv
  obtain ⟨fuel, hf⟩ := h
  rcases open_slice_pairs Tryd.underlying36 Tryd.underlying65 cells65 rfl rfl cells9 cells3 hf with ⟨hcs, hx⟩ | ⟨a, len', cap', m, k, V0, V1, D0, D1, P0, P1, hcs, _, hl, hm, hmm, hx, hel⟩
  · simp only [Value.cells] at hcs
    simp at hcs
    obtain ⟨rfl, rfl, rfl⟩ := hcs
    exact ⟨none, 0, 0, [], rfl, ⟨rfl, Nat.le_refl _, by unfold maxLen; omega, Reads.none_, fun t ht => (by cases ht)⟩, Nat.zero_le _, fun t ht => (by cases ht), fun B _ => (by omega)⟩
  · simp only [Value.cells] at hcs
    simp at hcs
    obtain ⟨rfl, rfl, rfl⟩ := hcs
    simp only [if_true] at hmm
    obtain rfl : cap = m := hmm.symm
    have hd : d = .slice ((List.range len).map fun i => .agg [D0 i, D1 i]) ((List.range (cap - len)).map fun j => .agg [D0 (len + j), D1 (len + j)]) := congrArg Prod.fst hx
    subst hd
    have hch : ∀ i, i < cap → ∃ q : ByteArray × Int, V0 i = .string q.1 ∧ V1 i = .int .i64 q.2 ∧ D0 i = .lit (.string q.1.data.toList) ∧ q.1.size ≤ maxLen := by
      intro i hi
      obtain ⟨_, _, t0, t1⟩ := hel i hi
      obtain ⟨s, es, ed, hs⟩ := DataW.trod_string Tryd.underlying9 t0
      obtain ⟨z, ez, _, _⟩ := DataW.trod_int Tryd.underlying3 t1
      simp at es ez
      exact ⟨(s, z), es, ez, congrArg Prod.fst ed, hs⟩
    obtain ⟨q, hq⟩ := choose_lt hch
    refine ⟨some a, len, cap, (List.range len).map fun i => ((q i).1, (q i).2), rfl, ⟨by simp, hl, hm, ?_, ?_⟩, ?_, ?_, ?_⟩
    · refine reads_of_cells (by rw [txtCells_length]; simp) (fun j u hu => ?_) (by decide)
      obtain ⟨i, hi, h' | h'⟩ := txtCells_get (fun i => (q i).1) (fun i => (q i).2) len j u hu
      · rw [h'.1, (hel i (by omega)).1, (hq i (by omega)).1, h'.2]
      · rw [h'.1, (hel i (by omega)).2.1, (hq i (by omega)).2.1, h'.2]
    · intro t ht
      simp only [List.mem_map, List.mem_range] at ht
      obtain ⟨i, hi, rfl⟩ := ht
      exact (hq i (by omega)).2.2.2
    · refine Nat.le_trans ?_ (bulk_slice _ _)
      have := bulk_length ((List.range len).map fun i => (DataW.agg [D0 i, D1 i] : DataW H))
      simpa using this
    · intro t ht
      simp only [List.mem_map, List.mem_range] at ht
      obtain ⟨i, hi, rfl⟩ := ht
      refine Nat.le_trans ?_ (bulk_slice _ _)
      refine Nat.le_trans ?_ (bulk_part (d := .agg [D0 i, D1 i]) (List.mem_map.2 ⟨i, List.mem_range.2 hi, rfl⟩))
      simp only [Rows.uptoBulk, Rows.uptoBulkAll]
      rw [(hq i (by omega)).2.2.1, bulk_string, Lib.size_eq]
      omega
    · intro B hB
      simp only [DataW.weights, Tryd.underlying36, List.all_cons, Bool.and_eq_true, decide_eq_true_eq, List.length_map, List.length_range, bytes65] at hB
      omega
end Go.Proofs.YtbkgbnejmgjiiaaDoor
