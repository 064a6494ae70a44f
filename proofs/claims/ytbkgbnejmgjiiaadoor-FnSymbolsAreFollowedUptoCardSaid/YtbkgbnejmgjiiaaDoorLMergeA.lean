/- Lemmas that the laws of merged symbols share. Conditions: each lemma names its own. -/
import Derived.Test.YtbkgbnejmgjiiaaDoorWImMerge
import Derived.Test.YtbkgbnejmgjiiaaDoorFrame
namespace Go.Proofs.YtbkgbnejmgjiiaaDoor
open Go.RowKit Go.Deep

theorem GlobR.inv {w : World} (h : GlobR w) : InvRef w := ⟨h.size3, h.c20, h.c21⟩
theorem szI_of {l : List Int} (h : okSizes l) : ∃ sz, l = szI sz ∧ sz.sum ≤ 3000 ∧ totI l = (sz.sum : Int) := by
  have e := natsOf_back h.1
  have hs := sum_cast (natsOf l)
  rw [← e] at hs
  refine ⟨natsOf l, e, ?_, ?_⟩
  · have := h.2; omega
  · rw [totI_ok h, hs]
theorem reads_row {w : World} {b N : Nat} {F : Nat → Int} (h : w.rowIs b 3 N (fun j => .int .i64 (F j))) : Reads w w.heap.size 1 (some ⟨b, 0, none⟩) N (intCells ((List.range N).map F)) := by
  refine ⟨by simp [intCells], fun _ => ⟨_, rfl, h.lt, fun j u hu => ?_⟩⟩
  have hj : j < N := by
    have := (List.getElem?_eq_some_iff.1 hu).1
    simpa [intCells] using this
  have e : (Addr.add ⟨b, 0, none⟩ j) = ⟨b, j, none⟩ := by
    unfold Addr.add
    by_cases hj : j = 0 <;> simp [hj]
  rw [e, h.cell hj]
  rw [← hu]
  simp [intCells, hj]

theorem Reads.place {w wr : World} {B n k : Nat} {A : Option Addr} {sz l : List Nat} (h : Reads w B 2 A n (plCells sz l)) (hk : k < l.length) (hb : Below B w wr) : ∃ b off, A = some ⟨b, off, none⟩ ∧ b < B ∧ wr.cell? ⟨b, off + k * 2, none⟩ = some (.int .i64 ((pl sz l[k]).1 : Int)) ∧ wr.cell? ⟨b, off + k * 2 + 1, none⟩ = some (.int .i64 ((pl sz l[k]).2 : Int)) := by
  obtain ⟨b, off, e, hbB, hcell⟩ := h.at_ (by rw [plCells_length]; omega)
  have hc := plCells_at sz l k hk
  exact ⟨b, off, e, hbB, (hb.cell (p := ⟨b, _, none⟩) hbB).trans (hcell _ _ hc.1), (hb.cell (p := ⟨b, _, none⟩) hbB).trans (hcell _ _ hc.2)⟩
end Go.Proofs.YtbkgbnejmgjiiaaDoor
