/- What impl.Shuffled returns: the names with some numbers, by the order of the characters that were counted. Conditions: texts that can be counted, numbers below 2^62. -/
import Derived.Test.YtbkgbnejmgjiiaaDoorPlainShuf
import Derived.Test.YtbkgbnejmgjiiaaDoorWTableW
namespace Go.Proofs.YtbkgbnejmgjiiaaDoor
open Go.RowKit Go.Deep

theorem info9 : (Tryd.prog.info? 9).map (fun i => (i.zero, i.size, i.bytes)) = some (some (.string ⟨#[]⟩), 1, 16) := by kernel_rfl
/-- names as cells -/
def nmCells (l : List (List UInt8)) : List Value := l.map fun x => .string ⟨x.toArray⟩
theorem nmCells_append (a b : List (List UInt8)) : nmCells (a ++ b) = nmCells a ++ nmCells b := by simp [nmCells]
theorem nmCells_length (l : List (List UInt8)) : (nmCells l).length = l.length := by simp [nmCells]
theorem nmCells_at (l : List (List UInt8)) (k : Nat) (h : k < l.length) : (nmCells l)[k]? = some (.string ⟨l[k].toArray⟩) := by simp [nmCells, h]

set_option maxHeartbeats 4000000 in
set_option maxRecDepth 100000 in
theorem shuffled_any (css : Bool) (A Nn : Option Addr) (n c q cq : Nat) (ts : List (ByteArray × Int)) (ns : List Nat) (w : World) (hg : Glob w) (hr : Reads w w.heap.size 2 A n (txtCells ts)) (hn : n = ts.length) (hm : n ≤ 9223372036854775807) (ht : areTexts (plainT ts))
    (hrn : Reads w w.heap.size 1 Nn q (intCells (szI ns))) (hq : q = ns.length) (hqq : q ≤ 1000000) (hb : ∀ x ∈ ns, x ≤ 4611686018427387903) :
    Calls Tryd.prog 34 #[.bool css, .slice A n c, .slice Nn q cq] w fun e w' => ∃ v h t, e = .returned v ∧ Ord (cnt (plainT ts)) (hdK css) h ∧ Ord (cnt (plainT ts)) (tlK css) t ∧ w'.ownsRow w.heap.size 9 1 v q (nmCells (ns.map (nameOf h t))) ∧ Below w.heap.size w w' := by
  have HG := Lib.hid hg
  have HR := Lib.hid hr
  have HN := Lib.hid hn
  have HT := Lib.hid ht
  have HRN := Lib.hid hrn
  have HQ := Lib.hid hq
  have HBN := Lib.hid hb
  clear hg hr hn ht hrn hq hb
  obtain ⟨i0, hi0, hz0, hz1, hz2⟩ := info_parts info9
  go_enter Tryd.func34, Tryd.ntmps34
  go_wp2_with fail
  refine (minifier_any css w HG.out).mono ?_
  rintro e w1 ⟨rfl, hb1⟩
  have HB1 := Lib.hid hb1
  clear hb1
  go_wp2_with fail
  refine (scanned_any A n c ts w1 ((HR.out.below HB1.out).more HB1.out.size) HN.out hm HT.out).mono ?_
  rintro e w2 ⟨rfl, hb2⟩
  have HB2 := Lib.hid (HB1.out.trans (hb2.mono HB1.out.size))
  clear hb2 HB1
  have a1 := tailB_le css
  have a2 := tailB_ge css
  go_wp2_with fail
  refine (shuffle_any (headB css) (tailB css) (cnt (plainT ts)) w2 (by omega) (by omega)).mono ?_
  rintro e w3 ⟨hB, tB, d, rfl, hp, hs, hh, htl, hb3⟩
  have HB3 := Lib.hid (HB2.out.trans (hb3.mono HB2.out.size))
  have hlen : (tlL css).length = (tailB css).size := (Lib.size_eq _).symm
  have HO := Lib.hid (ord_of (ts := tlL css) (F := cnt (plainT ts)) (d := d) (by omega) (tlL_getD css) (by rw [hlen]; exact hp) hs)
  have HOT : Hid (Ord (cnt (plainT ts)) (tlK css) tB.data.toList) := by
    show Ord _ _ _
    rw [htl]
    have := HO.out.1
    rw [tlL_len] at this
    exact this
  have HOH : Hid (Ord (cnt (plainT ts)) (hdK css) hB.data.toList) := by
    show Ord _ _ _
    rw [hh]
    have := HO.out.2
    rw [tlL_len] at this
    exact this
  have ht1 : tB.size = (tlK css).length := (Lib.size_eq _).trans HOT.out.length
  have hh1 : hB.size = (hdK css).length := (Lib.size_eq _).trans HOH.out.length
  have ht2 : 2 ≤ tB.size ∧ tB.size ≤ 1000 := by rw [ht1]; cases css <;> decide +kernel
  have hh2 : 1 ≤ hB.size ∧ hB.size ≤ 1000 := by rw [hh1]; cases css <;> decide +kernel
  clear hp hs hh htl hb3 HB2 hlen HO ht1 hh1 HT
  have HBA := Lib.hid (HB3.out.alloc HB3.out.size (.cells #[.string hB, .string tB] 74))
  have HX : Hid ((w3.alloc (.cells #[.string hB, .string tB] 74)).heap[w3.heap.size]? = some (.cells #[.string hB, .string tB] 74)) := heap_alloc_new w3 _
  have HGE : Hid (w.heap.size ≤ w3.heap.size) := HB3.out.size
  have HW3 : Hid (w3.heap.size < (w3.alloc (.cells #[.string hB, .string tB] 74)).heap.size) := by rw [World.size_alloc]; exact Nat.lt_succ_self _
  go_wp2_with fail
  generalize (w3.alloc (.cells #[.string hB, .string tB] 74)) = W3 at *
  generalize w3.heap.size = M at *
  go_loopw [8, 18] (fun v x wr => ∃ k : Nat, k ≤ q ∧ x = .int .i64 k ∧ Hid (wr.ownsRow (M + 1) 9 1 v k (nmCells ((ns.map (nameOf hB.data.toList tB.data.toList)).take k))) ∧ Hid (wr.heap[M]? = some (.cells #[.string hB, .string tB] 74)) ∧ Hid (Below w.heap.size w wr) ∧ Hid (M < wr.heap.size)) (fun _ x _ => q - (intOf x).toNat)
  case atStart => exact ⟨0, by omega, rfl, World.ownsRow_nil _ _ _ _, HX.out, HBA.out, HW3.out⟩
  case round =>
    clear HX HBA HW3
    obtain ⟨k, hk, rfl, HO, HX, HB, HLT⟩ := hrel
    by_cases hlt : k < q
    · have hk2 : k < ns.length := by rw [← HQ.out]; exact hlt
      obtain ⟨b, off, rfl, _, c0⟩ := HRN.out.int (k := k) (by simpa [szI] using hk2) HB.out
      rw [szI_get] at c0
      have hbn := HBN.out ns[k] (List.getElem_mem _)
      have HTK : Hid ((ns.map (nameOf hB.data.toList tB.data.toList)).take (k + 1) = (ns.map (nameOf hB.data.toList tB.data.toList)).take k ++ [nameOf hB.data.toList tB.data.toList ns[k]]) := by
        show _ = _
        rw [List.take_succ_eq_append_getElem (by simpa using hk2)]
        simp
      have x0 : wr.cell? ⟨M, 0, none⟩ = some (.string hB) := (Lib.cell_of_heap HX.out _).trans rfl
      have x1 : wr.cell? ⟨M, 1, none⟩ = some (.string tB) := (Lib.cell_of_heap HX.out _).trans rfl
      generalize ns[k] = nk at *
      go_wp2_with fail
      refine (ntm_any hB tB nk wr hh2.1 hh2.2 ht2.1 ht2.2 hbn).mono ?_
      rintro e w5 ⟨rfl, hb5⟩
      have hM5 : M < w5.heap.size := Nat.lt_of_lt_of_le HLT.out hb5.size
      have HO5 := Lib.hid ((own_below HO.out hb5).alloc (.cells #[.string ⟨(nameOf hB.data.toList tB.data.toList nk).toArray⟩] 9))
      have HX5 : Hid ((w5.alloc (.cells #[.string ⟨(nameOf hB.data.toList tB.data.toList nk).toArray⟩] 9)).heap[M]? = some (.cells #[.string hB, .string tB] 74)) := (Below.heap_alloc w5 _ M hM5).trans ((hb5.block M HLT.out).trans HX.out)
      have HB5' := HB.out.trans (hb5.mono HB.out.size)
      have HB5 := Lib.hid (HB5'.alloc HB5'.size (.cells #[.string ⟨(nameOf hB.data.toList tB.data.toList nk).toArray⟩] 9))
      have HD5 := Lib.hid (reads_new w5 #[.string ⟨(nameOf hB.data.toList tB.data.toList nk).toArray⟩] 9 (b := w5.heap.size) rfl)
      clear hb5 HB5' HO HX HB x0 x1
      generalize nameOf hB.data.toList tB.data.toList nk = nm at *
      go_wp2_with (at_builtin; refine wpList_append_any _ rfl _ _ 66 rfl (M + 1) 9 i0 _ 1 16 Tryd.underlying66 hi0 hz0 hz1 hz2 rfl (by decide) _ _ _ rfl HO5.out (w5.heap.size + 1) (some ⟨w5.heap.size, 0, none⟩) 1 1 [.string ⟨nm.toArray⟩] rfl HD5.out ?c2 ?c3 ?c4 ?c5 ?_)
      case c2 => first | rfl | (intro u hu; simp at hu; rcases hu with rfl; rfl)
      case c3 => unfold maxLen; omega
      case c4 => omega
      case c5 => first | omega | (rw [World.size_alloc]; omega)
      intro v' w6 hown6 hg6 _
      have HO6 : Hid (w6.ownsRow (M + 1) 9 1 v' (k + 1) (nmCells ((ns.map (nameOf hB.data.toList tB.data.toList)).take (k + 1)))) := by rw [HTK.out, nmCells_append]; exact hown6
      have hM6 : M < (w5.alloc (.cells #[.string ⟨nm.toArray⟩] 9)).heap.size := by rw [World.size_alloc]; omega
      have HX6 : Hid (w6.heap[M]? = some (.cells #[.string hB, .string tB] 74)) := (hg6.block M hM6 (fun e => by have := (HO5.out.lt M e.symm).1; omega)).trans HX5.out
      have HB6 := Lib.hid (HB5.out.grown hg6 HB5.out.size (fun g hgg => by have := (HO5.out.lt g hgg).1; have := HGE.out; omega))
      have HL6 : Hid (M < w6.heap.size) := Nat.lt_of_lt_of_le hM6 hg6.size
      clear hown6 hg6 HO5 HX5 HB5 HD5
      go_wp2
      go_roundw
      case rel => exact ⟨k + 1, by omega, by go_num, HO6.out, HX6.out, HB6.out, HL6.out⟩
      case measure => simp [intOf]; omega
    · have hkq : k = q := by omega
      subst hkq
      have hall : (ns.map (nameOf hB.data.toList tB.data.toList)).take k = ns.map (nameOf hB.data.toList tB.data.toList) := List.take_of_length_le (by have := HQ.out; simp; omega)
      rw [hall] at HO
      clear hall
      go_wp2
      go_ret
      exact ⟨_, _, _, rfl, HOH.out, HOT.out, own_lower HO.out (by have := HGE.out; omega), HB.out⟩
end Go.Proofs.YtbkgbnejmgjiiaaDoor
