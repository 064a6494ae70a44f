/- What NumberToMinifiedName, impl.Name and laws.wakes compute: the name of a number. Conditions: the two minifiers lie as their initialisers lay them (Glob); the number is below 2^62; 1 to 1000 heads, 2 to 1000 tails. -/
import Derived.Test.YtbkgbnejmgjiiaaDoorWNames
import Derived.Test.YtbkgbnejmgjiiaaDoorWBuilder
namespace Go.Proofs.YtbkgbnejmgjiiaaDoor
open Go.RowKit

/-- the two minifiers as their initialisers lay them -/
structure Glob (w : World) : Prop where
  size : 2 ≤ w.heap.size
  c00 : w.cell? ⟨0, 0, none⟩ = some (.string (headB true))
  c01 : w.cell? ⟨0, 1, none⟩ = some (.string (tailB true))
  c10 : w.cell? ⟨1, 0, none⟩ = some (.string (headB false))
  c11 : w.cell? ⟨1, 1, none⟩ = some (.string (tailB false))

theorem Glob.below {B : Nat} {w w' : World} (h : Glob w) (hb : Below B w w') (hB : 2 ≤ B) : Glob w' where
  size := Nat.le_trans h.size hb.size
  c00 := (hb.cell (p := ⟨0, 0, none⟩) (show 0 < B by omega)).trans h.c00
  c01 := (hb.cell (p := ⟨0, 1, none⟩) (show 0 < B by omega)).trans h.c01
  c10 := (hb.cell (p := ⟨1, 0, none⟩) (show 1 < B by omega)).trans h.c10
  c11 := (hb.cell (p := ⟨1, 1, none⟩) (show 1 < B by omega)).trans h.c11


theorem cell_alloc_old {w : World} {a : Addr} {v : Value} (h : w.cell? a = some v) (hb : a.block < w.heap.size) (o : Obj) : (w.alloc o).cell? a = some v :=
  (((Below.refl _ w).alloc (Nat.le_refl _) o).cell hb).trans h

theorem minifier_any (css : Bool) (w : World) (hg : Glob w) :
    Calls Tryd.prog 37 #[.bool css] w fun e w' => e = .returned (.agg #[.string (headB css), .string (tailB css)]) ∧ Below w.heap.size w w' := by
  obtain ⟨hsz, c00, c01, c10, c11⟩ := hg
  have d00 := cell_alloc_old c00 (show 0 < w.heap.size by omega)
  have d01 := cell_alloc_old c01 (show 0 < w.heap.size by omega)
  have d10 := cell_alloc_old c10 (show 1 < w.heap.size by omega)
  have d11 := cell_alloc_old c11 (show 1 < w.heap.size by omega)
  clear c00 c01 c10 c11
  cases css
  · go_enter Tryd.func37, Tryd.ntmps37
    go_wp2
    refine bodyPost_ret (v := .agg #[.string (headB false), .string (tailB false)]) (by simp [results, Tryd.results37, go_sem]) rfl ⟨rfl, ?_⟩
    exact (Below.refl _ _).alloc (Nat.le_refl _) _
  · go_enter Tryd.func37, Tryd.ntmps37
    go_wp2
    refine bodyPost_ret (v := .agg #[.string (headB true), .string (tailB true)]) (by simp [results, Tryd.results37, go_sem]) rfl ⟨rfl, ?_⟩
    exact (Below.refl _ _).alloc (Nat.le_refl _) _
theorem strCells_one (s : ByteArray) (j : Nat) (hj : j < s.size) : Lib.strCells (s.extract j (j + 1)) = Lib.byteCells [s.data.toList.getD j 0] := by
  have hj' : j < s.data.toList.length := by rw [← Lib.size_eq]; exact hj
  have : (s.extract j (j + 1)).data.toList = [s.data.toList.getD j 0] := by
    rw [Lib.extract_data, show j + 1 - j = 1 from by omega, List.drop_eq_getElem_cons hj', List.getD_eq_getElem?_getD, List.getElem?_eq_getElem hj']
    simp
  unfold Lib.strCells Lib.byteCells
  rw [this]
theorem size_one (s : ByteArray) (j : Nat) (hj : j < s.size) : (s.extract j (j + 1)).size = 1 := by
  rw [Lib.size_eq, Lib.extract_data, List.length_take, List.length_drop, ← Lib.size_eq]; omega

/-- how far a name has come: n is still to be told, acc is told -/
def NameRel (tl : List UInt8) (pre : UInt8) (n0 n : Nat) (acc : List UInt8) : Prop :=
  1 ≤ acc.length ∧ n ≤ n0 ∧ 2 ^ (acc.length - 1) * n ≤ n0 ∧ acc ++ restN tl n0 n = pre :: restN tl n0 n0
theorem NameRel.start (tl : List UInt8) (pre : UInt8) (n0 : Nat) : NameRel tl pre n0 n0 [pre] := ⟨by simp, Nat.le_refl _, by simp, rfl⟩
theorem NameRel.step {tl : List UInt8} {pre : UInt8} {n0 n : Nat} {acc : List UInt8} (h : NameRel tl pre n0 n acc) (ht : 2 ≤ tl.length) (hn : 0 < n) :
    NameRel tl pre n0 ((n - 1) / tl.length) (acc ++ [tl.getD ((n - 1) % tl.length) 0]) := by
  obtain ⟨h1, h2, h3, h4⟩ := h
  have a1 : (n - 1) / tl.length ≤ (n - 1) / 2 := Nat.div_le_div_left ht (by omega)
  refine ⟨by simp, by omega, ?_, ?_⟩
  · have e : (acc ++ [tl.getD ((n - 1) % tl.length) 0]).length - 1 = (acc.length - 1) + 1 := by simp; omega
    rw [e, Nat.pow_succ, Nat.mul_assoc]
    refine Nat.le_trans (Nat.mul_le_mul_left _ ?_) h3
    omega
  · rw [← h4, restN_step tl n0 n (by omega) h2]
    simp
theorem NameRel.len {tl : List UInt8} {pre : UInt8} {n0 n : Nat} {acc : List UInt8} (h : NameRel tl pre n0 n acc) (hn : 0 < n) (h0 : n0 ≤ 4611686018427387903) : acc.length ≤ 62 := by
  obtain ⟨h1, h2, h3, h4⟩ := h
  rcases Nat.lt_or_ge 62 acc.length with h | h
  · exfalso
    have a1 : 2 ^ 62 ≤ 2 ^ (acc.length - 1) := Nat.pow_le_pow_right (by omega) (by omega)
    have a2 : 2 ^ (acc.length - 1) * 1 ≤ 2 ^ (acc.length - 1) * n := Nat.mul_le_mul_left _ hn
    have a3 : (2 : Nat) ^ 62 = 4611686018427387904 := by decide
    omega
  · exact h
theorem NameRel.done {tl : List UInt8} {pre : UInt8} {n0 : Nat} {acc : List UInt8} (h : NameRel tl pre n0 0 acc) : acc = pre :: restN tl n0 n0 := by
  obtain ⟨h1, h2, h3, h4⟩ := h
  rw [restN_zero] at h4
  simpa using h4

set_option maxHeartbeats 400000 in
theorem ntm_any (hd tl : ByteArray) (i : Nat) (w : World) (h1 : 1 ≤ hd.size) (h2 : hd.size ≤ 1000) (t1 : 2 ≤ tl.size) (t2 : tl.size ≤ 1000) (hi : i ≤ 4611686018427387903) :
    Calls Tryd.prog 38 #[.agg #[.string hd, .string tl], .int .i64 i] w fun e w' => e = .returned (.string ⟨(nameOf hd.data.toList tl.data.toList i).toArray⟩) ∧ Below w.heap.size w w' := by
  have HLT := Lib.hid (Lib.size_eq tl)
  have HLH := Lib.hid (Lib.size_eq hd)
  go_enter Tryd.func38, Tryd.ntmps38
  have hm : 0 ≤ (i : Int) % (hd.size : Int) ∧ (i : Int) % (hd.size : Int) < hd.size := ⟨Int.emod_nonneg _ (by omega), Int.emod_lt_of_pos _ (by omega)⟩
  have hmn : i % hd.size < hd.size := Nat.mod_lt _ (by omega)
  have hqn : 0 ≤ (i : Int) / (hd.size : Int) ∧ (i : Int) / (hd.size : Int) ≤ i := ⟨Int.ediv_nonneg (by omega) (by omega), Int.ediv_le_self _ (by omega)⟩
  have HB := Lib.hid (Lib.fresh_isBuilder 119 5 (w.alloc (.cells #[.string hd, .string tl] 74)))
  go_wp2_with fail
  refine (writeString_any (w.heap.size + 1) (w.heap.size + 1) [] _ _ (by simpa using HB.out) (by rw [size_one _ _ hmn]; simp) (by simp)).mono ?_
  rintro e w1 ⟨rfl, hb1, hl1⟩
  rw [strCells_one _ _ hmn, List.nil_append] at hb1
  have HB1 := Lib.hid hb1
  clear hb1
  have HBL := Lib.hid (((Below.refl (w.heap.size + 1) (w.alloc (.cells #[.string hd, .string tl] 74))).alloc (by simp) _).trans hl1)
  clear hl1
  go_wp2
  go_loopw [1] (fun v wr => ∃ (n : Nat) (acc : List UInt8), v = .int .i64 n ∧ n ≤ i / hd.size ∧ Hid (NameRel tl.data.toList (hd.data.toList.getD (i % hd.size) 0) (i / hd.size) n acc) ∧ Hid (Lib.IsBuilder 119 5 (w.heap.size + 1) (w.heap.size + 1) (Lib.byteCells acc) wr) ∧ Hid (Below (w.heap.size + 1) (w.alloc (.cells #[.string hd, .string tl] 74)) wr)) (fun v _ => (intOf v).toNat)
  case atStart => 
    exact ⟨i / hd.size, _, by go_num, Nat.le_refl _, NameRel.start _ _ _, .inr HB1.out, HBL.out⟩
  case round =>
    obtain ⟨n, acc, rfl, hn, HR, HI, HW⟩ := hrel
    have hdi : i / hd.size ≤ i := Nat.div_le_self _ _
    have c1 : wr.cell? ⟨w.heap.size, 1, none⟩ = some (.string tl) := (HW.out.cell (p := ⟨w.heap.size, 1, none⟩) (by simp)).trans (by go_simp)
    by_cases h0 : 0 < n
    · have hm1 : 0 ≤ ((n : Int) - 1) % (tl.size : Int) ∧ ((n : Int) - 1) % (tl.size : Int) < tl.size := ⟨Int.emod_nonneg _ (by omega), Int.emod_lt_of_pos _ (by omega)⟩
      have hm2 : (n - 1) % tl.size < tl.size := Nat.mod_lt _ (by omega)
      have hq2 : 0 ≤ ((n : Int) - 1) / (tl.size : Int) ∧ ((n : Int) - 1) / (tl.size : Int) ≤ (n : Int) - 1 := ⟨Int.ediv_nonneg (by omega) (by omega), Int.ediv_le_self _ (by omega)⟩
      have hlen := HR.out.len h0 (by omega)
      have hsz := HW.out.size
      go_wp2_with fail
      refine (writeString_any (w.heap.size + 1) (w.heap.size + 1) (Lib.byteCells acc) _ _ HI.out (by rw [size_one _ _ hm2, Lib.byteCells_length]; omega) (by simpa using hsz)).mono ?_
      rintro e w2 ⟨rfl, hb2, hl2⟩
      rw [strCells_one _ _ hm2] at hb2
      have HB2 := Lib.hid hb2
      clear hb2
      have HW2 := Lib.hid (HW.out.trans hl2)
      clear hl2
      go_wp2
      go_roundw
      case rel =>
        refine ⟨(n - 1) / tl.size, acc ++ [tl.data.toList.getD ((n - 1) % tl.size) 0], by rw [show ((n : Int) - 1) = ((n - 1 : Nat) : Int) from by omega, ← Int.natCast_ediv], ?_, ?_, .inr ?_, HW2.out⟩
        · have := Nat.div_le_self (n - 1) tl.size; omega
        · have hst := HR.out.step (by rw [← HLT.out]; exact t1) h0
          rw [← HLT.out] at hst
          exact hst
        · have hb := HB2.out
          unfold Lib.byteCells at hb ⊢
          rw [List.map_append]
          exact hb
      case measure => simp [intOf]; omega
    · obtain rfl : n = 0 := by omega
      have HD := Lib.hid HR.out.done
      have hfin : acc = nameOf hd.data.toList tl.data.toList i := by
        rw [HD.out]; unfold nameOf; rw [← HLH.out]
      have HF := Lib.hid hfin; clear hfin
      go_wp2_with fail
      refine (string_any (w.heap.size + 1) (w.heap.size + 1) acc _ HI.out (by rw [HD.out]; simp)).mono ?_
      rintro e w2 ⟨rfl, hl2⟩
      have HW2 := Lib.hid (HW.out.trans hl2)
      clear hl2
      go_wp2
      go_ret
      refine ⟨?_, ?_⟩
      · rw [← HF.out]; rfl
      · exact (((Below.refl w.heap.size w).alloc (Nat.le_refl _) _).trans (HW2.out.mono (by omega)))
theorem name_any (css : Bool) (i : Nat) (w : World) (hg : Glob w) (hi : i ≤ 4611686018427387903) :
    Calls Tryd.prog 16 #[.bool css, .int .i64 i] w fun e w' => e = .returned (.string ⟨(nameOf (hdL css) (tlL css) i).toArray⟩) ∧ Below w.heap.size w w' := by
  have a1 := headB_le css
  have a2 := tailB_le css
  have a3 := headB_ge css
  have a4 := tailB_ge css
  go_enter Tryd.func16, Tryd.ntmps16
  go_wp2_with fail
  refine (minifier_any css _ hg).mono ?_
  rintro e w1 ⟨rfl, hb1⟩
  have HB1 := Lib.hid hb1
  clear hb1
  go_wp2_with fail
  refine (ntm_any _ _ i _ (by omega) (by omega) (by omega) (by omega) hi).mono ?_
  rintro e w2 ⟨rfl, hb2⟩
  have HB2 := Lib.hid (HB1.out.trans (hb2.mono HB1.out.size))
  clear hb2
  go_wp2
  go_ret
  exact ⟨rfl, HB2.out⟩

theorem name_a : (⟨(nameOf (hdL false) (tlL false) 0).toArray⟩ : ByteArray) = ⟨#[97]⟩ := by decide
theorem name_b : (⟨(nameOf (hdL true) (tlL true) 1).toArray⟩ : ByteArray) = ⟨#[98]⟩ := by decide

theorem wakes_any (w : World) (hg : Glob w) :
    Calls Tryd.prog 15 #[] w fun e w' => e = .returned (.bool true) ∧ Below w.heap.size w w' := by
  go_enter Tryd.func15, Tryd.ntmps15
  go_wp2_with fail
  refine (name_any false 0 _ hg (by omega)).mono ?_
  rw [name_a]
  rintro e w1 ⟨rfl, hb1⟩
  have HB1 := Lib.hid hb1
  clear hb1
  go_wp2_with fail
  refine (name_any true 1 _ (hg.below HB1.out hg.size) (by omega)).mono ?_
  rw [name_b]
  rintro e w2 ⟨rfl, hb2⟩
  have HB2 := Lib.hid (HB1.out.trans (hb2.mono HB1.out.size))
  clear hb2
  go_wp2
  go_ret
  exact ⟨rfl, HB2.out⟩
end Go.Proofs.YtbkgbnejmgjiiaaDoor
