/- The law FnFollowingChangesNothing returns true for slices of at most 1048576 elements, in every world in which the two minifiers and the invalid reference lie as their initialisers lay them; what lay in memory stands. -/
import Derived.Test.YtbkgbnejmgjiiaaDoorLMergeA
namespace Go.Proofs.YtbkgbnejmgjiiaaDoor
open Go.RowKit Go.Deep

theorem info50 : (Tryd.prog.info? 50).map (fun i => (i.zero, i.size, i.bytes)) = some (some (.agg #[.int .i64 0, .int .i64 0]), 2, 16) := by kernel_rfl
/-- the merges among steps -/
def mergesOf (l : List (Int × Int)) : List (Int × Int) := l.filter fun p => decide (0 ≤ p.2)
theorem mergesOf_yes (l : List (Int × Int)) (k : Nat) (h : k < l.length) (hy : 0 ≤ l[k].2) : mergesOf (l.take (k + 1)) = mergesOf (l.take k) ++ [l[k]] := by
  unfold mergesOf
  rw [List.take_succ_eq_append_getElem h, List.filter_append]
  simp [hy]
theorem mergesOf_no (l : List (Int × Int)) (k : Nat) (h : k < l.length) (hy : ¬ 0 ≤ l[k].2) : mergesOf (l.take (k + 1)) = mergesOf (l.take k) := by
  unfold mergesOf
  rw [List.take_succ_eq_append_getElem h, List.filter_append]
  simp [hy]
theorem mergesOf_le (l : List (Int × Int)) : (mergesOf l).length ≤ l.length := List.length_filter_le _ _

set_option maxHeartbeats 4000000 in
set_option maxRecDepth 100000 in
theorem law_changes (A U D : Option Addr) (n m q c d cq : Nat) (l us : List Int) (steps : List (Int × Int)) (w : World) (hg : GlobR w) (hr : Reads w w.heap.size 1 A n (intCells l)) (hn : n = l.length) (hm : n ≤ 1048576)
    (hru : Reads w w.heap.size 1 U m (intCells us)) (hmu : m = us.length) (hmm : m ≤ 1048576) (hrs : Reads w w.heap.size 2 D q (pairCells steps)) (hq : q = steps.length) (hqq : q ≤ 1048576) :
    Calls Tryd.prog 8 #[.slice A n c, .slice U m d, .slice D q cq] w fun e w' => e = .returned (.bool true) ∧ Below w.heap.size w w' := by
  have HG := Lib.hid hg
  have HR := Lib.hid hr
  have HN := Lib.hid hn
  have HRU := Lib.hid hru
  have HMU := Lib.hid hmu
  have HRS := Lib.hid hrs
  have HQ := Lib.hid hq
  clear hg hr hn hru hmu hrs hq
  obtain ⟨i0, hi0, hz0, hz1, hz2⟩ := info_parts info50
  go_enter Tryd.func8, Tryd.ntmps8
  by_cases hok : okSizes l ∧ steps.length ≤ 3000 ∧ okSteps (totI l) steps
  · have HOK := Lib.hid hok
    clear hok
    have HRD := Lib.hid (ready_any A D n q c cq l steps w HR.out HN.out (by omega) HRS.out HQ.out (by omega) true (by simp [HOK.out]))
    obtain ⟨sz, hl, hs, htot⟩ := szI_of HOK.out.1
    rw [htot] at HRD
    have HST : Hid (okSteps (sz.sum : Int) steps) := by rw [← htot]; exact HOK.out.2.2
    have hq3 : q ≤ 3000 := by rw [HQ.out]; exact HOK.out.2.1
    clear htot HOK
    subst hl
    have HN2 : Hid (n = sz.length) := HN.out.trans (szI_length sz)
    go_wp2_with fail
    refine HRD.out.mono ?_
    rintro e w1 ⟨v, rfl, hown, hb1⟩
    have HB1 := Lib.hid hb1
    clear hown hb1 HRD
    by_cases hu : okUses us
    · have HU := Lib.hid hu
      clear hu
      go_wp2_with fail
      refine (counted_any U m d us w1 ((HRU.out.below HB1.out).more HB1.out.size) HMU.out (by omega) true (by simp [HU.out])).mono ?_
      rintro e w1' ⟨rfl, rfl⟩
      go_wp2_with fail
      go_loopw [10, 37] (fun x y wr => ∃ k : Nat, k ≤ q ∧ y = .int .i64 k ∧ Hid (wr.ownsRow w1.heap.size 50 2 x (mergesOf (steps.take k)).length (pairCells (mergesOf (steps.take k)))) ∧ Hid (Below w1.heap.size w1 wr)) (fun _ y _ => q - (intOf y).toNat)
      case atStart => exact ⟨0, by omega, rfl, World.ownsRow_nil _ _ _ _, Below.refl _ _⟩
      case round =>
        obtain ⟨k, hk, rfl, HO, HW⟩ := hrel
        by_cases hlt : k < q
        · have hk2 : k < steps.length := by rw [← HQ.out]; exact hlt
          obtain ⟨b, off, rfl, hbB, c0, c1⟩ := HRS.out.pair hk2 (HB1.out.trans (HW.out.mono HB1.out.size))
          have HYE := Lib.hid (mergesOf_yes steps k hk2)
          have HNO := Lib.hid (mergesOf_no steps k hk2)
          have hml := mergesOf_le (steps.take k)
          have hmk : (steps.take k).length ≤ k := by rw [List.length_take]; omega
          generalize steps[k] = sk at *
          obtain ⟨x1, x2⟩ := sk
          simp only at c0 c1
          by_cases hneg : 0 ≤ x2
          · have HYE2 := Lib.hid (HYE.out hneg)
            have hwz : w1.heap.size ≤ wr.heap.size := HW.out.size
            go_upto_region 9 with fail
            have HOW := Lib.hid ((HO.out.alloc (.cells #[.int .i64 x1, .int .i64 x2] 50)).alloc (.cells #[.int .i64 x1, .int .i64 x2] 50))
            have HBW := Lib.hid ((HW.out.alloc HW.out.size (.cells #[.int .i64 x1, .int .i64 x2] 50)).alloc (HW.out.alloc HW.out.size (.cells #[.int .i64 x1, .int .i64 x2] 50)).size (.cells #[.int .i64 x1, .int .i64 x2] 50))
            have y0 : (wr.alloc (.cells #[.int .i64 x1, .int .i64 x2] 50)).cell? ⟨wr.heap.size, 0, none⟩ = some (.int .i64 x1) := (Lib.cell_of_heap (heap_alloc_new wr _) _).trans rfl
            have y1 : (wr.alloc (.cells #[.int .i64 x1, .int .i64 x2] 50)).cell? ⟨wr.heap.size, 1, none⟩ = some (.int .i64 x2) := (Lib.cell_of_heap (heap_alloc_new wr _) _).trans rfl
            have hws : wr.heap.size < (wr.alloc (.cells #[.int .i64 x1, .int .i64 x2] 50)).heap.size := by rw [World.size_alloc]; omega
            generalize (wr.alloc (.cells #[.int .i64 x1, .int .i64 x2] 50)) = W at *
            have HD3 := Lib.hid (reads_new W #[.int .i64 x1, .int .i64 x2] 50 (b := W.heap.size) rfl)
            generalize (mergesOf (steps.take k)) = mk at *
            clear HO HW
            go_wp2_with (at_builtin; refine wpList_append_any _ rfl _ _ 44 rfl w1.heap.size 50 i0 _ 2 16 Tryd.underlying44 hi0 hz0 hz1 hz2 rfl (by decide) _ _ _ rfl HOW.out (W.heap.size + 1) (some ⟨W.heap.size, 0, none⟩) 1 1 [.int .i64 x1, .int .i64 x2] rfl HD3.out ?c2 ?c3 ?c4 ?c5 ?_)
            case c2 => first | exact ⟨rfl, rfl⟩ | (intro u hu; simp at hu; rcases hu with rfl | rfl <;> rfl)
            case c3 => unfold maxLen; omega
            case c4 => omega
            case c5 => omega
            intro v' w5 hown5 hg5 _
            have HO5 : Hid (w5.ownsRow w1.heap.size 50 2 v' (mk.length + 1) (pairCells (mk ++ [(x1, x2)]))) := by rw [pairCells_append]; exact hown5
            have HB5 := Lib.hid (HBW.out.grown hg5 HBW.out.size (fun g hgg => (HOW.out.lt g hgg).1))
            clear hown5 hg5 HOW HBW y0 y1 HD3
            go_wp2
            go_roundw
            case rel => exact ⟨k + 1, by omega, by go_num, by rw [HYE2.out, List.length_append]; exact HO5.out, HB5.out⟩
            case measure => simp [intOf]; omega
          · have HNO2 := Lib.hid (HNO.out hneg)
            have HOW := Lib.hid (HO.out.alloc (.cells #[.int .i64 x1, .int .i64 x2] 50))
            have HBW := Lib.hid (HW.out.alloc HW.out.size (.cells #[.int .i64 x1, .int .i64 x2] 50))
            go_wp2
            go_roundw
            case rel => exact ⟨k + 1, by omega, by go_num, by rw [HNO2.out]; exact HOW.out, HBW.out⟩
            case measure => simp [intOf]; omega
        · have hkq : k = q := by omega
          subst hkq
          have hst : steps.take k = steps := by rw [HQ.out]; exact List.take_length
          rw [hst] at HO
          clear hst hlt hk
          obtain ⟨AM, cM, rfl, _, hrm⟩ := own_slice HO.out
          have HRM := Lib.hid hrm
          have HBX := Lib.hid (HB1.out.trans (HW.out.mono HB1.out.size))
          have HMS : Hid (okSteps (sz.sum : Int) (mergesOf steps)) := fun s hs => HST.out s (List.mem_filter.1 hs).1
          have HRN : Hid ((St.mk id (u0 us)).run (mergesOf steps) = (St.mk id (u0 us)).run steps) := St.run_merges steps _
          have hml := mergesOf_le steps
          rw [← HQ.out] at hml
          clear hrm HO HW HB1
          generalize mergesOf steps = mg at *
          go_wp2_with fail
          refine (impMerge_any A U D n m k c d cq sz us steps true wr (HG.out.below HBX.out HG.out.size3).inv ((HR.out.below HBX.out).more HBX.out.size) HN2.out hm ((HRU.out.below HBX.out).more HBX.out.size) HMU.out (by omega) ((HRS.out.below HBX.out).more HBX.out.size) HQ.out hq3 hs HU.out HST.out).mono ?_
          rintro e w2 ⟨v1, v2, v3, tl, rfl, _, _, ho2, ho3, hb2⟩
          obtain ⟨A2, c2, rfl, _, hr2⟩ := own_slice ho2
          obtain ⟨A3, c3, rfl, _, hr3⟩ := own_slice ho3
          have HR2 := Lib.hid hr2
          have HR3 := Lib.hid hr3
          have HB2 := Lib.hid (HBX.out.trans (hb2.mono HBX.out.size))
          have HRM2 := Lib.hid ((HRM.out.below hb2).more hb2.size)
          clear ho2 ho3 hr2 hr3 hb2 HRM HBX
          go_wp2_with fail
          refine (impMerge_any A U AM n m mg.length c d cM sz us mg false w2 (HG.out.below HB2.out HG.out.size3).inv ((HR.out.below HB2.out).more HB2.out.size) HN2.out hm ((HRU.out.below HB2.out).more HB2.out.size) HMU.out (by omega) HRM2.out rfl (by omega) hs HU.out HMS.out).mono ?_
          rintro e w3 ⟨v4, v5, v6, tl2, rfl, _, _, ho5, ho6, hb3⟩
          rw [HRN.out] at ho5 ho6
          obtain ⟨A5, c5, rfl, _, hr5⟩ := own_slice ho5
          obtain ⟨A6, c6, rfl, _, hr6⟩ := own_slice ho6
          have HR5 := Lib.hid hr5
          have HR6 := Lib.hid hr6
          have HB3 := Lib.hid (HB2.out.trans (hb3.mono HB2.out.size))
          have HR2b := Lib.hid (HR2.out.below hb3)
          have HR3b := Lib.hid (HR3.out.below hb3)
          clear ho5 ho6 hr5 hr6 hb3 HR2 HR3 HB2 HRM2
          generalize (St.mk id (u0 us)).run steps = st at *
          go_wp2_with fail
          go_loopw [79] (fun x wr => ∃ k : Nat, k ≤ sz.sum ∧ x = .int .i64 k ∧ ∃ nd, wr = w3.drewN nd) (fun x _ => sz.sum - (intOf x).toNat)
          case atStart => exact ⟨0, by omega, rfl, 0, rfl⟩
          case round =>
            obtain ⟨j, hj, rfl, nd, rfl⟩ := hrel
            by_cases hlt : j < sz.sum
            · obtain ⟨ba, oa, rfl, _, a0, a1⟩ := HR2b.out.place (k := j) (by simpa using hlt) (Below.refl _ w3)
              obtain ⟨bb, ob, rfl, _, b0, b1⟩ := HR5.out.place (k := j) (by simpa using hlt) (Below.refl _ w3)
              obtain ⟨bx, ox, rfl, _, x0⟩ := HR3b.out.int (k := j) (by simpa using hlt) (Below.refl _ w3)
              obtain ⟨bY, oY, rfl, _, y0⟩ := HR6.out.int (k := j) (by simpa using hlt) (Below.refl _ w3)
              simp only [List.getElem_map, List.getElem_range] at a0 a1 b0 b1 x0 y0
              generalize pl sz (st.g j) = P at *
              generalize st.u j = UJ at *
              go_upto_region 18 with fail
              go_quiet (fail)
              go_wp2
              go_roundw
              case rel => exact ⟨j + 1, by omega, by go_num, nd + nq, rfl⟩
              case measure => simp [intOf]; omega
            · go_wp2_with fail
              refine (wakes_any _ ((HG.out.toGlob.below HB3.out HG.out.toGlob.size).drewN nd)).mono ?_
              rintro e w5 ⟨rfl, hb5⟩
              have HB5 := Lib.hid ((below_drewN HB3.out nd).trans (hb5.mono HB3.out.size))
              clear hb5
              go_wp2
              go_ret
              exact ⟨rfl, HB5.out⟩
    · have HU := Lib.hid hu
      clear hu
      go_wp2_with fail
      refine (counted_any U m d us w1 ((HRU.out.below HB1.out).more HB1.out.size) HMU.out (by omega) false (by simp [HU.out])).mono ?_
      rintro e w1' ⟨rfl, rfl⟩
      go_wp2_with fail
      refine (wakes_any _ (HG.out.toGlob.below HB1.out HG.out.toGlob.size)).mono ?_
      rintro e w5 ⟨rfl, hb5⟩
      have HB5 := Lib.hid (HB1.out.trans (hb5.mono HB1.out.size))
      clear hb5
      go_wp2
      go_ret
      exact ⟨rfl, HB5.out⟩
  · have HOK := Lib.hid hok
    clear hok
    have HRD := Lib.hid (ready_any A D n q c cq l steps w HR.out HN.out (by omega) HRS.out HQ.out (by omega) false (by simp only [Bool.false_eq_true, false_iff]; exact HOK.out))
    go_wp2_with fail
    refine HRD.out.mono ?_
    rintro e w1 ⟨v, rfl, hown, hb1⟩
    have HB1 := Lib.hid hb1
    clear hown hb1 HRD
    go_wp2_with fail
    refine (wakes_any _ (HG.out.toGlob.below HB1.out HG.out.toGlob.size)).mono ?_
    rintro e w5 ⟨rfl, hb5⟩
    have HB5 := Lib.hid (HB1.out.trans (hb5.mono HB1.out.size))
    clear hb5
    go_wp2
    go_ret
    exact ⟨rfl, HB5.out⟩
end Go.Proofs.YtbkgbnejmgjiiaaDoor
