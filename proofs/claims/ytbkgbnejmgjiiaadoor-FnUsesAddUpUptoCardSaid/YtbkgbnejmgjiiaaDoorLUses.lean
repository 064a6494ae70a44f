/- The law FnUsesAddUp returns true for slices of at most 1048576 elements, in every world in which the two minifiers and the invalid reference lie as their initialisers lay them; what lay in memory stands. -/
import Derived.Test.YtbkgbnejmgjiiaaDoorLMergeA
import Derived.Test.YtbkgbnejmgjiiaaDoorWSpMerge
import Derived.Test.YtbkgbnejmgjiiaaDoorWSpUses
namespace Go.Proofs.YtbkgbnejmgjiiaaDoor
open Go.RowKit Go.Deep

set_option maxHeartbeats 4000000 in
set_option maxRecDepth 100000 in
theorem law_uses (A U D : Option Addr) (n m q c d cq : Nat) (l us : List Int) (steps : List (Int × Int)) (w : World) (hg : GlobR w) (hr : Reads w w.heap.size 1 A n (intCells l)) (hn : n = l.length) (hm : n ≤ 1048576)
    (hru : Reads w w.heap.size 1 U m (intCells us)) (hmu : m = us.length) (hmm : m ≤ 1048576) (hrs : Reads w w.heap.size 2 D q (pairCells steps)) (hq : q = steps.length) (hqq : q ≤ 1048576) :
    Calls Tryd.prog 10 #[.slice A n c, .slice U m d, .slice D q cq] w fun e w' => e = .returned (.bool true) ∧ Below w.heap.size w w' := by
  have HG := Lib.hid hg
  have HR := Lib.hid hr
  have HN := Lib.hid hn
  have HRU := Lib.hid hru
  have HMU := Lib.hid hmu
  have HRS := Lib.hid hrs
  have HQ := Lib.hid hq
  clear hg hr hn hru hmu hrs hq
  go_enter Tryd.func10, Tryd.ntmps10
  by_cases hok : okSizes l ∧ steps.length ≤ 3000 ∧ okSteps (totI l) steps
  · have HOK := Lib.hid hok
    clear hok
    have HRD := Lib.hid (ready_any A D n q c cq l steps w HR.out HN.out (by omega) HRS.out HQ.out (by omega) true (by simp [HOK.out]))
    obtain ⟨sz, hl, hs, htot⟩ := szI_of HOK.out.1
    rw [htot] at HRD
    have HST : Hid (okSteps (sz.sum : Int) steps) := by rw [← htot]; exact HOK.out.2.2
    have hq3 : q ≤ 3000 := by rw [HQ.out]; exact HOK.out.2.1
    clear htot HOK
    subst hl
    have HN2 : Hid (n = sz.length) := HN.out.trans (szI_length sz)
    go_wp2_with fail
    refine HRD.out.mono ?_
    rintro e w1 ⟨v, rfl, hown, hb1⟩
    obtain ⟨A1, c1, rfl, _, hr1⟩ := own_slice hown
    have HB1 := Lib.hid hb1
    have HR1 := Lib.hid hr1
    clear hown hb1 hr1 HRD
    by_cases hu : okUses us
    · have HU := Lib.hid hu
      clear hu
      go_wp2_with fail
      refine (counted_any U m d us w1 ((HRU.out.below HB1.out).more HB1.out.size) HMU.out (by omega) true (by simp [HU.out])).mono ?_
      rintro e w1' ⟨rfl, rfl⟩
      go_wp2_with fail
      refine (impMerge_any A U D n m q c d cq sz us steps false w1 (HG.out.below HB1.out HG.out.size3).inv ((HR.out.below HB1.out).more HB1.out.size) HN2.out hm ((HRU.out.below HB1.out).more HB1.out.size) HMU.out (by omega) ((HRS.out.below HB1.out).more HB1.out.size) HQ.out hq3 hs HU.out HST.out).mono ?_
      rintro e w2 ⟨v1, v2, v3, tl, rfl, _, _, _, ho3, hb2⟩
      obtain ⟨A3, c3, rfl, _, hr3⟩ := own_slice ho3
      have HR3 := Lib.hid hr3
      have HB2 := Lib.hid (HB1.out.trans (hb2.mono HB1.out.size))
      have HR1b := Lib.hid ((HR1.out.below hb2).more hb2.size)
      clear ho3 hr3 hb2 HR1
      go_wp2_with fail
      refine (spMerge_any A1 q c1 sz.sum (u0 us) steps w2 HR1b.out HQ.out hq3 hs HST.out).mono ?_
      rintro e w3 ⟨v4, wl, rfl, _, _, hrow, hb3⟩
      have HROW := Lib.hid hrow
      have HB3 := Lib.hid (HB2.out.trans (hb3.mono HB2.out.size))
      have HR3b := Lib.hid ((HR3.out.below hb3).more hb3.size)
      clear hrow hb3 HR3 HR1b
      have HGD : Hid (Good sz.sum (u0 us) ((St.mk id (u0 us)).run steps)) := (Good.start _ _).run HST.out
      generalize (St.mk id (u0 us)).run steps = st at *
      go_wp2_with fail
      refine (spUses_any (some ⟨w2.heap.size, 0, none⟩) U sz.sum m sz.sum d st.g us w3 (reads_row HROW.out) hs HGD.out.lt ((HRU.out.below HB3.out).more HB3.out.size) HMU.out (by omega) HU.out).mono ?_
      rintro e w4 ⟨rfl, hrow4, hb4⟩
      have HROW4 := Lib.hid hrow4
      have HROW2 := Lib.hid (rowIs_below HROW.out hb4 HROW.out.lt)
      have HB4 := Lib.hid (HB3.out.trans (hb4.mono HB3.out.size))
      have HR4 := Lib.hid (HR3b.out.below hb4)
      clear hrow4 hb4 HROW HR3b HB1 HB2 HB3
      go_wp2_with fail
      go_loopw [56] (fun x wr => ∃ k : Nat, k ≤ sz.sum ∧ x = .int .i64 k ∧ ∃ nd, wr = w4.drewN nd) (fun x _ => sz.sum - (intOf x).toNat)
      case atStart => exact ⟨0, by omega, rfl, 0, rfl⟩
      case round =>
        obtain ⟨k, hk, rfl, nd, rfl⟩ := hrel
        by_cases hlt : k < sz.sum
        · have cg := HROW2.out.cell hlt
          have cw := HROW4.out.cell hlt
          obtain ⟨b, off, rfl, hbB, cc⟩ := HR4.out.int (k := k) (by simpa using hlt) (Below.refl _ w4)
          simp only [List.getElem_map, List.getElem_range] at cc
          have HE : Hid (st.g k = k → st.u k = usum sz.sum (u0 us) st.g k) := HGD.out.uses k hlt
          generalize hgk : st.g k = GK at *
          by_cases hroot : GK = k
          · subst hroot
            rw [HE.out rfl] at cc
            generalize usum sz.sum (u0 us) st.g GK = SU at *
            go_wp2_with fail
            go_quiet (fail)
            go_wp2
            go_roundw
            case rel => exact ⟨GK + 1, by omega, by go_num, nd + nq, rfl⟩
            case measure => simp [intOf]; omega
          · go_upto_region 12 with fail
            have hd : ((GK : Int) == (k : Int)) = false := by simp; omega
            go_quiet (fail)
            go_wp2
            go_roundw
            case rel => exact ⟨k + 1, by omega, by go_num, nd + nq, rfl⟩
            case measure => simp [intOf]; omega
        · go_wp2_with fail
          refine (wakes_any _ ((HG.out.toGlob.below HB4.out HG.out.toGlob.size).drewN nd)).mono ?_
          rintro e w5 ⟨rfl, hb5⟩
          have HB5 := Lib.hid ((below_drewN HB4.out nd).trans (hb5.mono HB4.out.size))
          clear hb5
          go_wp2
          go_ret
          exact ⟨rfl, HB5.out⟩
    · have HU := Lib.hid hu
      clear hu
      go_wp2_with fail
      refine (counted_any U m d us w1 ((HRU.out.below HB1.out).more HB1.out.size) HMU.out (by omega) false (by simp [HU.out])).mono ?_
      rintro e w1' ⟨rfl, rfl⟩
      go_wp2_with fail
      refine (wakes_any _ (HG.out.toGlob.below HB1.out HG.out.toGlob.size)).mono ?_
      rintro e w5 ⟨rfl, hb5⟩
      have HB5 := Lib.hid (HB1.out.trans (hb5.mono HB1.out.size))
      clear hb5
      go_wp2
      go_ret
      exact ⟨rfl, HB5.out⟩
  · have HOK := Lib.hid hok
    clear hok
    have HRD := Lib.hid (ready_any A D n q c cq l steps w HR.out HN.out (by omega) HRS.out HQ.out (by omega) false (by simp only [Bool.false_eq_true, false_iff]; exact HOK.out))
    go_wp2_with fail
    refine HRD.out.mono ?_
    rintro e w1 ⟨v, rfl, hown, hb1⟩
    have HB1 := Lib.hid hb1
    clear hown hb1 HRD
    go_wp2_with fail
    refine (wakes_any _ (HG.out.toGlob.below HB1.out HG.out.toGlob.size)).mono ?_
    rintro e w5 ⟨rfl, hb5⟩
    have HB5 := Lib.hid (HB1.out.trans (hb5.mono HB1.out.size))
    clear hb5
    go_wp2
    go_ret
    exact ⟨rfl, HB5.out⟩
end Go.Proofs.YtbkgbnejmgjiiaaDoor
