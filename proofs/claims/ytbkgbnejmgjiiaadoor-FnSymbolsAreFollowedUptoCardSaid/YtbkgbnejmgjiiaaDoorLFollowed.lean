/- The law FnSymbolsAreFollowed returns true for slices of at most 1048576 elements, in every world in which the two minifiers and the invalid reference lie as their initialisers lay them; what lay in memory stands. -/
import Derived.Test.YtbkgbnejmgjiiaaDoorLMergeA
import Derived.Test.YtbkgbnejmgjiiaaDoorWSpMerge
import Derived.Lib.QuietBelow
namespace Go.Proofs.YtbkgbnejmgjiiaaDoor
open Go.RowKit Go.Deep

theorem okUses_none : okUses [] := fun _ h => by cases h
theorem told_after {n : Nat} {st : St} {steps : List (Int × Int)} {tl : List Nat} (h : ToldOk n st steps tl) {k : Nat} (hk : k < steps.length) (hn : ¬ steps[k].2 < 0) (hk2 : k < tl.length) :
    (st.run steps).g tl[k] = (st.run steps).g steps[k].2.toNat ∧ (st.run steps).g steps[k].1.toNat = (st.run steps).g steps[k].2.toNat := by
  have e : st.run steps = (st.run (steps.take k)).run (steps.drop k) := by
    unfold St.run
    rw [← List.foldl_append, List.take_append_drop]
  have e2 : st.run steps = (st.run (steps.take (k + 1))).run (steps.drop (k + 1)) := by
    unfold St.run
    rw [← List.foldl_append, List.take_append_drop]
  constructor
  · rw [e]
    exact St.run_keep _ _ _ _ (h.mer k hk2 hk hn)
  · rw [e2]
    refine St.run_keep _ _ _ _ ?_
    rw [St.run_snoc _ _ _ hk]
    unfold St.step
    rw [if_neg hn, St.merge_g, St.merge_g, if_pos rfl]
    split <;> rfl

set_option maxHeartbeats 4000000 in
set_option maxRecDepth 100000 in
theorem law_followed (A D : Option Addr) (n q c cq : Nat) (l : List Int) (steps : List (Int × Int)) (ahead : Bool) (w : World) (hg : GlobR w) (hr : Reads w w.heap.size 1 A n (intCells l)) (hn : n = l.length) (hm : n ≤ 1048576) (hnc : n ≤ c) (hcm : c ≤ 9223372036854775807)
    (hrs : Reads w w.heap.size 2 D q (pairCells steps)) (hq : q = steps.length) (hqq : q ≤ 1048576) :
    Calls Tryd.prog 9 #[.slice A n c, .slice D q cq, .bool ahead] w fun e w' => e = .returned (.bool true) ∧ Below w.heap.size w w' := by
  have HG := Lib.hid hg
  have HR := Lib.hid hr
  have HN := Lib.hid hn
  have HRS := Lib.hid hrs
  have HQ := Lib.hid hq
  clear hg hr hn hrs hq
  go_enter Tryd.func9, Tryd.ntmps9
  by_cases hok : okSizes l ∧ steps.length ≤ 3000 ∧ okSteps (totI l) steps
  · have HOK := Lib.hid hok
    clear hok
    have HRD := Lib.hid (ready_any A D n q c cq l steps w HR.out HN.out (by omega) HRS.out HQ.out (by omega) true (by simp [HOK.out]))
    obtain ⟨sz, hl, hs, htot⟩ := szI_of HOK.out.1
    rw [htot] at HRD
    have HST : Hid (okSteps (sz.sum : Int) steps) := by rw [← htot]; exact HOK.out.2.2
    have hq3 : q ≤ 3000 := by rw [HQ.out]; exact HOK.out.2.1
    clear htot HOK
    subst hl
    have HN2 : Hid (n = sz.length) := HN.out.trans (szI_length sz)
    go_wp2_with fail
    refine HRD.out.mono ?_
    rintro e w1 ⟨v, rfl, hown, hb1⟩
    obtain ⟨A1, c1, rfl, _, hr1⟩ := own_slice hown
    have HB1 := Lib.hid hb1
    have HR1 := Lib.hid hr1
    clear hown hb1 hr1 HRD
    go_wp2_with fail
    refine (impMerge_any A none D n 0 q c 0 cq sz [] steps ahead w1 (HG.out.below HB1.out HG.out.size3).inv ((HR.out.below HB1.out).more HB1.out.size) HN2.out hm Reads.none_ rfl (by omega) ((HRS.out.below HB1.out).more HB1.out.size) HQ.out hq3 hs okUses_none HST.out).mono ?_
    rintro e w2 ⟨v1, v2, v3, tl, rfl, htl, ho1, ho2, _, hb2⟩
    obtain ⟨AT, cT, rfl, _, hrt⟩ := own_slice ho1
    obtain ⟨AL, cL, rfl, _, hrl⟩ := own_slice ho2
    have HTL := Lib.hid htl
    have HRT := Lib.hid hrt
    have HRL := Lib.hid hrl
    have HB2 := Lib.hid (HB1.out.trans (hb2.mono HB1.out.size))
    have HR1b := Lib.hid ((HR1.out.below hb2).more hb2.size)
    clear ho1 ho2 hrt hrl htl hb2 HR1 HB1
    go_wp2_with fail
    refine (spMerge_any A1 q c1 sz.sum (u0 []) steps w2 HR1b.out HQ.out hq3 hs HST.out).mono ?_
    rintro e w3 ⟨v4, wl, rfl, hwl, ho4, hrow, hb3⟩
    obtain ⟨AW, cW, rfl, _, hrw⟩ := own_slice ho4
    have HWL := Lib.hid hwl
    have HRW := Lib.hid hrw
    have HROW := Lib.hid hrow
    have HB3 := Lib.hid (HB2.out.trans (hb3.mono HB2.out.size))
    have HRT3 := Lib.hid ((HRT.out.below hb3).more hb3.size)
    have HRL3 := Lib.hid ((HRL.out.below hb3).more hb3.size)
    clear hrow hb3 ho4 hrw hwl HRT HRL HR1b HB2
    have HGD : Hid (Good sz.sum (u0 []) ((St.mk id (u0 [])).run steps)) := (Good.start _ _).run HST.out
    have HAFT : Hid (∀ k (hk : k < steps.length) (hk2 : k < tl.length), ¬ steps[k].2 < 0 → ((St.mk id (u0 [])).run steps).g tl[k] = ((St.mk id (u0 [])).run steps).g steps[k].2.toNat ∧ ((St.mk id (u0 [])).run steps).g steps[k].1.toNat = ((St.mk id (u0 [])).run steps).g steps[k].2.toNat) := fun k hk hk2 hn => told_after HTL.out hk hn hk2
    have HFOL : Hid (∀ k (hk : k < steps.length) (hk2 : k < tl.length) (hk3 : k < wl.length), steps[k].2 < 0 → tl[k] = wl[k]) := fun k hk hk2 hk3 hn => (HTL.out.fol k hk2 hk hn).trans (HWL.out.fol k hk3 hk hn).symm
    have HTLL : Hid (tl.length = q) := HTL.out.len.trans HQ.out.symm
    have HWLL : Hid (wl.length = q) := HWL.out.len.trans HQ.out.symm
    have HTLT : Hid (∀ k (h : k < tl.length), tl[k] < sz.sum) := HTL.out.lt
    have HSZ : Hid (Reads w3 w3.heap.size 1 A n (intCells (szI sz))) := (HR.out.below HB3.out).more HB3.out.size
    have HSP : Hid (Reads w3 w3.heap.size 2 D q (pairCells steps)) := (HRS.out.below HB3.out).more HB3.out.size
    clear HTL HWL
    generalize (St.mk id (u0 [])).run steps = st at *
    go_wp2_with fail
    go_loopw [58] (fun x wr => ∃ k : Nat, k ≤ q ∧ x = .int .i64 k ∧ Hid (Below w3.heap.size w3 wr)) (fun x _ => q - (intOf x).toNat)
    case atStart => exact ⟨0, by omega, rfl, Below.refl _ _⟩
    case round =>
      obtain ⟨k, hk, rfl, HW⟩ := hrel
      by_cases hlt : k < q
      · have hk2 : k < steps.length := by rw [← HQ.out]; exact hlt
        have hk3 : k < tl.length := by rw [HTLL.out]; exact hlt
        have hk4 : k < wl.length := by rw [HWLL.out]; exact hlt
        have HWA := Lib.hid (HW.out.alloc HW.out.size (.cells #[.int .i64 steps[k].1, .int .i64 steps[k].2] 50))
        obtain ⟨b, off, rfl, _, c0, c1⟩ := HSP.out.pair hk2 HW.out
        obtain ⟨bt, ot, rfl, _, t0, t1⟩ := HRT3.out.place hk3 HWA.out
        obtain ⟨bw, ow, rfl, _, g0⟩ := HRW.out.int (k := k) (by simpa [szI] using hk4) HWA.out
        rw [szI_get] at g0
        have hok := HST.out steps[k] (List.getElem_mem _)
        have HF1 := Lib.hid (HFOL.out k hk2 hk3 hk4)
        have HA1 := Lib.hid (HAFT.out k hk2 hk3)
        have htlt := HTLT.out k hk3
        have hws : wr.heap.size < (wr.alloc (.cells #[.int .i64 steps[k].1, .int .i64 steps[k].2] 50)).heap.size := by rw [World.size_alloc]; omega
        have HY0 : Hid ((wr.alloc (.cells #[.int .i64 steps[k].1, .int .i64 steps[k].2] 50)).cell? ⟨wr.heap.size, 0, none⟩ = some (.int .i64 steps[k].1)) := (Lib.cell_of_heap (heap_alloc_new wr _) _).trans rfl
        have HY1 : Hid ((wr.alloc (.cells #[.int .i64 steps[k].1, .int .i64 steps[k].2] 50)).cell? ⟨wr.heap.size, 1, none⟩ = some (.int .i64 steps[k].2)) := (Lib.cell_of_heap (heap_alloc_new wr _) _).trans rfl
        have HT0 := Lib.hid t0
        have HT1 := Lib.hid t1
        have HG0 := Lib.hid g0
        clear t0 t1 g0
        generalize steps[k] = sk at *
        obtain ⟨x1, x2⟩ := sk
        simp only at c0 c1 hok
        obtain ⟨ai, hai0⟩ : ∃ ai : Nat, x1 = (ai : Int) := ⟨x1.toNat, by omega⟩
        subst hai0
        generalize tl[k] = t at *
        generalize wl[k] = wv at *
        by_cases hneg : x2 < 0
        · have htw : t = wv := HF1.out hneg
          subst htw
          clear HF1 HA1
          go_upto_region 11 with fail
          generalize (wr.alloc (.cells #[.int .i64 (ai : Int), .int .i64 x2] 50)) = W at *
          have HC31 : Hid (∀ d os, Calls Tryd.prog 31 #[.slice A n c, .agg #[.int .i64 ((pl sz t).1 : Int), .int .i64 ((pl sz t).2 : Int)], .int .i64 (t : Int)] (Go.Sort.grow (redrawn W d) os) fun e w' => e = .returned (.bool true) ∧ Below (Go.Sort.grow (redrawn W d) os).heap.size (Go.Sort.grow (redrawn W d) os) w') := fun d os => by
            have hb : Below w3.heap.size w3 (Go.Sort.grow (redrawn W d) os) := HWA.out.trans ((below_regrown W d os).mono HWA.out.size)
            exact at_any A n c sz t _ ((HSZ.out.below hb).more hb.size) HN2.out (by omega) htlt hs
          have k0 := cell_regrown HY0.out
          have k1 := cell_regrown HY1.out
          have k2 := cell_regrown HT0.out
          have k3 := cell_regrown HT1.out
          have k4 := cell_regrown HG0.out
          have hdn : decide (x2 < 0) = true := decide_eq_true hneg
          refine wp_region_quiet_below (by kernel_rfl) (by kernel_rfl) ?_
          repeat (quiet_step ((go_at_call 31; exact Calls.regrown_of (HC31.out _ _))))
          refine wpQuiet_nil ?_
          intro w' hw'
          obtain ⟨⟨d, os⟩, hw''⟩ := hw'
          subst hw''
          have y1 := k1 d os
          have HWB := Lib.hid (HWA.out.trans ((below_regrown W d os).mono HWA.out.size))
          clear k0 k1 k2 k3 k4 HC31 HWA HY0 HY1 HT0 HT1 HG0
          generalize Go.Sort.grow (redrawn W d) os = W' at *
          go_wp2
          go_roundw
          case rel => exact ⟨k + 1, by omega, by go_num, HWB.out⟩
          case measure => simp [intOf]; omega
        · obtain ⟨bi, hbi0⟩ : ∃ bi : Nat, x2 = (bi : Int) := ⟨x2.toNat, by omega⟩
          subst hbi0
          have hai : ai < sz.sum := by omega
          have hbi : bi < sz.sum := by omega
          have hae := HA1.out (by simp)
          simp only [Int.toNat_natCast] at hae
          clear HF1 HA1
          go_upto_region 11 with fail
          generalize (wr.alloc (.cells #[.int .i64 (ai : Int), .int .i64 (bi : Int)] 50)) = W at *
          have HRWW := Lib.hid (rowIs_below HROW.out HWA.out HROW.out.lt)
          have cgt := HRWW.out.cell htlt
          have cgb := HRWW.out.cell hbi
          have cga := HRWW.out.cell hai
          rw [hae.1] at cgt
          rw [hae.2] at cga
          clear hae
          generalize st.g bi = GB at *
          have HC32 : Hid (∀ na nb, Calls Tryd.prog 32 #[.slice A n c, .int .i64 ((pl sz t).1 : Int), .int .i64 ((pl sz t).2 : Int)] (W.drewN (na + nb)) fun e w' => e = .returned (.tuple #[.int .i64 (t : Int), .bool true]) ∧ ∃ n, w' = W.drewN (na + n)) := fun na nb => by
            have hb : Below w3.heap.size w3 (W.drewN (na + nb)) := below_drewN HWA.out (na + nb)
            have h := symbol_any A n c sz (pl sz t) _ ((HSZ.out.below hb).more hb.size) HN2.out hnc hcm (pl_V sz t htlt).1 hs
            rw [(pl_V sz t htlt).2] at h
            exact h.mono fun e w' h => ⟨h.1, nb, h.2.symm⟩
          have y0 := HY0.out
          have y1 := HY1.out
          have t0 := HT0.out
          have t1 := HT1.out
          have hdn : decide ((bi : Int) < 0) = false := decide_eq_false (by omega)
          go_quiet (fail)
          have hdn2 : (0 : Int) ≤ (bi : Int) := by omega
          clear hdn
          go_upto_region 14 with fail
          go_quiet ((go_at_call 32; exact HC32.out _ _))
          go_upto_region 15 with fail
          go_quiet (fail)
          clear y0 y1 t0 t1 cgt cga cgb HC32
          go_wp2
          go_roundw
          case rel => exact ⟨k + 1, by omega, by go_num, (show Below w3.heap.size w3 _ from ⟨HWA.out.os, HWA.out.tape, HWA.out.output, HWA.out.size, HWA.out.block⟩)⟩
          case measure => simp [intOf]; omega
      · go_wp2_with fail
        go_loopw [126] (fun x wr => ∃ j : Nat, j ≤ sz.sum ∧ x = .int .i64 j ∧ Hid (Below w3.heap.size w3 wr)) (fun x _ => sz.sum - (intOf x).toNat)
        case atStart => exact ⟨0, by omega, rfl, HW.out⟩
        case round =>
          clear HW
          obtain ⟨j, hj, rfl, HW⟩ := hrel
          by_cases hlt : j < sz.sum
          · obtain ⟨bl, ol, rfl, _, l0, l1⟩ := HRL3.out.place (k := j) (by simpa using hlt) HW.out
            simp only [List.getElem_map, List.getElem_range] at l0 l1
            have cg := (rowIs_below HROW.out HW.out HROW.out.lt).cell hlt
            have hgl := HGD.out.lt j hlt
            generalize st.g j = t at *
            have HC31 : Hid (∀ d os, Calls Tryd.prog 31 #[.slice A n c, .agg #[.int .i64 ((pl sz t).1 : Int), .int .i64 ((pl sz t).2 : Int)], .int .i64 (t : Int)] (Go.Sort.grow (redrawn wr d) os) fun e w' => e = .returned (.bool true) ∧ Below (Go.Sort.grow (redrawn wr d) os).heap.size (Go.Sort.grow (redrawn wr d) os) w') := fun d os => by
              have hb : Below w3.heap.size w3 (Go.Sort.grow (redrawn wr d) os) := HW.out.trans ((below_regrown wr d os).mono HW.out.size)
              exact at_any A n c sz t _ ((HSZ.out.below hb).more hb.size) HN2.out (by omega) hgl hs
            have k2 := cell_regrown l0
            have k3 := cell_regrown l1
            have k4 := cell_regrown cg
            go_upto_region 21 with fail
            refine wp_region_quiet_below (by kernel_rfl) (by kernel_rfl) ?_
            repeat (quiet_step ((go_at_call 31; exact Calls.regrown_of (HC31.out _ _))))
            refine wpQuiet_nil ?_
            intro w' hw'
            obtain ⟨⟨d, os⟩, hw''⟩ := hw'
            subst hw''
            have HWB := Lib.hid (HW.out.trans ((below_regrown wr d os).mono HW.out.size))
            clear k2 k3 k4 HC31 l0 l1 cg HW
            generalize Go.Sort.grow (redrawn wr d) os = W' at *
            go_wp2
            go_roundw
            case rel => exact ⟨j + 1, by omega, by go_num, HWB.out⟩
            case measure => simp [intOf]; omega
          · go_wp2_with fail
            have HBW := Lib.hid (HB3.out.trans (HW.out.mono HB3.out.size))
            refine (wakes_any _ (HG.out.toGlob.below HBW.out HG.out.toGlob.size)).mono ?_
            rintro e w5 ⟨rfl, hb5⟩
            have HB5 := Lib.hid (HBW.out.trans (hb5.mono HBW.out.size))
            clear hb5
            go_wp2
            go_ret
            exact ⟨rfl, HB5.out⟩
  · have HOK := Lib.hid hok
    clear hok
    have HRD := Lib.hid (ready_any A D n q c cq l steps w HR.out HN.out (by omega) HRS.out HQ.out (by omega) false (by simp only [Bool.false_eq_true, false_iff]; exact HOK.out))
    go_wp2_with fail
    refine HRD.out.mono ?_
    rintro e w1 ⟨v, rfl, hown, hb1⟩
    have HB1 := Lib.hid hb1
    clear hown hb1 HRD
    go_wp2_with fail
    refine (wakes_any _ (HG.out.toGlob.below HB1.out HG.out.toGlob.size)).mono ?_
    rintro e w5 ⟨rfl, hb5⟩
    have HB5 := Lib.hid (HB1.out.trans (hb5.mono HB1.out.size))
    clear hb5
    go_wp2
    go_ret
    exact ⟨rfl, HB5.out⟩
end Go.Proofs.YtbkgbnejmgjiiaaDoor
