/- What spec.Merge and spec.Uses return: the groups and their uses. Conditions: at most 3000 symbols, at most 3000 steps that speak of symbols that there are, uses between 0 and 1000000. -/
import Derived.Test.YtbkgbnejmgjiiaaDoorWImMergeA
namespace Go.Proofs.YtbkgbnejmgjiiaaDoor
open Go.RowKit Go.Deep

theorem szI_snoc (l : List Nat) (x : Nat) : szI (l ++ [x]) = szI l ++ [(x : Int)] := by simp [szI]
set_option maxHeartbeats 4000000 in
set_option maxRecDepth 100000 in
theorem spMerge_any (D : Option Addr) (q cq N : Nat) (u : Nat → Nat) (steps : List (Int × Int)) (w : World) (hrs : Reads w w.heap.size 2 D q (pairCells steps)) (hq : q = steps.length) (hqq : q ≤ 3000) (hN : N ≤ 3000) (hst : okSteps N steps) :
    Calls Tryd.prog 30 #[.int .i64 (N : Int), .slice D q cq] w fun e w' => ∃ v1 wl, e = .returned (.tuple #[v1, .slice (some ⟨w.heap.size, 0, none⟩) N N]) ∧ ToldOk N ⟨id, u⟩ steps wl ∧
      w'.ownsRow (w.heap.size + 1) 3 1 v1 q (intCells (szI wl)) ∧ w'.rowIs w.heap.size 3 N (fun j => .int .i64 (((St.mk id u).run steps).g j : Int)) ∧ Below w.heap.size w w' := by
  have HRS := Lib.hid hrs
  have HQ := Lib.hid hq
  have HST := Lib.hid hst
  clear hrs hq hst
  have hmk := run_make_row' (P := Tryd.prog) 40 3 (.int .i64 0) 8 Tryd.underlying40 info3m rfl .i64 .i64 N (by omega) (by omega)
  obtain ⟨i1, hj0, hy0, hy1, hy2⟩ := info_parts info3m
  go_enter Tryd.func30, Tryd.ntmps30
  go_wp2
  have HR0 : Hid ((w.alloc (.cells (madeCells #[.int .i64 0] N) 3)).rowIs w.heap.size 3 N (fun j => if j < 0 then .int .i64 (j : Int) else .int .i64 0)) := (World.rowIs_made w (.int .i64 0) N 3).congr (fun j _ => by simp)
  have HB0 : Hid (Below w.heap.size w (w.alloc (.cells (madeCells #[.int .i64 0] N) 3))) := (Below.refl _ _).alloc (Nat.le_refl _) _
  generalize (w.alloc (.cells (madeCells #[.int .i64 0] N) 3)) = W0 at *
  clear hmk
  go_loopw [18] (fun x wr => ∃ k : Nat, k ≤ N ∧ x = .int .i64 k ∧ Hid (wr.rowIs w.heap.size 3 N (fun j => if j < k then .int .i64 (j : Int) else .int .i64 0)) ∧ Hid (Below w.heap.size w wr)) (fun x _ => N - (intOf x).toNat)
  case atStart => exact ⟨0, by omega, rfl, HR0.out, HB0.out⟩
  case round =>
    clear HR0 HB0
    obtain ⟨k, hk, rfl, HR, HB⟩ := hrel
    by_cases hlt : k < N
    · have hc := HR.out.cell hlt
      have hf := HR.out.frozen k
      have HN1 : Hid ((wr.setCell ⟨w.heap.size, k, none⟩ (.int .i64 (k : Int))).rowIs w.heap.size 3 N (fun j => if j < k + 1 then .int .i64 (j : Int) else .int .i64 0)) := (HR.out.set k _).congr (fun j _ => by
        by_cases e : j = k
        · subst e; rw [if_pos rfl, if_pos (by omega)]
        · rw [if_neg e]
          by_cases e2 : j < k
          · rw [if_pos e2, if_pos (by omega)]
          · rw [if_neg e2, if_neg (by omega)])
      have HB1 : Hid (Below w.heap.size w (wr.setCell ⟨w.heap.size, k, none⟩ (.int .i64 (k : Int)))) := HB.out.setCell (p := ⟨w.heap.size, k, none⟩) (Nat.le_refl _) _
      simp only [Nat.lt_irrefl, if_false] at hc
      go_wp2
      go_roundw
      case rel => exact ⟨k + 1, by omega, by go_num, HN1.out, HB1.out⟩
      case measure => simp [intOf]; omega
    · have HRG : Hid (wr.rowIs w.heap.size 3 N (fun j => .int .i64 (((St.mk id u).run (steps.take 0)).g j : Int))) := HR.out.congr (fun j hj => by rw [if_pos (by omega)]; rfl)
      clear HR
      go_wp2
      go_loopw [8, 28] (fun v x wr => ∃ (k : Nat) (wl : List Nat), k ≤ q ∧ x = .int .i64 k ∧ Hid (wr.rowIs w.heap.size 3 N (fun j => .int .i64 (((St.mk id u).run (steps.take k)).g j : Int))) ∧ Hid (wr.ownsRow (w.heap.size + 1) 3 1 v k (intCells (szI wl))) ∧ Hid (ToldOk N ⟨id, u⟩ (steps.take k) wl) ∧ Hid (Below w.heap.size w wr)) (fun _ x _ => q - (intOf x).toNat)
      case atStart => exact ⟨0, [], by omega, rfl, HRG.out, World.ownsRow_nil _ _ _ _, ToldOk.none _ _, HB.out⟩
      case round =>
        clear HRG HB hlt hk
        obtain ⟨k, wl, hk, rfl, HR, HO, HTL, HB⟩ := hrel
        by_cases hlt : k < q
        · have hk2 : k < steps.length := by rw [← HQ.out]; exact hlt
          obtain ⟨b, off, rfl, hbB, c0, c1⟩ := HRS.out.pair hk2 HB.out
          have hok := HST.out steps[k] (List.getElem_mem _)
          have HGD : Hid (Good N u ((St.mk id u).run (steps.take k))) := (Good.start _ _).run (fun s hs => HST.out s (List.mem_of_mem_take hs))
          generalize hsk : steps[k] = sk at *
          have HSK := Lib.hid hsk
          clear hsk
          obtain ⟨x1, x2⟩ := sk
          simp only at c0 c1 hok
          obtain ⟨ai, hai0⟩ : ∃ ai : Nat, x1 = (ai : Int) := ⟨x1.toNat, by omega⟩
          subst hai0
          have hai : ai < N := by omega
          have hga := HGD.out.lt ai hai
          have hhb : w.heap.size < wr.heap.size := HR.out.lt
          by_cases hneg : x2 < 0
          · go_upto_region 12 with fail
            have HRW := Lib.hid (HR.out.alloc (.cells #[.int .i64 (ai : Int), .int .i64 x2] 89))
            have HOW := Lib.hid (HO.out.alloc (.cells #[.int .i64 (ai : Int), .int .i64 x2] 89))
            have HBW := Lib.hid (HB.out.alloc HB.out.size (.cells #[.int .i64 (ai : Int), .int .i64 x2] 89))
            have y0 : (wr.alloc (.cells #[.int .i64 (ai : Int), .int .i64 x2] 89)).cell? ⟨wr.heap.size, 0, none⟩ = some (.int .i64 (ai : Int)) := (Lib.cell_of_heap (heap_alloc_new wr _) _).trans rfl
            have y1 : (wr.alloc (.cells #[.int .i64 (ai : Int), .int .i64 x2] 89)).cell? ⟨wr.heap.size, 1, none⟩ = some (.int .i64 x2) := (Lib.cell_of_heap (heap_alloc_new wr _) _).trans rfl
            have hwl : w.heap.size < (wr.alloc (.cells #[.int .i64 (ai : Int), .int .i64 x2] 89)).heap.size := by rw [World.size_alloc]; omega
            generalize (wr.alloc (.cells #[.int .i64 (ai : Int), .int .i64 x2] 89)) = W at *
            have cg := HRW.out.cell hai
            generalize hG : ((St.mk id u).run (steps.take k)).g ai = G at *
            have HG := Lib.hid hG
            clear hG c0 c1 HR HO HB
            have HR3 := Lib.hid (HRW.out.alloc (.cells #[.int .i64 (G : Int)] 3))
            have HO3 := Lib.hid (HOW.out.alloc (.cells #[.int .i64 (G : Int)] 3))
            have HB3 := Lib.hid (HBW.out.alloc HBW.out.size (.cells #[.int .i64 (G : Int)] 3))
            have HD3 := Lib.hid (reads_new W #[.int .i64 (G : Int)] 3 (b := W.heap.size) rfl)
            go_wp2_with (at_builtin; refine wpList_append_any _ rfl _ _ 40 rfl (w.heap.size + 1) 3 i1 _ 1 8 Tryd.underlying40 hj0 hy0 hy1 hy2 rfl (by decide) _ _ _ rfl HO3.out (W.heap.size + 1) (some ⟨W.heap.size, 0, none⟩) 1 1 [.int .i64 (G : Int)] rfl HD3.out ?c2 ?c3 ?c4 ?c5 ?_)
            case c2 => rfl
            case c3 => unfold maxLen; omega
            case c4 => omega
            case c5 => omega
            intro v' w5 hown5 hg5 _
            have HO5 : Hid (w5.ownsRow (w.heap.size + 1) 3 1 v' (k + 1) (intCells (szI (wl ++ [G])))) := by rw [szI_snoc, intCells_append]; exact hown5
            have HR5 := Lib.hid (HR3.out.of_block (hg5.block _ HR3.out.lt (fun e => by have := (HO3.out.lt _ e.symm).1; omega)))
            have HB5 := Lib.hid (HB3.out.grown hg5 HB3.out.size (fun g hgg => by have := (HO3.out.lt g hgg).1; omega))
            clear hown5 hg5 HR3 HO3 HB3 HD3 HRW HOW HBW y0 y1 cg
            have HRUN : Hid ((St.mk id u).run (steps.take (k + 1)) = (St.mk id u).run (steps.take k)) := by
              rw [St.run_snoc _ _ _ hk2, HSK.out]
              unfold St.step
              rw [if_pos hneg]
              exact rfl
            have HTN : Hid (ToldOk N ⟨id, u⟩ (steps.take (k + 1)) (wl ++ [G])) := HTL.out.snoc hk2 hga (fun _ => by rw [HSK.out]; exact HG.out.symm) (fun h => by rw [HSK.out] at h; exact absurd hneg h)
            go_wp2
            go_roundw
            case rel => exact ⟨k + 1, wl ++ [G], by omega, by go_num, by rw [HRUN.out]; exact HR5.out, HO5.out, HTN.out, HB5.out⟩
            case measure => simp [intOf]; omega
          · obtain ⟨bi, hbi0⟩ : ∃ bi : Nat, x2 = (bi : Int) := ⟨x2.toNat, by omega⟩
            subst hbi0
            have hbi : bi < N := by omega

            have hgb := HGD.out.lt bi hbi
            go_upto_region 13 with fail
            have HRW := Lib.hid (HR.out.alloc (.cells #[.int .i64 (ai : Int), .int .i64 (bi : Int)] 89))
            have HOW := Lib.hid (HO.out.alloc (.cells #[.int .i64 (ai : Int), .int .i64 (bi : Int)] 89))
            have HBW := Lib.hid (HB.out.alloc HB.out.size (.cells #[.int .i64 (ai : Int), .int .i64 (bi : Int)] 89))
            have y0 : (wr.alloc (.cells #[.int .i64 (ai : Int), .int .i64 (bi : Int)] 89)).cell? ⟨wr.heap.size, 0, none⟩ = some (.int .i64 (ai : Int)) := (Lib.cell_of_heap (heap_alloc_new wr _) _).trans rfl
            have y1 : (wr.alloc (.cells #[.int .i64 (ai : Int), .int .i64 (bi : Int)] 89)).cell? ⟨wr.heap.size, 1, none⟩ = some (.int .i64 (bi : Int)) := (Lib.cell_of_heap (heap_alloc_new wr _) _).trans rfl
            have hwl : w.heap.size < (wr.alloc (.cells #[.int .i64 (ai : Int), .int .i64 (bi : Int)] 89)).heap.size := by rw [World.size_alloc]; omega
            generalize (wr.alloc (.cells #[.int .i64 (ai : Int), .int .i64 (bi : Int)] 89)) = W at *
            have cga := HRW.out.cell hai
            have cgb := HRW.out.cell hbi
            have HIB := Lib.hid (HGD.out.idem bi hbi)
            have HMG : Hid (∀ j, (((St.mk id u).run (steps.take k)).merge ai bi).g j = if ((St.mk id u).run (steps.take k)).g j = ((St.mk id u).run (steps.take k)).g ai then ((St.mk id u).run (steps.take k)).g bi else ((St.mk id u).run (steps.take k)).g j) := St.merge_g _ ai bi
            generalize hGA : ((St.mk id u).run (steps.take k)).g ai = GA at *
            generalize hGB : ((St.mk id u).run (steps.take k)).g bi = GB at *
            have HGB := Lib.hid hGB
            clear hGA hGB c0 c1 HR HO HB
            have HIN : Hid (W.rowIs w.heap.size 3 N (fun j => .int .i64 ((if j < 0 ∧ ((St.mk id u).run (steps.take k)).g j = GA then GB else ((St.mk id u).run (steps.take k)).g j : Nat) : Int))) := HRW.out.congr (fun j _ => by simp)
            clear HRW
            go_quiet (fail)
            clear cga cgb y0 y1
            have HIN2 := Lib.hid (rowIs_drewN HIN.out nq)
            have HOW2 : Hid ((W.drewN nq).ownsRow (w.heap.size + 1) 3 1 u8 k (intCells (szI wl))) := HOW.out
            have HBW2 := Lib.hid (below_drewN HBW.out nq)
            generalize W.drewN nq = Wd at *
            clear HIN HOW HBW
            go_wp2
            go_loopw [55] (fun x wi => ∃ (i : Nat), i ≤ N ∧ x = .int .i64 i ∧ Hid (wi.rowIs w.heap.size 3 N (fun j => .int .i64 ((if j < i ∧ ((St.mk id u).run (steps.take k)).g j = GA then GB else ((St.mk id u).run (steps.take k)).g j : Nat) : Int))) ∧ Hid (wi.ownsRow (w.heap.size + 1) 3 1 u8 k (intCells (szI wl))) ∧ Hid (Below w.heap.size w wi)) (fun x _ => N - (intOf x).toNat)
            case atStart => exact ⟨0, by omega, rfl, HIN2.out, HOW2.out, HBW2.out⟩
            case round =>
              clear HIN2 HOW2 HBW2
              obtain ⟨i, hi, rfl, HR, HO, HB⟩ := hrel
              by_cases hil : i < N
              · have ci := HR.out.cell hil
                have fi := HR.out.frozen i
                simp only [Nat.lt_irrefl, false_and, if_false] at ci
                by_cases heq : ((St.mk id u).run (steps.take k)).g i = GA
                · rw [heq] at ci
                  have HR1 : Hid ((wr.setCell ⟨w.heap.size, i, none⟩ (.int .i64 (GB : Int))).rowIs w.heap.size 3 N (fun j => .int .i64 ((if j < i + 1 ∧ ((St.mk id u).run (steps.take k)).g j = GA then GB else ((St.mk id u).run (steps.take k)).g j : Nat) : Int))) := (HR.out.set i _).congr (fun j _ => by
                    by_cases e : j = i
                    · subst e; rw [if_pos rfl, if_pos ⟨by omega, heq⟩]
                    · rw [if_neg e]
                      have : (j < i) ↔ (j < i + 1) := by omega
                      simp only [this])
                  have HO1 : Hid ((wr.setCell ⟨w.heap.size, i, none⟩ (.int .i64 (GB : Int))).ownsRow (w.heap.size + 1) 3 1 u8 k (intCells (szI wl))) := own_keep HO.out (fun g hg => Below.heap_setCell wr ⟨w.heap.size, i, none⟩ _ g (by have := (HO.out.lt g hg).1; show g ≠ w.heap.size; omega))
                  have HB1 : Hid (Below w.heap.size w (wr.setCell ⟨w.heap.size, i, none⟩ (.int .i64 (GB : Int)))) := HB.out.setCell (p := ⟨w.heap.size, i, none⟩) (Nat.le_refl _) _
                  go_wp2
                  go_roundw
                  case rel => exact ⟨i + 1, by omega, by go_num, HR1.out, HO1.out, HB1.out⟩
                  case measure => simp [intOf]; omega
                · have HR1 : Hid (wr.rowIs w.heap.size 3 N (fun j => .int .i64 ((if j < i + 1 ∧ ((St.mk id u).run (steps.take k)).g j = GA then GB else ((St.mk id u).run (steps.take k)).g j : Nat) : Int))) := HR.out.congr (fun j _ => by
                    by_cases e : j = i
                    · subst e; rw [if_neg (fun h => heq h.2), if_neg (fun h => heq h.2)]
                    · have : (j < i) ↔ (j < i + 1) := by omega
                      simp only [this])
                  have heqz : ¬ ((((St.mk id u).run (steps.take k)).g i : Int) = (GA : Int)) := fun h => heq (by omega)
                  generalize ((St.mk id u).run (steps.take k)).g i = GI at *
                  go_wp2
                  go_roundw
                  case rel => exact ⟨i + 1, by omega, by go_num, HR1.out, HO.out, HB.out⟩
                  case measure => simp [intOf]; omega
              · have hhw := HR.out.lt
                have HR2 : Hid (wr.rowIs w.heap.size 3 N (fun j => .int .i64 ((((St.mk id u).run (steps.take k)).merge ai bi).g j : Int))) := HR.out.congr (fun j hj => by
                  rw [HMG.out j]
                  have : (j < i) ↔ True := by simp; omega
                  simp only [this, true_and])
                clear HR
                have HR3 := Lib.hid (HR2.out.alloc (.cells #[.int .i64 (GB : Int)] 3))
                have HO3 := Lib.hid (HO.out.alloc (.cells #[.int .i64 (GB : Int)] 3))
                have HB3 := Lib.hid (HB.out.alloc HB.out.size (.cells #[.int .i64 (GB : Int)] 3))
                have HD3 := Lib.hid (reads_new wr #[.int .i64 (GB : Int)] 3 (b := wr.heap.size) rfl)
                go_wp2_with (at_builtin; refine wpList_append_any _ rfl _ _ 40 rfl (w.heap.size + 1) 3 i1 _ 1 8 Tryd.underlying40 hj0 hy0 hy1 hy2 rfl (by decide) _ _ _ rfl HO3.out (wr.heap.size + 1) (some ⟨wr.heap.size, 0, none⟩) 1 1 [.int .i64 (GB : Int)] rfl HD3.out ?c2 ?c3 ?c4 ?c5 ?_)
                case c2 => rfl
                case c3 => unfold maxLen; omega
                case c4 => omega
                case c5 => omega
                intro v' w5 hown5 hg5 _
                have HO5 : Hid (w5.ownsRow (w.heap.size + 1) 3 1 v' (k + 1) (intCells (szI (wl ++ [GB])))) := by rw [szI_snoc, intCells_append]; exact hown5
                have HR5 := Lib.hid (HR3.out.of_block (hg5.block _ HR3.out.lt (fun e => by have := (HO3.out.lt _ e.symm).1; omega)))
                have HB5 := Lib.hid (HB3.out.grown hg5 HB3.out.size (fun g hgg => by have := (HO3.out.lt g hgg).1; omega))
                clear hown5 hg5 HR3 HO3 HB3 HD3 HR2 HO HB
                have HRUN : Hid ((St.mk id u).run (steps.take (k + 1)) = ((St.mk id u).run (steps.take k)).merge ai bi) := by
                  rw [St.run_snoc _ _ _ hk2, HSK.out]
                  unfold St.step
                  rw [if_neg (Int.not_lt.2 hneg)]
                  exact rfl
                have HTN : Hid (ToldOk N ⟨id, u⟩ (steps.take (k + 1)) (wl ++ [GB])) := HTL.out.snoc hk2 hgb (fun h => by rw [HSK.out] at h; exact absurd h (Int.not_lt.2 hneg)) (fun _ => by rw [HSK.out]; exact HIB.out.trans HGB.out.symm)
                go_wp2
                go_roundw
                case rel => exact ⟨k + 1, wl ++ [GB], by omega, by go_num, by rw [HRUN.out]; exact HR5.out, HO5.out, HTN.out, HB5.out⟩
                case measure => simp [intOf]; omega
        · have hkq : k = q := by omega
          subst hkq
          have hst : steps.take k = steps := by rw [HQ.out]; exact List.take_length
          rw [hst] at HR HTL
          clear hst
          go_wp2
          refine bodyPost_ret (v := .tuple #[u8, .slice (some ⟨w.heap.size, 0, none⟩) N N]) (by simp [results, Tryd.results30, go_sem]) rfl ⟨u8, wl, rfl, HTL.out, HO.out, HR.out, HB.out⟩
end Go.Proofs.YtbkgbnejmgjiiaaDoor
