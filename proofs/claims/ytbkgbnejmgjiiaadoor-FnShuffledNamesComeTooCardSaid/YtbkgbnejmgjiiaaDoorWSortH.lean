/- sort.pdqsort over an array whose methods compare and exchange. Conditions: at most 255 elements, a strict weak order. Printed by sg7.py. -/
import Derived.Test.YtbkgbnejmgjiiaaDoorWSortB
import Derived.Test.YtbkgbnejmgjiiaaDoorWSortC
import Derived.Test.YtbkgbnejmgjiiaaDoorWSortD
import Derived.Test.YtbkgbnejmgjiiaaDoorWSortG
import Derived.Sort.Walk13
import Derived.Sort.AssemblyPlain
namespace Go.Proofs.YtbkgbnejmgjiiaaDoor
open Go.RowKit Go.Lib Go.Sort
variable {α : Type}

set_option maxHeartbeats 12800000 in
set_option maxRecDepth 1000000 in
theorem pdqsort_at [Inhabited α] {blk : Nat} {rv : Value} {lt : α → α → Bool} {size : Nat} {I : Array α → World → Prop} (S : Srt blk rv lt size I) (hO : SWO lt) (hfew : size ≤ 255) :
    ∀ (N a b limit : Nat) (d : Array α) (w : World), b - a < N → I d w → a ≤ b → b ≤ size → limit < 4611686018427387904 → Sort.Below lt a b d →
    Calls Tryd.prog 64 #[.iface 132 rv, .int .i64 a, .int .i64 b, .int .i64 limit] w fun e w' => e = .returned (.tuple #[]) ∧ At I blk w (pdq lt d a b limit true true) w' := by
  obtain ⟨p, n, c, rfl⟩ := S.isSlice
  have hsz := S.small
  have HS := Lib.hid S
  have mL := method_less p n c
  clear S
  intro N
  induction N with
  | zero => intro _ _ _ _ _ h; exact absurd h (Nat.not_lt_zero _)
  | succ N ih =>
    intro a b limit d w hN hI hab hb hlimit hBel0
    have IH := Lib.hid ih
    have HI := Lib.hid hI
    have HB0 := Lib.hid hBel0
    clear ih hI hBel0
    go_enter Tryd.func64, Tryd.ntmps64
    go_wp2
    go_loopg [1, 2, 3, 8, 9] (b - a) (fun k s1 s2 s3 s8 s9 wr => ∃ (a' b' lim : Nat) (wb wp : Bool) (dk : Array α), s1 = .int .i64 a' ∧ s2 = .int .i64 b' ∧ s3 = .int .i64 lim ∧ s8 = .bool wb ∧ s9 = .bool wp ∧
      a' ≤ b' ∧ b' ≤ size ∧ b' - a' ≤ k ∧ k ≤ b - a ∧ lim ≤ limit ∧ Hid (Sort.Below lt a' b' dk) ∧ Hid (At I blk w dk wr) ∧ Hid (pdq lt dk a' b' lim wb wp = pdq lt d a b limit true true))
    case atStart => exact ⟨a, b, limit, true, true, d, rfl, rfl, rfl, rfl, rfl, hab, hb, Nat.le_refl _, Nat.le_refl _, Nat.le_refl _, HB0.out, At.start HI.out, rfl⟩
    case round =>
      obtain ⟨a', b', lim, wb, wp, dk, rfl, rfl, rfl, rfl, rfl, hab', hb', hk, hkN, hlim, HBL, HA, A⟩ := hrel
      have hds : dk.size = size := HA.out.sz HS.out
      by_cases h12 : b' - a' ≤ 12
      · have h12z : (b' : Int) - (a' : Int) ≤ 12 := by omega
        go_wp2_with fail
        refine (insertionSort_at HS.out a' b' dk wr HA.out.inv hab' hb').mono ?_
        rintro e w1 ⟨rfl, ha1⟩
        have HA1 := Lib.hid (HA.out.trans ha1)
        clear ha1
        go_wp2
        (try simp only [Exit.inBlock, Exit.then]); refine bodyPost_ret (results_none rfl _ _ _) rfl ?_
        refine ⟨rfl, ?_⟩
        rw [← A.out, pdq_small h12]
        exact HA1.out
      · have h12z : ¬ ((b' : Int) - (a' : Int) ≤ 12) := by omega
        by_cases hl0 : lim = 0
        · subst hl0
          go_wp2_with fail
          refine (heapSort_at HS.out a' b' dk wr HA.out.inv hab' hb').mono ?_
          rintro e w1 ⟨rfl, ha1⟩
          have HA1 := Lib.hid (HA.out.trans ha1)
          clear ha1
          go_wp2
          (try simp only [Exit.inBlock, Exit.then]); refine bodyPost_ret (results_none rfl _ _ _) rfl ?_
          refine ⟨rfl, ?_⟩
          rw [← A.out, pdq_heap h12 rfl]
          exact HA1.out
        · have hl0z : ¬ ((lim : Int) = 0) := by omega
          obtain ⟨s1, B1, hc1, s2, B2, hpv, s3, B3⟩ := rd_facts (lt := lt) (limit := lim) (wb := wb) (wp := wp) hO partialInsertionSort_holds reverseRange_holds (show a' < b' by omega) (show b' ≤ dk.size by omega) HBL.out
          have HB3 := Lib.hid B3
          clear B1 B2 B3
          go_upto_if 35 with fail
          go_cut [3] from 19 (fun s3 wc => s3 = .int .i64 (rd lt dk a' b' lim wb wp).lim ∧ Hid (At I blk w (rd lt dk a' b' lim wb wp).d1 wc))
          case first =>
            cases wb
            · go_wp2_with fail
              refine (breakPatterns_at HS.out hfew a' b' dk wr HA.out.inv hab' hb').mono ?_
              rintro e w1 ⟨rfl, ha1⟩
              have HA1 := Lib.hid (HA.out.trans ha1)
              clear ha1
              go_wp2_with fail
              go_meet
              case rel =>
                refine ⟨?_, HA1.out⟩
                show Value.int .i64 ((lim : Int) - 1) = Value.int .i64 ((lim - 1 : Nat) : Int)
                congr 1
                omega
            · go_wp2_with fail
              go_meet
              case rel => exact ⟨rfl, HA.out⟩
          case rest =>
            obtain ⟨rfl, HA1⟩ := hcut
            have HC17 : Hid (Calls Tryd.prog 71 #[.iface 132 (.slice p n c), .int .i64 a', .int .i64 b'] wc fun e w' => e = .returned (.tuple #[.int .i64 (rd lt dk a' b' lim wb wp).c.1, .int .i64 (hintCode (rd lt dk a' b' lim wb wp).c.2)]) ∧ At I blk wc (rd lt dk a' b' lim wb wp).d1 w') :=
              choosePivot_at HS.out a' b' (rd lt dk a' b' lim wb wp).d1 wc HA1.out.inv (by omega) hb'
            go_upto_if 50 with (go_at_call 71; refine HC17.out.mono ?_; rintro e w2 ⟨rfl, ha2⟩)
            have HA2 := Lib.hid (HA1.out.trans ha2)
            clear ha2 HC17 HA1
            go_cut [11, 12] from 19 (fun s11 s12 wc => s11 = .int .i64 (rd lt dk a' b' lim wb wp).pivot ∧ s12 = .int .i64 (hintCode (rd lt dk a' b' lim wb wp).hint) ∧ Hid (At I blk w (rd lt dk a' b' lim wb wp).d2 wc))
            case first =>
              by_cases hh : (rd lt dk a' b' lim wb wp).c.2 = .decreasing
              · have hcode : hintCode (rd lt dk a' b' lim wb wp).c.2 = 2 := by rw [hh]; rfl
                obtain ⟨e2, epv, eht⟩ := rd_dec hh
                have HE2 := Lib.hid e2
                have HEP := Lib.hid epv
                have HEH := Lib.hid eht
                clear e2 epv eht
                go_wp2_with fail
                refine (reverseRange_at HS.out a' b' (rd lt dk a' b' lim wb wp).d1 w2 HA2.out.inv hab' hb').mono ?_
                rintro e w3 ⟨rfl, ha3⟩
                have HA3 := Lib.hid (HA2.out.trans ha3)
                clear ha3
                go_wp2_with fail
                go_meet
                case rel =>
                  refine ⟨?_, by rw [HEH.out]; rfl, by rw [HE2.out]; exact HA3.out⟩
                  rw [HEP.out]
                  congr 1
                  omega
              · have hcode : ¬ (hintCode (rd lt dk a' b' lim wb wp).c.2 = 2) := fun h => hh (hintCode_two h)
                obtain ⟨e2, epv, eht⟩ := rd_not hh
                have HE2 := Lib.hid e2
                have HEP := Lib.hid epv
                have HEH := Lib.hid eht
                clear e2 epv eht
                go_wp2_with fail
                go_meet
                case rel => exact ⟨by rw [HEP.out], by rw [HEH.out], by rw [HE2.out]; exact HA2.out⟩
            case rest =>
              clear HA2
              obtain ⟨rfl, rfl, HA3⟩ := hcut
              go_upto_region 15 with fail
              go_cut [12, 68] from 19 (fun s12 s68 wx => s12 = .int .i64 (hintCode (rd lt dk a' b' lim wb wp).hint) ∧ s68 = .bool (wb && wp && decide ((rd lt dk a' b' lim wb wp).hint = .increasing)) ∧ wx = wc)
              case first =>
                cases wb <;> cases wp <;> cases hh3 : (rd lt dk a' b' lim _ _).hint <;>
                  (have hcode3 := congrArg hintCode hh3
                   simp only [hintCode] at hcode3
                   go_wp2_with fail
                   go_meet
                   exact ⟨by simp [hh3, hintCode], by simp [hh3, hintCode], rfl⟩)
              case rest =>
                obtain ⟨rfl, rfl, rfl⟩ := hcut
                go_upto_if 68 with fail
                go_cut [] from 19 (fun wx => (rd lt dk a' b' lim wb wp).pi.2 = false ∧ Hid (At I blk w (rd lt dk a' b' lim wb wp).pi.1 wx))
                case first =>
                  cases h68 : (wb && wp && decide ((rd lt dk a' b' lim wb wp).hint = .increasing))
                  · have epi := Lib.hid (rd_pi_no h68)
                    go_wp2_with fail
                    go_meet
                    case rel => exact ⟨by rw [epi.out], by rw [epi.out]; exact HA3.out⟩
                  · have epi := Lib.hid (rd_pi_yes h68)
                    have HC19 := Lib.hid (partialInsertionSort_at HS.out a' b' (rd lt dk a' b' lim wb wp).d2 wc HA3.out.inv (by omega) hb')
                    rw [← epi.out] at HC19
                    go_wp2_with fail
                    refine HC19.out.mono ?_
                    rintro e w4 ⟨rfl, ha4⟩
                    have HA4 := Lib.hid (HA3.out.trans ha4)
                    clear ha4 HC19
                    cases hp2 : (rd lt dk a' b' lim wb wp).pi.2
                    · go_wp2_with fail
                      go_meet
                      exact ⟨hp2, HA4.out⟩
                    · go_wp2_with fail
                      (try simp only [Exit.inBlock, Exit.then]); refine bodyPost_ret (results_none rfl _ _ _) rfl ?_
                      refine ⟨rfl, ?_⟩
                      rw [← A.out, pdq_done h12 hl0 hp2]
                      exact HA4.out
                case rest =>
                  clear HA3
                  obtain ⟨hp2, HA5⟩ := hcut
                  have HP2 := Lib.hid hp2
                  clear hp2
                  go_upto_region 17 with fail
                  go_cut [82] from 19 (fun s82 wx => s82 = .bool (decide (a' > 0) && !lt (rd lt dk a' b' lim wb wp).pi.1[a' - 1]! (rd lt dk a' b' lim wb wp).pi.1[(rd lt dk a' b' lim wb wp).pivot]!) ∧ Hid (At I blk w (rd lt dk a' b' lim wb wp).pi.1 wx))
                  case first =>
                    rcases Nat.eq_zero_or_pos a' with ha0 | ha0
                    · have ha0z : decide ((a' : Int) > 0) = false := decide_eq_false (by omega)
                      go_wp2_with fail
                      go_meet
                      case rel => exact ⟨by simp [ha0], HA5.out⟩
                    · have ha0z : (a' : Int) > 0 := by omega
                      have HL := Lib.hid (HA5.out.less HS.out (i := a' - 1) (j := (rd lt dk a' b' lim wb wp).pivot) (by omega) (by omega))
                      rw [show ((a' - 1 : Nat) : Int) = (a' : Int) - 1 by omega] at HL
                      cases hlv : lt (rd lt dk a' b' lim wb wp).pi.1[a' - 1]! (rd lt dk a' b' lim wb wp).pi.1[(rd lt dk a' b' lim wb wp).pivot]! <;>
                        (rw [hlv] at HL
                         go_wp2_with fail
                         refine HL.out.mono ?_
                         rintro e w6 ⟨rfl, ha6⟩
                         have HA6 := Lib.hid ha6
                         clear ha6 HL
                         go_wp2_with fail
                         go_meet
                         exact ⟨by simp [ha0, hlv], HA6.out⟩)
                  case rest =>
                    clear HA5
                    obtain ⟨rfl, HA6⟩ := hcut
                    cases h87 : (decide (a' > 0) && !lt (rd lt dk a' b' lim wb wp).pi.1[a' - 1]! (rd lt dk a' b' lim wb wp).pi.1[(rd lt dk a' b' lim wb wp).pivot]!)
                    · obtain ⟨mid, ap, d4, hx⟩ : ∃ mid ap d4, partition lt (rd lt dk a' b' lim wb wp).pi.1 a' b' (rd lt dk a' b' lim wb wp).pivot = (mid, ap, d4) := ⟨(partition lt (rd lt dk a' b' lim wb wp).pi.1 a' b' (rd lt dk a' b' lim wb wp).pivot).1, (partition lt (rd lt dk a' b' lim wb wp).pi.1 a' b' (rd lt dk a' b' lim wb wp).pivot).2.1, (partition lt (rd lt dk a' b' lim wb wp).pi.1 a' b' (rd lt dk a' b' lim wb wp).pivot).2.2, rfl⟩
                      obtain ⟨r1, r2, r3, r4, r5, r6, r7⟩ := round_part hO (partition_holds lt) hpv.1 hpv.2 (show b' ≤ (rd lt dk a' b' lim wb wp).pi.1.size by omega) HB3.out hx
                      have HC22 := Lib.hid (partition_at HS.out a' b' (rd lt dk a' b' lim wb wp).pivot (rd lt dk a' b' lim wb wp).pi.1 wc HA6.out.inv hpv.1 hpv.2 hb')
                      rw [hx] at HC22
                      have X := Lib.hid hx
                      have R4 := Lib.hid r4
                      have R5 := Lib.hid r5
                      have R6 := Lib.hid r6
                      have R7 := Lib.hid r7
                      have H87 := Lib.hid h87
                      clear hx r4 r5 r6 r7
                      go_upto_if 108 with (go_at_call 75; refine HC22.out.mono ?_; rintro e w7 ⟨rfl, ha7⟩)
                      have HA7 := Lib.hid (HA6.out.trans ha7)
                      clear ha7 HC22 HA6
                      have hlim2 : (rd lt dk a' b' lim wb wp).lim < 4611686018427387904 := Nat.lt_of_le_of_lt (Nat.le_trans rd_lim_le hlim) hlimit
                      have hlim3 : (rd lt dk a' b' lim wb wp).lim ≤ limit := Nat.le_trans rd_lim_le hlim
                      have hs4 : d4.size = size := HA7.out.sz HS.out
                      by_cases h4 : mid - a' < b' - mid
                      · have h4z : (mid : Int) - (a' : Int) < (b' : Int) - (mid : Int) := by omega
                        have HIH := Lib.hid (IH.out a' mid (rd lt dk a' b' lim wb wp).lim d4 w7 (by omega) HA7.out.inv (by omega) (by omega) hlim2 R4.out)
                        obtain ⟨pL, sL⟩ := pdq_sorts lt hO d4 a' mid (rd lt dk a' b' lim wb wp).lim true true (by omega) (by omega) R4.out
                        have HBn := Lib.hid (R6.out _ pL sL).1
                        have HPQ : Hid (pdq lt (pdq lt d4 a' mid (rd lt dk a' b' lim wb wp).lim true true) (mid + 1) b' (rd lt dk a' b' lim wb wp).lim (decide (mid - a' ≥ (b' - a') / 8)) ap = pdq lt d a b limit true true) := by
                          show _ = _
                          have hx := X.out
                          rw [← A.out, pdq_left h12 hl0 HP2.out H87.out (by rw [hx]; exact ⟨r1, r2⟩) (by rw [hx]; exact h4), hx]
                        clear pL sL
                        go_wp2_with fail
                        refine HIH.out.mono ?_
                        rintro e w8 ⟨rfl, ha8⟩
                        have HA8 := Lib.hid (HA7.out.trans ha8)
                        clear ha8 HIH HA7
                        go_wp2
                        go_roundg (b' - (mid + 1))
                        case measure => omega
                        case rel =>
                          refine ⟨mid + 1, b', (rd lt dk a' b' lim wb wp).lim, decide (mid - a' ≥ (b' - a') / 8), ap, pdq lt d4 a' mid (rd lt dk a' b' lim wb wp).lim true true, by simp, rfl, rfl, ?_, rfl, by omega, by omega, Nat.le_refl _, by omega, hlim3, HBn.out, HA8.out, HPQ.out⟩
                          exact congrArg Value.bool (eighth (by omega) (by omega))
                      · have h4z : ¬ ((mid : Int) - (a' : Int) < (b' : Int) - (mid : Int)) := by omega
                        have HIH := Lib.hid (IH.out (mid + 1) b' (rd lt dk a' b' lim wb wp).lim d4 w7 (by omega) HA7.out.inv (by omega) (by omega) hlim2 R5.out)
                        rw [show ((mid + 1 : Nat) : Int) = (mid : Int) + 1 by omega] at HIH
                        obtain ⟨pL, sL⟩ := pdq_sorts lt hO d4 (mid + 1) b' (rd lt dk a' b' lim wb wp).lim true true (by omega) (by omega) R5.out
                        have HBn := Lib.hid (R7.out _ pL sL).1
                        have HPQ : Hid (pdq lt (pdq lt d4 (mid + 1) b' (rd lt dk a' b' lim wb wp).lim true true) a' mid (rd lt dk a' b' lim wb wp).lim (decide (b' - mid ≥ (b' - a') / 8)) ap = pdq lt d a b limit true true) := by
                          show _ = _
                          have hx := X.out
                          rw [← A.out, pdq_right h12 hl0 HP2.out H87.out (by rw [hx]; exact ⟨r1, r2⟩) (by rw [hx]; exact h4), hx]
                        clear pL sL
                        go_wp2_with fail
                        refine HIH.out.mono ?_
                        rintro e w8 ⟨rfl, ha8⟩
                        have HA8 := Lib.hid (HA7.out.trans ha8)
                        clear ha8 HIH HA7
                        go_wp2
                        go_roundg (mid - a')
                        case measure => omega
                        case rel =>
                          refine ⟨a', mid, (rd lt dk a' b' lim wb wp).lim, decide (b' - mid ≥ (b' - a') / 8), ap, pdq lt d4 (mid + 1) b' (rd lt dk a' b' lim wb wp).lim true true, rfl, rfl, rfl, ?_, rfl, by omega, by omega, Nat.le_refl _, by omega, hlim3, HBn.out, HA8.out, HPQ.out⟩
                          exact congrArg Value.bool (eighth (by omega) (by omega))
                    · have h87' := h87
                      simp only [Bool.and_eq_true, decide_eq_true_eq, Bool.not_eq_true'] at h87'
                      obtain ⟨mid, d4, hx⟩ : ∃ mid d4, partitionEqual lt (rd lt dk a' b' lim wb wp).pi.1 a' b' (rd lt dk a' b' lim wb wp).pivot = (mid, d4) := ⟨(partitionEqual lt (rd lt dk a' b' lim wb wp).pi.1 a' b' (rd lt dk a' b' lim wb wp).pivot).1, (partitionEqual lt (rd lt dk a' b' lim wb wp).pi.1 a' b' (rd lt dk a' b' lim wb wp).pivot).2, rfl⟩
                      obtain ⟨r1, r2, r3, r4, _⟩ := round_eq hO (partitionEqual_holds lt) h87'.1 hpv.1 hpv.2 (show b' ≤ (rd lt dk a' b' lim wb wp).pi.1.size by omega) HB3.out h87'.2 hx
                      have HC21 := Lib.hid (partitionEqual_at HS.out a' b' (rd lt dk a' b' lim wb wp).pivot (rd lt dk a' b' lim wb wp).pi.1 wc HA6.out.inv hpv.1 hpv.2 hb')
                      rw [hx] at HC21
                      have X := Lib.hid hx
                      have R4 := Lib.hid r4
                      have H87 := Lib.hid h87
                      clear hx r4 h87'
                      go_wp2_with fail
                      refine HC21.out.mono ?_
                      rintro e w7 ⟨rfl, ha7⟩
                      have HA7 := Lib.hid (HA6.out.trans ha7)
                      clear ha7 HC21 HA6
                      have hlim3 : (rd lt dk a' b' lim wb wp).lim ≤ limit := Nat.le_trans rd_lim_le hlim
                      have HPQ : Hid (pdq lt d4 mid b' (rd lt dk a' b' lim wb wp).lim wb wp = pdq lt d a b limit true true) := by
                        show _ = _
                        have hx := X.out
                        rw [← A.out, pdq_eq h12 hl0 HP2.out H87.out (by rw [hx]; exact ⟨r1, r2⟩), hx]
                      go_wp2
                      go_roundg (b' - mid)
                      case measure => omega
                      case rel => exact ⟨mid, b', (rd lt dk a' b' lim wb wp).lim, wb, wp, d4, rfl, rfl, rfl, rfl, rfl, r2, hb', Nat.le_refl _, by omega, hlim3, R4.out, HA7.out, HPQ.out⟩

end Go.Proofs.YtbkgbnejmgjiiaaDoor
