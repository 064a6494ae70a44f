/- sort.partialInsertionSort over an array whose methods compare and exchange. Conditions: the bounds lie in the array. Printed by sg3.py. -/
import Derived.Test.YtbkgbnejmgjiiaaDoorWSortA
import Derived.Sort.WalkA6
namespace Go.Proofs.YtbkgbnejmgjiiaaDoor
open Go.RowKit Go.Lib Go.Sort
variable {α : Type}

set_option maxHeartbeats 8000000 in
set_option maxRecDepth 100000 in
theorem partialInsertionSort_at [Inhabited α] {blk : Nat} {rv : Value} {lt : α → α → Bool} {size : Nat} {I : Array α → World → Prop} (S : Srt blk rv lt size I) (a b : Nat) (d : Array α) (w : World) (hI : I d w) (hab : a < b) (hb : b ≤ size) :
    Calls Tryd.prog 73 #[.iface 132 rv, .int .i64 a, .int .i64 b] w fun e w' => e = .returned (.bool (Sort.partialInsertionSort lt d a b).2) ∧ At I blk w (Sort.partialInsertionSort lt d a b).1 w' := by
  obtain ⟨p, n, c, rfl⟩ := S.isSlice
  have hsz := S.small
  have HS := Lib.hid S
  have HI := Lib.hid hI
  have mL := method_less p n c
  have mS := method_swap p n c
  clear S hI
  go_enter Tryd.func73, Tryd.ntmps73
  go_wp2
  go_loopg [7, 8] 5 (fun g1 vi vs wr => ∃ (i s : Nat) (dk : Array α), vi = .int .i64 i ∧ vs = .int .i64 s ∧ s ≤ 5 ∧ 5 - s ≤ g1 ∧ a < i ∧ i ≤ b ∧ Hid (At I blk w dk wr) ∧ Hid (partialIns lt a b (5 - s) i dk = partialIns lt a b 5 (a + 1) d))
  case atStart => exact ⟨a + 1, 0, d, by go_num, rfl, by omega, by omega, by omega, by omega, At.start HI.out, rfl⟩
  case round =>
    obtain ⟨i, s, dk, rfl, rfl, hs5, hg1, hai, hib, HA, HO⟩ := hrel
    by_cases hs : s < 5
    · have hsz5 : (s : Int) < 5 := by omega
      go_wp2
      go_loopg [7] (b - i) (fun g2 vi wr2 => ∃ (kx : Nat), vi = .int .i64 kx ∧ i ≤ kx ∧ kx ≤ b ∧ b - kx ≤ g2 ∧ Hid (At I blk w dk wr2) ∧ Hid (scanSorted lt dk b kx = scanSorted lt dk b i))
      case atStart => exact ⟨i, rfl, Nat.le_refl _, hib, Nat.le_refl _, HA.out, rfl⟩
      case round =>
        clear HA
        obtain ⟨kx, rfl, hik, hkb, hg2, HA, HSc⟩ := hrel
        by_cases hkb' : kx < b
        · have hkz : (kx : Int) < (b : Int) := by omega
          have HL1 := Lib.hid (HA.out.less HS.out (i := kx) (j := kx - 1) (by omega) (by omega))
          rw [show (((kx - 1 : Nat) : Int)) = (kx : Int) - 1 by omega] at HL1
          cases hlv : lt dk[kx]! dk[kx - 1]! with
          | false =>
            rw [hlv] at HL1
            go_wp2_with fail
            refine HL1.out.mono ?_
            rintro e w2 ⟨rfl, ha2⟩
            have HA2 := Lib.hid ha2
            clear ha2 HL1 HA
            have HS2 : Hid (scanSorted lt dk b (kx + 1) = scanSorted lt dk b i) := by rw [← HSc.out, scanSorted_go lt dk b kx hkb' hlv]; exact rfl
            go_wp2
            go_roundg (b - (kx + 1))
            case measure => omega
            case rel => exact ⟨kx + 1, by go_num, by omega, by omega, Nat.le_refl _, HA2.out, HS2.out⟩
          | true =>
            rw [hlv] at HL1
            have HK : Hid (scanSorted lt dk b i = kx) := by show _ = _; rw [← HSc.out, scanSorted_stop lt dk b kx (Or.inr hlv)]
            have hkne : ((kx : Int) == (b : Int)) = false := beq_eq_false_iff_ne.2 (by omega)
            go_wp2_with fail
            refine HL1.out.mono ?_
            rintro e w2 ⟨rfl, ha2⟩
            have HA2 := Lib.hid ha2
            clear ha2 HL1 HA
            by_cases h50 : b - a < 50
            · have h50z : (b : Int) - (a : Int) < 50 := by omega
              have HV : Hid (Sort.partialInsertionSort lt d a b = (dk, false)) := by
                show _ = _
                unfold Sort.partialInsertionSort
                rw [← HO.out, pi_short lt a b s i dk hs (by rw [HK.out]; omega) h50]
              go_wp2
              go_ret
              rw [HV.out]
              exact ⟨rfl, HA2.out⟩
            · have h50z : ¬ ((b : Int) - (a : Int) < 50) := by omega
              have HSW1 := Lib.hid (HA2.out.swap HS.out (i := kx) (j := kx - 1) (by omega) (by omega))
              rw [show (((kx - 1 : Nat) : Int)) = (kx : Int) - 1 by omega] at HSW1
              go_wp2_with fail
              refine HSW1.out.mono ?_
              rintro e w3 ⟨rfl, ha3⟩
              have HA3 := Lib.hid ha3
              clear ha3 HSW1 HA2
              by_cases hka : kx - a ≥ 2
              · have hkaz : (2 : Int) ≤ (kx : Int) - (a : Int) := by omega
                go_wp2
                go_loopg [9] (kx - 1) (fun g3 vj wr3 => ∃ (j : Nat) (dj : Array α), vj = .int .i64 j ∧ j ≤ kx - 1 ∧ j ≤ g3 ∧ Hid (At I blk w dj wr3) ∧ Hid (shiftDown lt j dj = shiftDown lt (kx - 1) (swp dk kx (kx - 1))))
                case atStart => exact ⟨kx - 1, swp dk kx (kx - 1), by congr 1; omega, Nat.le_refl _, Nat.le_refl _, HA3.out, rfl⟩
                case round =>
                  clear HA3
                  obtain ⟨j, dj, rfl, hjk, hg3, HAd, HDn⟩ := hrel
                  by_cases hj1 : 1 ≤ j
                  · have hj1z : (1 : Int) ≤ (j : Int) := by omega
                    have HL2 := Lib.hid (HAd.out.less HS.out (i := j) (j := j - 1) (by omega) (by omega))
                    rw [show (((j - 1 : Nat) : Int)) = (j : Int) - 1 by omega] at HL2
                    cases hlv2 : lt dj[j]! dj[j - 1]! with
                    | true =>
                      rw [hlv2] at HL2
                      go_wp2_with fail
                      refine HL2.out.mono ?_
                      rintro e w5 ⟨rfl, ha5⟩
                      have HA5 := Lib.hid ha5
                      clear ha5 HL2 HAd
                      have HSW2 := Lib.hid (HA5.out.swap HS.out (i := j) (j := j - 1) (by omega) (by omega))
                      rw [show (((j - 1 : Nat) : Int)) = (j : Int) - 1 by omega] at HSW2
                      go_wp2_with fail
                      refine HSW2.out.mono ?_
                      rintro e w6 ⟨rfl, ha6⟩
                      have HA6 := Lib.hid ha6
                      clear ha6 HSW2 HA5
                      have HD2 : Hid (shiftDown lt (j - 1) (swp dj j (j - 1)) = shiftDown lt (kx - 1) (swp dk kx (kx - 1))) := by rw [← HDn.out, shiftDown_go lt j dj hj1 hlv2]; exact rfl
                      go_wp2
                      go_roundg (j - 1)
                      case measure => omega
                      case rel => exact ⟨j - 1, swp dj j (j - 1), by congr 1; omega, by omega, Nat.le_refl _, HA6.out, HD2.out⟩
                    | false =>
                      rw [hlv2] at HL2
                      have HD : Hid (fixDown lt a kx (swp dk kx (kx - 1)) = dj) := by show _ = _; unfold fixDown; rw [if_pos hka, ← HDn.out, shiftDown_stop lt j dj (Or.inr hlv2)]
                      go_wp2_with fail
                      refine HL2.out.mono ?_
                      rintro e w5 ⟨rfl, ha5⟩
                      have HA5 := Lib.hid ha5
                      clear ha5 HL2 HAd
                      by_cases hbk : b - kx ≥ 2
                      · have hbkz : (2 : Int) ≤ (b : Int) - (kx : Int) := by omega
                        go_wp2
                        go_loopg [10] (b - (kx + 1)) (fun g4 vj wr4 => ∃ (ju : Nat) (du : Array α), vj = .int .i64 ju ∧ kx + 1 ≤ ju ∧ ju ≤ b ∧ b - ju ≤ g4 ∧ Hid (At I blk w du wr4) ∧ Hid (shiftUp lt b ju du = shiftUp lt b (kx + 1) (dj)))
                        case atStart => exact ⟨kx + 1, dj, by go_num, Nat.le_refl _, by omega, Nat.le_refl _, HA5.out, rfl⟩
                        case round =>
                          clear HA5
                          obtain ⟨ju, du, rfl, hkj, hjb, hg4, HAu, HU⟩ := hrel
                          by_cases hjb' : ju < b
                          · have hjz : (ju : Int) < (b : Int) := by omega
                            have HL3 := Lib.hid (HAu.out.less HS.out (i := ju) (j := ju - 1) (by omega) (by omega))
                            rw [show (((ju - 1 : Nat) : Int)) = (ju : Int) - 1 by omega] at HL3
                            cases hlv3 : lt du[ju]! du[ju - 1]! with
                            | true =>
                              rw [hlv3] at HL3
                              go_wp2_with fail
                              refine HL3.out.mono ?_
                              rintro e w8 ⟨rfl, ha8⟩
                              have HA8 := Lib.hid ha8
                              clear ha8 HL3 HAu
                              have HSW3 := Lib.hid (HA8.out.swap HS.out (i := ju) (j := ju - 1) (by omega) (by omega))
                              rw [show (((ju - 1 : Nat) : Int)) = (ju : Int) - 1 by omega] at HSW3
                              go_wp2_with fail
                              refine HSW3.out.mono ?_
                              rintro e w9 ⟨rfl, ha9⟩
                              have HA9 := Lib.hid ha9
                              clear ha9 HSW3 HA8
                              have HU2 : Hid (shiftUp lt b (ju + 1) (swp du ju (ju - 1)) = shiftUp lt b (kx + 1) (dj)) := by rw [← HU.out, shiftUp_go lt b ju du hjb' hlv3]; exact rfl
                              go_wp2
                              go_roundg (b - (ju + 1))
                              case measure => omega
                              case rel => exact ⟨ju + 1, swp du ju (ju - 1), by go_num, by omega, by omega, Nat.le_refl _, HA9.out, HU2.out⟩
                            | false =>
                              rw [hlv3] at HL3
                              go_wp2_with fail
                              refine HL3.out.mono ?_
                              rintro e w8 ⟨rfl, ha8⟩
                              have HA8 := Lib.hid ha8
                              clear ha8 HL3 HAu
                              have HPI : Hid (partialIns lt a b (5 - (s + 1)) kx (du) = partialIns lt a b 5 (a + 1) d) := by rw [← HO.out, pi_go lt a b s i kx dk hs HK.out (by omega) h50, HD.out, show fixUp lt b kx (dj) = du from by unfold fixUp; rw [if_pos hbk, ← HU.out, shiftUp_stop lt b ju du (Or.inr hlv3)]]; exact rfl
                              go_wp2
                              go_roundg (5 - (s + 1))
                              case measure => omega
                              case rel => exact ⟨kx, s + 1, du, rfl, by go_num, by omega, Nat.le_refl _, by omega, by omega, HA8.out, HPI.out⟩
                          · have hjz : ¬ (ju : Int) < (b : Int) := by omega
                            have HPI : Hid (partialIns lt a b (5 - (s + 1)) kx (du) = partialIns lt a b 5 (a + 1) d) := by rw [← HO.out, pi_go lt a b s i kx dk hs HK.out (by omega) h50, HD.out, show fixUp lt b kx (dj) = du from by unfold fixUp; rw [if_pos hbk, ← HU.out, shiftUp_stop lt b ju du (Or.inl hjb')]]; exact rfl
                            go_wp2
                            go_roundg (5 - (s + 1))
                            case measure => omega
                            case rel => exact ⟨kx, s + 1, du, rfl, by go_num, by omega, Nat.le_refl _, by omega, by omega, HAu.out, HPI.out⟩
                      · have hbkz : ¬ (2 : Int) ≤ (b : Int) - (kx : Int) := by omega
                        have HPI : Hid (partialIns lt a b (5 - (s + 1)) kx (dj) = partialIns lt a b 5 (a + 1) d) := by rw [← HO.out, pi_go lt a b s i kx dk hs HK.out (by omega) h50, HD.out, show fixUp lt b kx (dj) = dj from by unfold fixUp; rw [if_neg hbk]]; exact rfl
                        go_wp2
                        go_roundg (5 - (s + 1))
                        case measure => omega
                        case rel => exact ⟨kx, s + 1, dj, rfl, by go_num, by omega, Nat.le_refl _, by omega, by omega, HA5.out, HPI.out⟩
                  · have hj1z : ¬ (1 : Int) ≤ (j : Int) := by omega
                    have HD : Hid (fixDown lt a kx (swp dk kx (kx - 1)) = dj) := by show _ = _; unfold fixDown; rw [if_pos hka, ← HDn.out, shiftDown_stop lt j dj (Or.inl (by omega))]
                    by_cases hbk : b - kx ≥ 2
                    · have hbkz : (2 : Int) ≤ (b : Int) - (kx : Int) := by omega
                      go_wp2
                      go_loopg [10] (b - (kx + 1)) (fun g4 vj wr4 => ∃ (ju : Nat) (du : Array α), vj = .int .i64 ju ∧ kx + 1 ≤ ju ∧ ju ≤ b ∧ b - ju ≤ g4 ∧ Hid (At I blk w du wr4) ∧ Hid (shiftUp lt b ju du = shiftUp lt b (kx + 1) (dj)))
                      case atStart => exact ⟨kx + 1, dj, by go_num, Nat.le_refl _, by omega, Nat.le_refl _, HAd.out, rfl⟩
                      case round =>
                        clear HAd
                        obtain ⟨ju, du, rfl, hkj, hjb, hg4, HAu, HU⟩ := hrel
                        by_cases hjb' : ju < b
                        · have hjz : (ju : Int) < (b : Int) := by omega
                          have HL3 := Lib.hid (HAu.out.less HS.out (i := ju) (j := ju - 1) (by omega) (by omega))
                          rw [show (((ju - 1 : Nat) : Int)) = (ju : Int) - 1 by omega] at HL3
                          cases hlv3 : lt du[ju]! du[ju - 1]! with
                          | true =>
                            rw [hlv3] at HL3
                            go_wp2_with fail
                            refine HL3.out.mono ?_
                            rintro e w8 ⟨rfl, ha8⟩
                            have HA8 := Lib.hid ha8
                            clear ha8 HL3 HAu
                            have HSW3 := Lib.hid (HA8.out.swap HS.out (i := ju) (j := ju - 1) (by omega) (by omega))
                            rw [show (((ju - 1 : Nat) : Int)) = (ju : Int) - 1 by omega] at HSW3
                            go_wp2_with fail
                            refine HSW3.out.mono ?_
                            rintro e w9 ⟨rfl, ha9⟩
                            have HA9 := Lib.hid ha9
                            clear ha9 HSW3 HA8
                            have HU2 : Hid (shiftUp lt b (ju + 1) (swp du ju (ju - 1)) = shiftUp lt b (kx + 1) (dj)) := by rw [← HU.out, shiftUp_go lt b ju du hjb' hlv3]; exact rfl
                            go_wp2
                            go_roundg (b - (ju + 1))
                            case measure => omega
                            case rel => exact ⟨ju + 1, swp du ju (ju - 1), by go_num, by omega, by omega, Nat.le_refl _, HA9.out, HU2.out⟩
                          | false =>
                            rw [hlv3] at HL3
                            go_wp2_with fail
                            refine HL3.out.mono ?_
                            rintro e w8 ⟨rfl, ha8⟩
                            have HA8 := Lib.hid ha8
                            clear ha8 HL3 HAu
                            have HPI : Hid (partialIns lt a b (5 - (s + 1)) kx (du) = partialIns lt a b 5 (a + 1) d) := by rw [← HO.out, pi_go lt a b s i kx dk hs HK.out (by omega) h50, HD.out, show fixUp lt b kx (dj) = du from by unfold fixUp; rw [if_pos hbk, ← HU.out, shiftUp_stop lt b ju du (Or.inr hlv3)]]; exact rfl
                            go_wp2
                            go_roundg (5 - (s + 1))
                            case measure => omega
                            case rel => exact ⟨kx, s + 1, du, rfl, by go_num, by omega, Nat.le_refl _, by omega, by omega, HA8.out, HPI.out⟩
                        · have hjz : ¬ (ju : Int) < (b : Int) := by omega
                          have HPI : Hid (partialIns lt a b (5 - (s + 1)) kx (du) = partialIns lt a b 5 (a + 1) d) := by rw [← HO.out, pi_go lt a b s i kx dk hs HK.out (by omega) h50, HD.out, show fixUp lt b kx (dj) = du from by unfold fixUp; rw [if_pos hbk, ← HU.out, shiftUp_stop lt b ju du (Or.inl hjb')]]; exact rfl
                          go_wp2
                          go_roundg (5 - (s + 1))
                          case measure => omega
                          case rel => exact ⟨kx, s + 1, du, rfl, by go_num, by omega, Nat.le_refl _, by omega, by omega, HAu.out, HPI.out⟩
                    · have hbkz : ¬ (2 : Int) ≤ (b : Int) - (kx : Int) := by omega
                      have HPI : Hid (partialIns lt a b (5 - (s + 1)) kx (dj) = partialIns lt a b 5 (a + 1) d) := by rw [← HO.out, pi_go lt a b s i kx dk hs HK.out (by omega) h50, HD.out, show fixUp lt b kx (dj) = dj from by unfold fixUp; rw [if_neg hbk]]; exact rfl
                      go_wp2
                      go_roundg (5 - (s + 1))
                      case measure => omega
                      case rel => exact ⟨kx, s + 1, dj, rfl, by go_num, by omega, Nat.le_refl _, by omega, by omega, HAd.out, HPI.out⟩
              · have hkaz : ¬ (2 : Int) ≤ (kx : Int) - (a : Int) := by omega
                have HD : Hid (fixDown lt a kx (swp dk kx (kx - 1)) = swp dk kx (kx - 1)) := by show _ = _; unfold fixDown; rw [if_neg hka]
                by_cases hbk : b - kx ≥ 2
                · have hbkz : (2 : Int) ≤ (b : Int) - (kx : Int) := by omega
                  go_wp2
                  go_loopg [10] (b - (kx + 1)) (fun g4 vj wr4 => ∃ (ju : Nat) (du : Array α), vj = .int .i64 ju ∧ kx + 1 ≤ ju ∧ ju ≤ b ∧ b - ju ≤ g4 ∧ Hid (At I blk w du wr4) ∧ Hid (shiftUp lt b ju du = shiftUp lt b (kx + 1) (swp dk kx (kx - 1))))
                  case atStart => exact ⟨kx + 1, swp dk kx (kx - 1), by go_num, Nat.le_refl _, by omega, Nat.le_refl _, HA3.out, rfl⟩
                  case round =>
                    clear HA3
                    obtain ⟨ju, du, rfl, hkj, hjb, hg4, HAu, HU⟩ := hrel
                    by_cases hjb' : ju < b
                    · have hjz : (ju : Int) < (b : Int) := by omega
                      have HL3 := Lib.hid (HAu.out.less HS.out (i := ju) (j := ju - 1) (by omega) (by omega))
                      rw [show (((ju - 1 : Nat) : Int)) = (ju : Int) - 1 by omega] at HL3
                      cases hlv3 : lt du[ju]! du[ju - 1]! with
                      | true =>
                        rw [hlv3] at HL3
                        go_wp2_with fail
                        refine HL3.out.mono ?_
                        rintro e w8 ⟨rfl, ha8⟩
                        have HA8 := Lib.hid ha8
                        clear ha8 HL3 HAu
                        have HSW3 := Lib.hid (HA8.out.swap HS.out (i := ju) (j := ju - 1) (by omega) (by omega))
                        rw [show (((ju - 1 : Nat) : Int)) = (ju : Int) - 1 by omega] at HSW3
                        go_wp2_with fail
                        refine HSW3.out.mono ?_
                        rintro e w9 ⟨rfl, ha9⟩
                        have HA9 := Lib.hid ha9
                        clear ha9 HSW3 HA8
                        have HU2 : Hid (shiftUp lt b (ju + 1) (swp du ju (ju - 1)) = shiftUp lt b (kx + 1) (swp dk kx (kx - 1))) := by rw [← HU.out, shiftUp_go lt b ju du hjb' hlv3]; exact rfl
                        go_wp2
                        go_roundg (b - (ju + 1))
                        case measure => omega
                        case rel => exact ⟨ju + 1, swp du ju (ju - 1), by go_num, by omega, by omega, Nat.le_refl _, HA9.out, HU2.out⟩
                      | false =>
                        rw [hlv3] at HL3
                        go_wp2_with fail
                        refine HL3.out.mono ?_
                        rintro e w8 ⟨rfl, ha8⟩
                        have HA8 := Lib.hid ha8
                        clear ha8 HL3 HAu
                        have HPI : Hid (partialIns lt a b (5 - (s + 1)) kx (du) = partialIns lt a b 5 (a + 1) d) := by rw [← HO.out, pi_go lt a b s i kx dk hs HK.out (by omega) h50, HD.out, show fixUp lt b kx (swp dk kx (kx - 1)) = du from by unfold fixUp; rw [if_pos hbk, ← HU.out, shiftUp_stop lt b ju du (Or.inr hlv3)]]; exact rfl
                        go_wp2
                        go_roundg (5 - (s + 1))
                        case measure => omega
                        case rel => exact ⟨kx, s + 1, du, rfl, by go_num, by omega, Nat.le_refl _, by omega, by omega, HA8.out, HPI.out⟩
                    · have hjz : ¬ (ju : Int) < (b : Int) := by omega
                      have HPI : Hid (partialIns lt a b (5 - (s + 1)) kx (du) = partialIns lt a b 5 (a + 1) d) := by rw [← HO.out, pi_go lt a b s i kx dk hs HK.out (by omega) h50, HD.out, show fixUp lt b kx (swp dk kx (kx - 1)) = du from by unfold fixUp; rw [if_pos hbk, ← HU.out, shiftUp_stop lt b ju du (Or.inl hjb')]]; exact rfl
                      go_wp2
                      go_roundg (5 - (s + 1))
                      case measure => omega
                      case rel => exact ⟨kx, s + 1, du, rfl, by go_num, by omega, Nat.le_refl _, by omega, by omega, HAu.out, HPI.out⟩
                · exfalso; omega
        · obtain rfl : kx = b := by omega
          have hkz : ¬ (kx : Int) < (kx : Int) := by omega
          have HV : Hid (Sort.partialInsertionSort lt d a kx = (dk, true)) := by
            show _ = _
            unfold Sort.partialInsertionSort
            rw [← HO.out, pi_true lt a kx s i dk hs (by rw [← HSc.out, scanSorted_stop lt dk kx kx (Or.inl (by omega))])]
          go_wp2
          go_ret
          rw [HV.out]
          exact ⟨rfl, HA.out⟩
    · obtain rfl : s = 5 := by omega
      have HV : Hid (Sort.partialInsertionSort lt d a b = (dk, false)) := by
        show _ = _
        unfold Sort.partialInsertionSort
        rw [← HO.out, pi_end]
      go_wp2
      go_ret
      rw [HV.out]
      exact ⟨rfl, HA.out⟩

end Go.Proofs.YtbkgbnejmgjiiaaDoor
