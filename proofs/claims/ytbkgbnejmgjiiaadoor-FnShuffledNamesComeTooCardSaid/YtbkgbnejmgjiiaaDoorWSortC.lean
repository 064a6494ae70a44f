/- sort.partitionEqual, sort.partition over an array whose methods compare and exchange. Conditions: the bounds lie in the array. Printed by sg2.py. -/
import Derived.Test.YtbkgbnejmgjiiaaDoorWSortA
import Derived.Sort.WalkC
import Derived.Sort.WalkC4
namespace Go.Proofs.YtbkgbnejmgjiiaaDoor
open Go.RowKit Go.Lib Go.Sort
variable {α : Type}

set_option maxHeartbeats 8000000 in
set_option maxRecDepth 100000 in
theorem partitionEqual_at [Inhabited α] {blk : Nat} {rv : Value} {lt : α → α → Bool} {size : Nat} {I : Array α → World → Prop} (S : Srt blk rv lt size I) (a b pivot : Nat) (d : Array α) (w : World) (hI : I d w) (hap : a ≤ pivot) (hpb : pivot < b) (hb : b ≤ size) :
    Calls Tryd.prog 74 #[.iface 132 rv, .int .i64 a, .int .i64 b, .int .i64 pivot] w fun e w' => e = .returned (.int .i64 (Sort.partitionEqual lt d a b pivot).1) ∧ At I blk w (Sort.partitionEqual lt d a b pivot).2 w' := by
  obtain ⟨p, n, c, rfl⟩ := S.isSlice
  have hsz := S.small
  have HS := Lib.hid S
  have HI := Lib.hid hI
  have mL := method_less p n c
  have mS := method_swap p n c
  clear S hI
  have HSW0 := Lib.hid ((At.start (blk := blk) HI.out).swap HS.out (i := a) (j := pivot) (by omega) (by omega))
  go_enter Tryd.func74, Tryd.ntmps74
  go_wp2_with fail
  refine HSW0.out.mono ?_
  rintro e w1 ⟨rfl, ha1⟩
  have HA1 := Lib.hid ha1
  clear ha1 HSW0 
  go_wp2
  go_loopw [9, 10] (fun vi vj wr => ∃ (i j : Nat) (dk : Array α), vi = .int .i64 i ∧ vj = .int .i64 j ∧ a < i ∧ i ≤ j + 1 ∧ j < b ∧ Hid (At I blk w dk wr) ∧ Hid (Sort.partEqLoop lt a i j dk = Sort.partEqLoop lt a (a + 1) (b - 1) (Sort.swp d a pivot))) (fun vi vj _ => (intOf vj).toNat + 1 - (intOf vi).toNat)
  case atStart => exact ⟨a + 1, b - 1, Sort.swp d a pivot, by go_num, by go_num, by omega, by omega, by omega, HA1.out, rfl⟩
  case round =>
    clear HA1
    obtain ⟨i, j, dk, rfl, rfl, hai, hij, hjb, HA, AE⟩ := hrel
    go_wp2
    go_loopw [9] (fun vi w1 => ∃ (i' : Nat), vi = .int .i64 i' ∧ i ≤ i' ∧ i' ≤ j + 1 ∧ Hid (At I blk w dk w1) ∧ Hid (Sort.scanUp (fun x => !lt dk[a]! x) dk j i' = Sort.scanUp (fun x => !lt dk[a]! x) dk j i)) (fun vi _ => j + 1 - (intOf vi).toNat)
    case atStart => exact ⟨i, rfl, Nat.le_refl _, hij, HA.out, rfl⟩
    case round =>
      clear HA
      obtain ⟨i', rfl, hii, hij', HA, HSC⟩ := hrel
      by_cases hle : i' ≤ j
      · have HL := Lib.hid (HA.out.less HS.out (i := a) (j := i') (by omega) (by omega))
        cases hlv : lt dk[a]! dk[i']! with
        | false =>
          rw [hlv] at HL
          go_wp2_with fail
          refine HL.out.mono ?_
          rintro e w2 ⟨rfl, ha2⟩
          have HA2 := Lib.hid ha2
          clear ha2 HL 
          have HS2 : Hid (Sort.scanUp (fun x => !lt dk[a]! x) dk j (i' + 1) = Sort.scanUp (fun x => !lt dk[a]! x) dk j i) := (scanUp_go (fun x => !lt dk[a]! x) dk j i' hle (by simp [hlv])).symm.trans HSC.out
          go_wp2
          go_roundw
          case rel => exact ⟨i' + 1, by go_num, by omega, by omega, HA2.out, HS2.out⟩
          case measure => simp [intOf]; omega
        | true =>
          rw [hlv] at HL
          have HI2 : Hid (i' = Sort.scanUp (fun x => !lt dk[a]! x) dk j i) := (scanUp_end (fun x => !lt dk[a]! x) dk j i' (Or.inr (by simp [hlv]))).symm.trans HSC.out
          go_wp2_with fail
          refine HL.out.mono ?_
          rintro e w2 ⟨rfl, ha2⟩
          have HA2 := Lib.hid ha2
          clear ha2 HL HA
          go_wp2
          go_loopw [10] (fun vj w2 => ∃ (j' : Nat), vj = .int .i64 j' ∧ j' ≤ j ∧ i' ≤ j' + 1 ∧ Hid (At I blk w dk w2) ∧ Hid (Sort.scanDown (fun x => lt dk[a]! x) dk i' j' = Sort.scanDown (fun x => lt dk[a]! x) dk i' j)) (fun vj _ => (intOf vj).toNat)
          case atStart => exact ⟨j, rfl, Nat.le_refl _, hij', HA2.out, rfl⟩
          case round =>
            clear HA2
            obtain ⟨j', rfl, hjj, hij2, HA, HSD⟩ := hrel
            by_cases hle2 : i' ≤ j'
            · have HL := Lib.hid (HA.out.less HS.out (i := a) (j := j') (by omega) (by omega))
              cases hlv2 : lt dk[a]! dk[j']! with
              | true =>
                rw [hlv2] at HL
                go_wp2_with fail
                refine HL.out.mono ?_
                rintro e w2 ⟨rfl, ha2⟩
                have HA2 := Lib.hid ha2
                clear ha2 HL 
                have HS2 : Hid (Sort.scanDown (fun x => lt dk[a]! x) dk i' (j' - 1) = Sort.scanDown (fun x => lt dk[a]! x) dk i' j) := (scanDown_go (fun x => lt dk[a]! x) dk i' j' hle2 (by omega) hlv2).symm.trans HSD.out
                go_wp2
                go_roundw
                case rel => exact ⟨j' - 1, by go_num, by omega, by omega, HA2.out, HS2.out⟩
                case measure => simp [intOf]; omega
              | false =>
                rw [hlv2] at HL
                have HJ2 : Hid (j' = Sort.scanDown (fun x => lt dk[a]! x) dk i' j) := (scanDown_end (fun x => lt dk[a]! x) dk i' j' (Or.inr hlv2)).symm.trans HSD.out
                have hlt3 := scans_lt lt a i j dk (by omega) HI2.out HJ2.out hle2
                go_wp2_with fail
                refine HL.out.mono ?_
                rintro e w2 ⟨rfl, ha2⟩
                have HA2 := Lib.hid ha2
                clear ha2 HL 
                have HSW := Lib.hid (HA2.out.swap HS.out (i := i') (j := j') (by omega) (by omega))
                go_wp2_with fail
                refine HSW.out.mono ?_
                rintro e w3 ⟨rfl, ha3⟩
                have HA3 := Lib.hid ha3
                clear ha3 HSW HA2
                have HX : Hid (Sort.partEqLoop lt a (i' + 1) (j' - 1) (Sort.swp dk i' j') = Sort.partEqLoop lt a (a + 1) (b - 1) (Sort.swp d a pivot)) := by rw [← AE.out]; exact (partEq_go lt a i j dk HI2.out HJ2.out (by omega)).symm
                go_wp2
                go_roundw
                case rel => exact ⟨i' + 1, j' - 1, Sort.swp dk i' j', by go_num, by go_num, by omega, by omega, by omega, HA3.out, HX.out⟩
                case measure => simp [intOf]; omega
            · have HJ2 : Hid (j' = Sort.scanDown (fun x => lt dk[a]! x) dk i' j) := (scanDown_end (fun x => lt dk[a]! x) dk i' j' (Or.inl hle2)).symm.trans HSD.out
              have HE := Lib.hid (partEq_break lt a i j dk HI2.out HJ2.out (by omega))
              go_wp2
              go_ret
              unfold Sort.partitionEqual
              rw [← AE.out, HE.out]
              exact ⟨rfl, HA.out⟩
      · have HI2 : Hid (i' = Sort.scanUp (fun x => !lt dk[a]! x) dk j i) := (scanUp_end (fun x => !lt dk[a]! x) dk j i' (Or.inl hle)).symm.trans HSC.out
        go_wp2
        go_loopw [10] (fun vj w2 => ∃ (j' : Nat), vj = .int .i64 j' ∧ j' ≤ j ∧ i' ≤ j' + 1 ∧ Hid (At I blk w dk w2) ∧ Hid (Sort.scanDown (fun x => lt dk[a]! x) dk i' j' = Sort.scanDown (fun x => lt dk[a]! x) dk i' j)) (fun vj _ => (intOf vj).toNat)
        case atStart => exact ⟨j, rfl, Nat.le_refl _, hij', HA.out, rfl⟩
        case round =>
          clear HA
          obtain ⟨j', rfl, hjj, hij2, HA, HSD⟩ := hrel
          by_cases hle2 : i' ≤ j'
          · exfalso; omega
          · have HJ2 : Hid (j' = Sort.scanDown (fun x => lt dk[a]! x) dk i' j) := (scanDown_end (fun x => lt dk[a]! x) dk i' j' (Or.inl hle2)).symm.trans HSD.out
            have HE := Lib.hid (partEq_break lt a i j dk HI2.out HJ2.out (by omega))
            go_wp2
            go_ret
            unfold Sort.partitionEqual
            rw [← AE.out, HE.out]
            exact ⟨rfl, HA.out⟩

set_option maxHeartbeats 8000000 in
set_option maxRecDepth 100000 in
theorem partition_at [Inhabited α] {blk : Nat} {rv : Value} {lt : α → α → Bool} {size : Nat} {I : Array α → World → Prop} (S : Srt blk rv lt size I) (a b pivot : Nat) (d : Array α) (w : World) (hI : I d w) (hap : a ≤ pivot) (hpb : pivot < b) (hb : b ≤ size) :
    Calls Tryd.prog 75 #[.iface 132 rv, .int .i64 a, .int .i64 b, .int .i64 pivot] w fun e w' => e = .returned (.tuple #[.int .i64 (Sort.partition lt d a b pivot).1, .bool (Sort.partition lt d a b pivot).2.1]) ∧ At I blk w (Sort.partition lt d a b pivot).2.2 w' := by
  obtain ⟨p, n, c, rfl⟩ := S.isSlice
  have hsz := S.small
  have HS := Lib.hid S
  have HI := Lib.hid hI
  have mL := method_less p n c
  have mS := method_swap p n c
  clear S hI
  have HSW0 := Lib.hid ((At.start (blk := blk) HI.out).swap HS.out (i := a) (j := pivot) (by omega) (by omega))
  obtain ⟨i, hi⟩ : ∃ i : Nat, i = a + 1 := ⟨_, rfl⟩
  obtain ⟨j, hj⟩ : ∃ j : Nat, j = b - 1 := ⟨_, rfl⟩
  obtain ⟨dk, hdk⟩ : ∃ dk : Array α, dk = Sort.swp d a pivot := ⟨_, rfl⟩
  have hai : a < i := by omega
  have hij : i ≤ j + 1 := by omega
  have hjb : j < b := by omega
  rw [← hdk] at HSW0
  have HII : Hid (i = a + 1) := hi
  have HJJ : Hid (j = b - 1) := hj
  have HDK : Hid (dk = Sort.swp d a pivot) := hdk
  clear hi hj hdk
  go_enter Tryd.func75, Tryd.ntmps75
  go_wp2_with fail
  refine HSW0.out.mono ?_
  rintro e w1 ⟨rfl, ha1⟩
  have HA := Lib.hid ha1
  clear ha1 HSW0 
  go_wp2
  rw [show ((a : Int) + 1) = (i : Int) by have := HII.out; omega, show ((b : Int) - 1) = (j : Int) by have := HJJ.out; omega]
  go_loopw [10] (fun vi w1 => ∃ (i' : Nat), vi = .int .i64 i' ∧ i ≤ i' ∧ i' ≤ j + 1 ∧ Hid (At I blk w dk w1) ∧ Hid (Sort.scanUp (fun x => lt x dk[a]!) dk j i' = Sort.scanUp (fun x => lt x dk[a]!) dk j i)) (fun vi _ => j + 1 - (intOf vi).toNat)
  case atStart => exact ⟨i, rfl, Nat.le_refl _, hij, HA.out, rfl⟩
  case round =>
    clear HA
    obtain ⟨i', rfl, hii, hij', HA, HSC⟩ := hrel
    by_cases hle : i' ≤ j
    · have HL := Lib.hid (HA.out.less HS.out (i := i') (j := a) (by omega) (by omega))
      cases hlv : lt dk[i']! dk[a]! with
      | true =>
        rw [hlv] at HL
        go_wp2_with fail
        refine HL.out.mono ?_
        rintro e w2 ⟨rfl, ha2⟩
        have HA2 := Lib.hid ha2
        clear ha2 HL 
        have HS2 : Hid (Sort.scanUp (fun x => lt x dk[a]!) dk j (i' + 1) = Sort.scanUp (fun x => lt x dk[a]!) dk j i) := (scanUp_go (fun x => lt x dk[a]!) dk j i' hle hlv).symm.trans HSC.out
        go_wp2
        go_roundw
        case rel => exact ⟨i' + 1, by go_num, by omega, by omega, HA2.out, HS2.out⟩
        case measure => simp [intOf]; omega
      | false =>
        rw [hlv] at HL
        have HI2 : Hid (i' = Sort.scanUp (fun x => lt x dk[a]!) dk j i) := (scanUp_end (fun x => lt x dk[a]!) dk j i' (Or.inr hlv)).symm.trans HSC.out
        go_wp2_with fail
        refine HL.out.mono ?_
        rintro e w2 ⟨rfl, ha2⟩
        have HA2 := Lib.hid ha2
        clear ha2 HL HA
        go_wp2
        go_loopw [11] (fun vj w2 => ∃ (j' : Nat), vj = .int .i64 j' ∧ j' ≤ j ∧ i' ≤ j' + 1 ∧ Hid (At I blk w dk w2) ∧ Hid (Sort.scanDown (fun x => !lt x dk[a]!) dk i' j' = Sort.scanDown (fun x => !lt x dk[a]!) dk i' j)) (fun vj _ => (intOf vj).toNat)
        case atStart => exact ⟨j, rfl, Nat.le_refl _, hij', HA2.out, rfl⟩
        case round =>
          clear HA2
          obtain ⟨j', rfl, hjj, hij2, HA, HSD⟩ := hrel
          by_cases hle2 : i' ≤ j'
          · have HL := Lib.hid (HA.out.less HS.out (i := j') (j := a) (by omega) (by omega))
            cases hlv2 : lt dk[j']! dk[a]! with
            | false =>
              rw [hlv2] at HL
              go_wp2_with fail
              refine HL.out.mono ?_
              rintro e w2 ⟨rfl, ha2⟩
              have HA2 := Lib.hid ha2
              clear ha2 HL 
              have HS2 : Hid (Sort.scanDown (fun x => !lt x dk[a]!) dk i' (j' - 1) = Sort.scanDown (fun x => !lt x dk[a]!) dk i' j) := (scanDown_go (fun x => !lt x dk[a]!) dk i' j' hle2 (by omega) (by simp [hlv2])).symm.trans HSD.out
              go_wp2
              go_roundw
              case rel => exact ⟨j' - 1, by go_num, by omega, by omega, HA2.out, HS2.out⟩
              case measure => simp [intOf]; omega
            | true =>
              rw [hlv2] at HL
              have HJ2 : Hid (j' = Sort.scanDown (fun x => !lt x dk[a]!) dk i' j) := (scanDown_end (fun x => !lt x dk[a]!) dk i' j' (Or.inr (by simp [hlv2]))).symm.trans HSD.out
              have hlt3 := part_scans_lt lt a i j dk (by omega) HI2.out HJ2.out hle2
              go_wp2_with fail
              refine HL.out.mono ?_
              rintro e w2 ⟨rfl, ha2⟩
              have HA2 := Lib.hid ha2
              clear ha2 HL 
              have HSW := Lib.hid (HA2.out.swap HS.out (i := i') (j := j') (by omega) (by omega))
              go_wp2_with fail
              refine HSW.out.mono ?_
              rintro e w3 ⟨rfl, ha3⟩
              have HA3 := Lib.hid ha3
              clear ha3 HSW HA2
              obtain ⟨I0, hI0⟩ : ∃ I0 : Nat, I0 = i' + 1 := ⟨_, rfl⟩
              obtain ⟨J0, hJ0⟩ : ∃ J0 : Nat, J0 = j' - 1 := ⟨_, rfl⟩
              obtain ⟨D0, hD0⟩ : ∃ D0 : Array α, D0 = Sort.swp dk i' j' := ⟨_, rfl⟩
              have PF : Hid (Sort.partition lt d a b pivot = ((Sort.partLoop lt a I0 J0 D0).1, false, Sort.swp (Sort.partLoop lt a I0 J0 D0).2 (Sort.partLoop lt a I0 J0 D0).1 a)) := by
                rw [hI0, hJ0, hD0]; exact part_first_go lt d a b pivot HII.out HJJ.out HDK.out HI2.out HJ2.out (by omega)
              have HST : Hid (Sort.partLoop lt a (i' + 1) (j' - 1) (Sort.swp dk i' j') = Sort.partLoop lt a I0 J0 D0) := by rw [hI0, hJ0, hD0]; exact rfl
              clear hI0 hJ0 hD0
              go_wp2
              go_loopw [10, 11] (fun vi vj wr => ∃ (i j : Nat) (dk : Array α), vi = .int .i64 i ∧ vj = .int .i64 j ∧ a < i ∧ i ≤ j + 1 ∧ j < b ∧ Hid (At I blk w dk wr) ∧ Hid (Sort.partLoop lt a i j dk = Sort.partLoop lt a I0 J0 D0)) (fun vi vj _ => (intOf vj).toNat + 1 - (intOf vi).toNat)
              case atStart => exact ⟨i' + 1, j' - 1, Sort.swp dk i' j', by go_num, by go_num, by omega, by omega, by omega, HA3.out, HST.out⟩
              case round =>
                clear HA3 HST HI2 HJ2 HII HJJ HDK HSC HSD HA
                obtain ⟨i, j, dk, rfl, rfl, hai, hij, hjb, HA, AE⟩ := hrel
                go_wp2
                go_loopw [10] (fun vi w1 => ∃ (i' : Nat), vi = .int .i64 i' ∧ i ≤ i' ∧ i' ≤ j + 1 ∧ Hid (At I blk w dk w1) ∧ Hid (Sort.scanUp (fun x => lt x dk[a]!) dk j i' = Sort.scanUp (fun x => lt x dk[a]!) dk j i)) (fun vi _ => j + 1 - (intOf vi).toNat)
                case atStart => exact ⟨i, rfl, Nat.le_refl _, hij, HA.out, rfl⟩
                case round =>
                  clear HA
                  obtain ⟨i', rfl, hii, hij', HA, HSC⟩ := hrel
                  by_cases hle : i' ≤ j
                  · have HL := Lib.hid (HA.out.less HS.out (i := i') (j := a) (by omega) (by omega))
                    cases hlv : lt dk[i']! dk[a]! with
                    | true =>
                      rw [hlv] at HL
                      go_wp2_with fail
                      refine HL.out.mono ?_
                      rintro e w2 ⟨rfl, ha2⟩
                      have HA2 := Lib.hid ha2
                      clear ha2 HL 
                      have HS2 : Hid (Sort.scanUp (fun x => lt x dk[a]!) dk j (i' + 1) = Sort.scanUp (fun x => lt x dk[a]!) dk j i) := (scanUp_go (fun x => lt x dk[a]!) dk j i' hle hlv).symm.trans HSC.out
                      go_wp2
                      go_roundw
                      case rel => exact ⟨i' + 1, by go_num, by omega, by omega, HA2.out, HS2.out⟩
                      case measure => simp [intOf]; omega
                    | false =>
                      rw [hlv] at HL
                      have HI2 : Hid (i' = Sort.scanUp (fun x => lt x dk[a]!) dk j i) := (scanUp_end (fun x => lt x dk[a]!) dk j i' (Or.inr hlv)).symm.trans HSC.out
                      go_wp2_with fail
                      refine HL.out.mono ?_
                      rintro e w2 ⟨rfl, ha2⟩
                      have HA2 := Lib.hid ha2
                      clear ha2 HL HA
                      go_wp2
                      go_loopw [11] (fun vj w2 => ∃ (j' : Nat), vj = .int .i64 j' ∧ j' ≤ j ∧ i' ≤ j' + 1 ∧ Hid (At I blk w dk w2) ∧ Hid (Sort.scanDown (fun x => !lt x dk[a]!) dk i' j' = Sort.scanDown (fun x => !lt x dk[a]!) dk i' j)) (fun vj _ => (intOf vj).toNat)
                      case atStart => exact ⟨j, rfl, Nat.le_refl _, hij', HA2.out, rfl⟩
                      case round =>
                        clear HA2
                        obtain ⟨j', rfl, hjj, hij2, HA, HSD⟩ := hrel
                        by_cases hle2 : i' ≤ j'
                        · have HL := Lib.hid (HA.out.less HS.out (i := j') (j := a) (by omega) (by omega))
                          cases hlv2 : lt dk[j']! dk[a]! with
                          | false =>
                            rw [hlv2] at HL
                            go_wp2_with fail
                            refine HL.out.mono ?_
                            rintro e w2 ⟨rfl, ha2⟩
                            have HA2 := Lib.hid ha2
                            clear ha2 HL 
                            have HS2 : Hid (Sort.scanDown (fun x => !lt x dk[a]!) dk i' (j' - 1) = Sort.scanDown (fun x => !lt x dk[a]!) dk i' j) := (scanDown_go (fun x => !lt x dk[a]!) dk i' j' hle2 (by omega) (by simp [hlv2])).symm.trans HSD.out
                            go_wp2
                            go_roundw
                            case rel => exact ⟨j' - 1, by go_num, by omega, by omega, HA2.out, HS2.out⟩
                            case measure => simp [intOf]; omega
                          | true =>
                            rw [hlv2] at HL
                            have HJ2 : Hid (j' = Sort.scanDown (fun x => !lt x dk[a]!) dk i' j) := (scanDown_end (fun x => !lt x dk[a]!) dk i' j' (Or.inr (by simp [hlv2]))).symm.trans HSD.out
                            have hlt3 := part_scans_lt lt a i j dk (by omega) HI2.out HJ2.out hle2
                            go_wp2_with fail
                            refine HL.out.mono ?_
                            rintro e w2 ⟨rfl, ha2⟩
                            have HA2 := Lib.hid ha2
                            clear ha2 HL 
                            have HSW := Lib.hid (HA2.out.swap HS.out (i := i') (j := j') (by omega) (by omega))
                            go_wp2_with fail
                            refine HSW.out.mono ?_
                            rintro e w3 ⟨rfl, ha3⟩
                            have HA3 := Lib.hid ha3
                            clear ha3 HSW HA2
                            have HX : Hid (Sort.partLoop lt a (i' + 1) (j' - 1) (Sort.swp dk i' j') = Sort.partLoop lt a I0 J0 D0) := by rw [← AE.out]; exact (part_go lt a i j dk HI2.out HJ2.out (by omega)).symm
                            go_wp2
                            go_roundw
                            case rel => exact ⟨i' + 1, j' - 1, Sort.swp dk i' j', by go_num, by go_num, by omega, by omega, by omega, HA3.out, HX.out⟩
                            case measure => simp [intOf]; omega
                        · have HJ2 : Hid (j' = Sort.scanDown (fun x => !lt x dk[a]!) dk i' j) := (scanDown_end (fun x => !lt x dk[a]!) dk i' j' (Or.inl hle2)).symm.trans HSD.out
                          have HSW := Lib.hid (HA.out.swap HS.out (i := j') (j := a) (by omega) (by omega))
                          go_wp2_with fail
                          refine HSW.out.mono ?_
                          rintro e w3 ⟨rfl, ha3⟩
                          have HA3 := Lib.hid ha3
                          clear ha3 HSW HA
                          have HE := Lib.hid (part_break lt a i j dk HI2.out HJ2.out (by omega))
                          go_wp2
                          go_ret2
                          rw [PF.out, ← AE.out, HE.out]
                          exact ⟨rfl, HA3.out⟩
                  · have HI2 : Hid (i' = Sort.scanUp (fun x => lt x dk[a]!) dk j i) := (scanUp_end (fun x => lt x dk[a]!) dk j i' (Or.inl hle)).symm.trans HSC.out
                    go_wp2
                    go_loopw [11] (fun vj w2 => ∃ (j' : Nat), vj = .int .i64 j' ∧ j' ≤ j ∧ i' ≤ j' + 1 ∧ Hid (At I blk w dk w2) ∧ Hid (Sort.scanDown (fun x => !lt x dk[a]!) dk i' j' = Sort.scanDown (fun x => !lt x dk[a]!) dk i' j)) (fun vj _ => (intOf vj).toNat)
                    case atStart => exact ⟨j, rfl, Nat.le_refl _, hij', HA.out, rfl⟩
                    case round =>
                      clear HA
                      obtain ⟨j', rfl, hjj, hij2, HA, HSD⟩ := hrel
                      by_cases hle2 : i' ≤ j'
                      · exfalso; omega
                      · have HJ2 : Hid (j' = Sort.scanDown (fun x => !lt x dk[a]!) dk i' j) := (scanDown_end (fun x => !lt x dk[a]!) dk i' j' (Or.inl hle2)).symm.trans HSD.out
                        have HSW := Lib.hid (HA.out.swap HS.out (i := j') (j := a) (by omega) (by omega))
                        go_wp2_with fail
                        refine HSW.out.mono ?_
                        rintro e w3 ⟨rfl, ha3⟩
                        have HA3 := Lib.hid ha3
                        clear ha3 HSW HA
                        have HE := Lib.hid (part_break lt a i j dk HI2.out HJ2.out (by omega))
                        go_wp2
                        go_ret2
                        rw [PF.out, ← AE.out, HE.out]
                        exact ⟨rfl, HA3.out⟩
          · have HJ2 : Hid (j' = Sort.scanDown (fun x => !lt x dk[a]!) dk i' j) := (scanDown_end (fun x => !lt x dk[a]!) dk i' j' (Or.inl hle2)).symm.trans HSD.out
            have HSW := Lib.hid (HA.out.swap HS.out (i := j') (j := a) (by omega) (by omega))
            go_wp2_with fail
            refine HSW.out.mono ?_
            rintro e w3 ⟨rfl, ha3⟩
            have HA3 := Lib.hid ha3
            clear ha3 HSW HA
            have HE := Lib.hid (part_first_break lt d a b pivot HII.out HJJ.out HDK.out HI2.out HJ2.out (by omega))
            go_wp2
            go_ret2
            rw [HE.out]
            exact ⟨rfl, HA3.out⟩
    · have HI2 : Hid (i' = Sort.scanUp (fun x => lt x dk[a]!) dk j i) := (scanUp_end (fun x => lt x dk[a]!) dk j i' (Or.inl hle)).symm.trans HSC.out
      go_wp2
      go_loopw [11] (fun vj w2 => ∃ (j' : Nat), vj = .int .i64 j' ∧ j' ≤ j ∧ i' ≤ j' + 1 ∧ Hid (At I blk w dk w2) ∧ Hid (Sort.scanDown (fun x => !lt x dk[a]!) dk i' j' = Sort.scanDown (fun x => !lt x dk[a]!) dk i' j)) (fun vj _ => (intOf vj).toNat)
      case atStart => exact ⟨j, rfl, Nat.le_refl _, hij', HA.out, rfl⟩
      case round =>
        clear HA
        obtain ⟨j', rfl, hjj, hij2, HA, HSD⟩ := hrel
        by_cases hle2 : i' ≤ j'
        · exfalso; omega
        · have HJ2 : Hid (j' = Sort.scanDown (fun x => !lt x dk[a]!) dk i' j) := (scanDown_end (fun x => !lt x dk[a]!) dk i' j' (Or.inl hle2)).symm.trans HSD.out
          have HSW := Lib.hid (HA.out.swap HS.out (i := j') (j := a) (by omega) (by omega))
          go_wp2_with fail
          refine HSW.out.mono ?_
          rintro e w3 ⟨rfl, ha3⟩
          have HA3 := Lib.hid ha3
          clear ha3 HSW HA
          have HE := Lib.hid (part_first_break lt d a b pivot HII.out HJJ.out HDK.out HI2.out HJ2.out (by omega))
          go_wp2
          go_ret2
          rw [HE.out]
          exact ⟨rfl, HA3.out⟩

end Go.Proofs.YtbkgbnejmgjiiaaDoor
