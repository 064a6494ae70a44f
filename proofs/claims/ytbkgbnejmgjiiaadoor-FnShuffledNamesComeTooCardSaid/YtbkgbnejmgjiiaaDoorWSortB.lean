/- sort.reverseRange, siftDown, heapSort over an array whose methods compare and exchange. Conditions: the bounds lie in the array. Printed by sg1.py. -/
import Derived.Test.YtbkgbnejmgjiiaaDoorWSortA
import Derived.Sort.WalkB2
import Derived.Sort.WalkB3
import Derived.Sort.WalkB12
namespace Go.Proofs.YtbkgbnejmgjiiaaDoor
open Go.RowKit Go.Lib Go.Sort
variable {α : Type}

set_option maxHeartbeats 2000000 in
set_option maxRecDepth 100000 in
theorem reverseRange_at [Inhabited α] {blk : Nat} {rv : Value} {lt : α → α → Bool} {size : Nat} {I : Array α → World → Prop} (S : Srt blk rv lt size I) (a b : Nat) (d : Array α) (w : World) (hI : I d w) (hab : a ≤ b) (hb : b ≤ size) :
    Calls Tryd.prog 72 #[.iface 132 rv, .int .i64 a, .int .i64 b] w fun e w' => e = .returned (.tuple #[]) ∧ At I blk w (reverseRange d a b) w' := by
  obtain ⟨p, n, c, rfl⟩ := S.isSlice
  have hsz := S.small
  have HS := Lib.hid S
  have HI := Lib.hid hI
  have mS := method_swap p n c
  clear S hI
  go_enter Tryd.func72, Tryd.ntmps72
  go_wp2
  go_loopg [6, 7] (b - a) (fun k s6 s7 wr => ∃ (i jn : Nat) (jz : Int) (dk : Array α), s6 = .int .i64 i ∧ s7 = .int .i64 jz ∧ ((i : Int) < jz → jz = jn ∧ jn < size) ∧ (¬ (i : Int) < jz → ¬ i < jn) ∧ jn - i ≤ k ∧ Hid (At I blk w dk wr) ∧ Hid (reverseLoop i jn dk = reverseLoop a (b - 1) d))
  case atStart => exact ⟨a, b - 1, (b : Int) - 1, d, rfl, rfl, fun h => ⟨by omega, by omega⟩, fun h => by omega, by omega, At.start HI.out, rfl⟩
  case round =>
    obtain ⟨i, jn, jz, dk, rfl, rfl, h1, h2, hk, HA, HE⟩ := hrel
    by_cases hlt : (i : Int) < jz
    · obtain ⟨rfl, hjn⟩ := h1 hlt
      have hij : i < jn := by omega
      have HSW := Lib.hid (HA.out.swap HS.out (i := i) (j := jn) (by omega) (by omega))
      clear h1 h2
      go_wp2_with fail
      refine HSW.out.mono ?_
      rintro e w3 ⟨rfl, ha3⟩
      have HA3 := Lib.hid ha3
      clear ha3 HSW
      have HE3 : Hid (reverseLoop (i + 1) (jn - 1) (swp dk i jn) = reverseLoop a (b - 1) d) := by
        have h := HE.out
        rw [reverseLoop, if_pos hij] at h
        exact h
      go_wp2
      go_roundg (jn - 1 - (i + 1))
      case measure => omega
      case rel => exact ⟨i + 1, jn - 1, (jn : Int) - 1, swp dk i jn, by simp, rfl, fun h => ⟨by omega, by omega⟩, fun h => by omega, Nat.le_refl _, HA3.out, HE3.out⟩
    · have hnot := h2 hlt
      have HE3 : Hid (reverseRange d a b = dk) := by
        have h := HE.out
        rw [reverseLoop, if_neg hnot] at h
        show _ = _
        rw [reverseRange, ← h]
      clear h1 h2
      go_wp2
      go_end0
      rw [HE3.out]
      exact ⟨rfl, HA.out⟩

set_option maxHeartbeats 4000000 in
set_option maxRecDepth 100000 in
theorem siftDown_at [Inhabited α] {blk : Nat} {rv : Value} {lt : α → α → Bool} {size : Nat} {I : Array α → World → Prop} (S : Srt blk rv lt size I) (lo hi first : Nat) (d : Array α) (w : World) (hI : I d w) (hlo : lo ≤ hi) (hb : first + hi ≤ size) :
    Calls Tryd.prog 76 #[.iface 132 rv, .int .i64 lo, .int .i64 hi, .int .i64 first] w fun e w' => e = .returned (.tuple #[]) ∧ At I blk w (siftDown lt hi first lo d) w' := by
  obtain ⟨p, n, c, rfl⟩ := S.isSlice
  have hsz := S.small
  have HS := Lib.hid S
  have HI := Lib.hid hI
  have mL := method_less p n c
  have mS := method_swap p n c
  clear S hI
  go_enter Tryd.func76, Tryd.ntmps76
  go_wp2
  go_loopg [8] (hi - lo) (fun kx s8 wr => ∃ (root : Nat) (dk : Array α), s8 = .int .i64 root ∧ root ≤ hi ∧ hi - root ≤ kx ∧ Hid (At I blk w dk wr) ∧ Hid (siftDown lt hi first root dk = siftDown lt hi first lo d))
  case atStart => exact ⟨lo, d, rfl, hlo, Nat.le_refl _, At.start HI.out, rfl⟩
  case round =>
    obtain ⟨root, dk, rfl, hr, hkx, HAX, HE⟩ := hrel
    by_cases h0 : hi ≤ 2 * root + 1
    · have h0z : (hi : Int) ≤ 2 * (root : Int) + 1 := by omega
      have HE3 : Hid (siftDown lt hi first lo d = dk) := by show _ = _; rw [← HE.out, sd_end lt dk h0]
      go_wp2
      go_end0
      rw [HE3.out]
      exact ⟨rfl, HAX.out⟩
    · have h0z : ¬ ((hi : Int) ≤ 2 * (root : Int) + 1) := by omega
      by_cases h1 : 2 * root + 2 < hi
      · have h1z : 2 * (root : Int) + 1 + 1 < (hi : Int) := by omega
        have HL1 := Lib.hid (HAX.out.less HS.out (i := first + (2 * root + 1)) (j := first + (2 * root + 2)) (by omega) (by omega))
        rw [show ((first + (2 * root + 1) : Nat) : Int) = (first : Int) + (2 * (root : Int) + 1) by omega, show ((first + (2 * root + 2) : Nat) : Int) = (first : Int) + (2 * (root : Int) + 1) + 1 by omega] at HL1
        cases hL : lt dk[first + (2 * root + 1)]! dk[first + (2 * root + 2)]! with
        | true =>
          rw [hL] at HL1
          go_wp2_with fail
          refine HL1.out.mono ?_
          rintro e w1 ⟨rfl, ha1⟩
          have HAX := Lib.hid ha1
          clear ha1 HL1
          have HL2 := Lib.hid (HAX.out.less HS.out (i := first + root) (j := first + (2 * root + 2)) (by omega) (by omega))
          rw [show ((first + root : Nat) : Int) = (first : Int) + (root : Int) by omega, show ((first + (2 * root + 2) : Nat) : Int) = (first : Int) + (2 * (root : Int) + 1 + 1) by omega] at HL2
          cases hG : lt dk[first + root]! dk[first + (2 * root + 2)]! with
          | true =>
            rw [hG] at HL2
            go_wp2_with fail
            refine HL2.out.mono ?_
            rintro e w2 ⟨rfl, ha2⟩
            have HSW := Lib.hid (ha2.swap HS.out (i := first + root) (j := first + (2 * root + 2)) (by omega) (by omega))
            rw [show ((first + root : Nat) : Int) = (first : Int) + (root : Int) by omega, show ((first + (2 * root + 2) : Nat) : Int) = (first : Int) + (2 * (root : Int) + 1 + 1) by omega] at HSW
            clear ha2 HL2
            go_wp2_with fail
            refine HSW.out.mono ?_
            rintro e w3 ⟨rfl, ha3⟩
            have HA3 := Lib.hid ha3
            clear ha3 HSW
            have HE3 : Hid (siftDown lt hi first (2 * root + 2) (swp dk (first + root) (first + (2 * root + 2))) = siftDown lt hi first lo d) := by rw [← HE.out, sd_right_go lt dk h1 hL hG]; exact rfl
            go_wp2
            go_roundg (hi - (2 * root + 2))
            case measure => omega
            case rel => exact ⟨2 * root + 2, swp dk (first + root) (first + (2 * root + 2)), by go_num, by omega, Nat.le_refl _, HA3.out, HE3.out⟩
          | false =>
            rw [hG] at HL2
            have HE3 : Hid (siftDown lt hi first lo d = dk) := by show _ = _; rw [← HE.out, sd_right_stop lt dk h1 hL hG]
            go_wp2_with fail
            refine HL2.out.mono ?_
            rintro e w2 ⟨rfl, ha2⟩
            have HA2 := Lib.hid ha2
            clear ha2 HL2
            go_wp2
            (try simp only [Exit.inBlock, Exit.then]); refine bodyPost_ret (results_none rfl _ _ _) rfl ?_
            rw [HE3.out]
            exact ⟨rfl, HA2.out⟩
        | false =>
          rw [hL] at HL1
          go_wp2_with fail
          refine HL1.out.mono ?_
          rintro e w1 ⟨rfl, ha1⟩
          have HAX := Lib.hid ha1
          clear ha1 HL1
          have HL2 := Lib.hid (HAX.out.less HS.out (i := first + root) (j := first + (2 * root + 1)) (by omega) (by omega))
          rw [show ((first + root : Nat) : Int) = (first : Int) + (root : Int) by omega, show ((first + (2 * root + 1) : Nat) : Int) = (first : Int) + (2 * (root : Int) + 1) by omega] at HL2
          cases hG : lt dk[first + root]! dk[first + (2 * root + 1)]! with
          | true =>
            rw [hG] at HL2
            go_wp2_with fail
            refine HL2.out.mono ?_
            rintro e w2 ⟨rfl, ha2⟩
            have HSW := Lib.hid (ha2.swap HS.out (i := first + root) (j := first + (2 * root + 1)) (by omega) (by omega))
            rw [show ((first + root : Nat) : Int) = (first : Int) + (root : Int) by omega, show ((first + (2 * root + 1) : Nat) : Int) = (first : Int) + (2 * (root : Int) + 1) by omega] at HSW
            clear ha2 HL2
            go_wp2_with fail
            refine HSW.out.mono ?_
            rintro e w3 ⟨rfl, ha3⟩
            have HA3 := Lib.hid ha3
            clear ha3 HSW
            have HE3 : Hid (siftDown lt hi first (2 * root + 1) (swp dk (first + root) (first + (2 * root + 1))) = siftDown lt hi first lo d) := by rw [← HE.out, sd_left_go lt dk (by omega) (fun _ => hL) hG]; exact rfl
            go_wp2
            go_roundg (hi - (2 * root + 1))
            case measure => omega
            case rel => exact ⟨2 * root + 1, swp dk (first + root) (first + (2 * root + 1)), by go_num, by omega, Nat.le_refl _, HA3.out, HE3.out⟩
          | false =>
            rw [hG] at HL2
            have HE3 : Hid (siftDown lt hi first lo d = dk) := by show _ = _; rw [← HE.out, sd_left_stop lt dk (by omega) (fun _ => hL) hG]
            go_wp2_with fail
            refine HL2.out.mono ?_
            rintro e w2 ⟨rfl, ha2⟩
            have HA2 := Lib.hid ha2
            clear ha2 HL2
            go_wp2
            (try simp only [Exit.inBlock, Exit.then]); refine bodyPost_ret (results_none rfl _ _ _) rfl ?_
            rw [HE3.out]
            exact ⟨rfl, HA2.out⟩
      · have h1z : ¬ (2 * (root : Int) + 1 + 1 < (hi : Int)) := by omega
        have HL2 := Lib.hid (HAX.out.less HS.out (i := first + root) (j := first + (2 * root + 1)) (by omega) (by omega))
        rw [show ((first + root : Nat) : Int) = (first : Int) + (root : Int) by omega, show ((first + (2 * root + 1) : Nat) : Int) = (first : Int) + (2 * (root : Int) + 1) by omega] at HL2
        cases hG : lt dk[first + root]! dk[first + (2 * root + 1)]! with
        | true =>
          rw [hG] at HL2
          go_wp2_with fail
          refine HL2.out.mono ?_
          rintro e w2 ⟨rfl, ha2⟩
          have HSW := Lib.hid (ha2.swap HS.out (i := first + root) (j := first + (2 * root + 1)) (by omega) (by omega))
          rw [show ((first + root : Nat) : Int) = (first : Int) + (root : Int) by omega, show ((first + (2 * root + 1) : Nat) : Int) = (first : Int) + (2 * (root : Int) + 1) by omega] at HSW
          clear ha2 HL2
          go_wp2_with fail
          refine HSW.out.mono ?_
          rintro e w3 ⟨rfl, ha3⟩
          have HA3 := Lib.hid ha3
          clear ha3 HSW
          have HE3 : Hid (siftDown lt hi first (2 * root + 1) (swp dk (first + root) (first + (2 * root + 1))) = siftDown lt hi first lo d) := by rw [← HE.out, sd_left_go lt dk (by omega) (fun h => absurd h h1) hG]; exact rfl
          go_wp2
          go_roundg (hi - (2 * root + 1))
          case measure => omega
          case rel => exact ⟨2 * root + 1, swp dk (first + root) (first + (2 * root + 1)), by go_num, by omega, Nat.le_refl _, HA3.out, HE3.out⟩
        | false =>
          rw [hG] at HL2
          have HE3 : Hid (siftDown lt hi first lo d = dk) := by show _ = _; rw [← HE.out, sd_left_stop lt dk (by omega) (fun h => absurd h h1) hG]
          go_wp2_with fail
          refine HL2.out.mono ?_
          rintro e w2 ⟨rfl, ha2⟩
          have HA2 := Lib.hid ha2
          clear ha2 HL2
          go_wp2
          (try simp only [Exit.inBlock, Exit.then]); refine bodyPost_ret (results_none rfl _ _ _) rfl ?_
          rw [HE3.out]
          exact ⟨rfl, HA2.out⟩

set_option maxHeartbeats 4000000 in
set_option maxRecDepth 100000 in
theorem heapSort_at [Inhabited α] {blk : Nat} {rv : Value} {lt : α → α → Bool} {size : Nat} {I : Array α → World → Prop} (S : Srt blk rv lt size I) (a b : Nat) (d : Array α) (w : World) (hI : I d w) (hab : a ≤ b) (hb : b ≤ size) :
    Calls Tryd.prog 69 #[.iface 132 rv, .int .i64 a, .int .i64 b] w fun e w' => e = .returned (.tuple #[]) ∧ At I blk w (heapSort lt d a b) w' := by
  obtain ⟨p, n, c, rfl⟩ := S.isSlice
  have hsz := S.small
  have HS := Lib.hid S
  have HI := Lib.hid hI
  have mS := method_swap p n c
  clear S hI
  have ecast : ((b - a : Nat) : Int) = (b : Int) - (a : Int) := by omega
  go_enter Tryd.func69, Tryd.ntmps69
  go_wp2
  go_loopg [9] ((b - a - 1) / 2 + 1) (fun kx s9 wr => s9 = .int .i64 ((kx : Int) - 1) ∧ kx ≤ (b - a - 1) / 2 + 1 ∧ ∃ (dk : Array α), Hid (At I blk w dk wr) ∧ Hid (heapBuild lt (b - a) a kx dk = heapBuild lt (b - a) a ((b - a - 1) / 2 + 1) d))
  case atStart => exact ⟨by rw [half_start hab], Nat.le_refl _, d, At.start HI.out, rfl⟩
  case round =>
    obtain ⟨rfl, hkk, dk, HA, HE⟩ := hrel
    cases gk with
    | zero =>
      have HBD : Hid (dk = heapBuild lt (b - a) a ((b - a - 1) / 2 + 1) d) := HE.out
      clear HE hkk
      go_wp2
      go_loopg [10] (b - a) (fun kx s10 wr2 => s10 = .int .i64 ((kx : Int) - 1) ∧ kx ≤ b - a ∧ ∃ (dj : Array α), Hid (At I blk w dj wr2) ∧ Hid (heapPop lt a kx dj = heapPop lt a (b - a) dk))
      case atStart => exact ⟨by rw [ecast], Nat.le_refl _, dk, HA.out, rfl⟩
      case round =>
        clear HA
        obtain ⟨rfl, hkk, dj, HA, HE2⟩ := hrel
        cases gk with
        | zero =>
          go_wp2
          go_end0
          have e : dj = heapSort lt d a b := by rw [heapSort, ← HBD.out, ← HE2.out]; rfl
          rw [← e]
          exact ⟨rfl, HA.out⟩
        | succ kx =>
          have HSW := Lib.hid (HA.out.swap HS.out (i := a) (j := a + kx) (by omega) (by omega))
          rw [show ((a + kx : Nat) : Int) = (a : Int) + (kx : Int) by omega] at HSW
          go_wp2_with fail
          refine HSW.out.mono ?_
          rintro e w3 ⟨rfl, ha3⟩
          have HA3 := Lib.hid ha3
          have HC := Lib.hid (siftDown_at HS.out 0 kx a (swp dj a (a + kx)) w3 ha3.inv (Nat.zero_le _) (by omega))
          clear ha3 HSW
          go_wp2_with fail
          refine HC.out.mono ?_
          rintro e w4 ⟨rfl, ha4⟩
          have HA4 := Lib.hid (HA3.out.trans ha4)
          clear ha4 HC HA3
          go_wp2
          go_roundg kx
          case measure => omega
          case rel => exact ⟨by simp, by omega, siftDown lt kx a 0 (swp dj a (a + kx)), HA4.out, HE2⟩
    | succ kx =>
      have HC := Lib.hid (siftDown_at HS.out kx (b - a) a dk wr HA.out.inv (by omega) (by omega))
      rw [ecast] at HC
      have e1 : (((kx + 1 : Nat) : Int) - 1) = (kx : Int) := by omega
      go_wp2_with fail
      refine HC.out.mono ?_
      rintro e w4 ⟨rfl, ha4⟩
      have HA4 := Lib.hid (HA.out.trans ha4)
      clear ha4 HC HA
      go_wp2
      go_roundg kx
      case measure => omega
      case rel => exact ⟨by simp, by omega, siftDown lt (b - a) a kx dk, HA4.out, HE⟩

end Go.Proofs.YtbkgbnejmgjiiaaDoor
