/- What CharFreq.Scan does to a row of 64 counts: each sign of the text is counted delta times. Conditions: the text has at most 100000 bytes, delta lies between -1000 and 1000, the counts between -10^9 and 10^9. -/
import Derived.Test.YtbkgbnejmgjiiaaDoorWMem
import Derived.Test.YtbkgbnejmgjiiaaDoorPlainCounts
namespace Go.Proofs.YtbkgbnejmgjiiaaDoor
open Go.RowKit Go.Deep

theorem occ_snoc (s : ByteArray) (k : Nat) (h : k < s.size) (j : Nat) : occ (s.data.toList.take (k + 1)) j = occ (s.data.toList.take k) j + one s[k] j := by
  have h' : k < s.data.toList.length := by rw [← Lib.size_eq]; exact h
  rw [List.take_succ_eq_append_getElem h', occ_append]
  simp [occ]
  rfl
/-- one more sign counted -/
theorem row_bump {w : World} {b : Nat} {F : Nat → Int} {d : Int} {s : ByteArray} {k i : Nat} (h : w.rowIs b 85 64 (fun j => .int .i32 (F j + d * occ (s.data.toList.take k) j))) (hk : k < s.size) (hc : code s[k] = some i) :
    (w.setCell ⟨b, i, none⟩ (.int .i32 (F i + d * occ (s.data.toList.take k) i + d))).rowIs b 85 64 (fun j => .int .i32 (F j + d * occ (s.data.toList.take (k + 1)) j)) := by
  refine (h.set i _).congr (fun j _ => ?_)
  rw [occ_snoc s k hk]
  by_cases e : j = i
  · subst e
    rw [if_pos rfl]
    have : one s[k] j = 1 := by simp [one, hc]
    rw [this, Int.mul_add, Int.mul_one, Int.add_assoc]
  · rw [if_neg e]
    have : one s[k] j = 0 := by
      unfold one
      rw [hc, if_neg]
      intro h'
      injection h' with h'
      exact e h'.symm
    rw [this, Int.add_zero]
theorem row_keep {w : World} {b : Nat} {F : Nat → Int} {d : Int} {s : ByteArray} {k : Nat} (h : w.rowIs b 85 64 (fun j => .int .i32 (F j + d * occ (s.data.toList.take k) j))) (hk : k < s.size) (hc : code s[k] = none) :
    w.rowIs b 85 64 (fun j => .int .i32 (F j + d * occ (s.data.toList.take (k + 1)) j)) := by
  refine h.congr (fun j _ => ?_)
  rw [occ_snoc s k hk]
  have : one s[k] j = 0 := by simp [one, hc]
  rw [this, Int.add_zero]

theorem scan_zero (b : Nat) (F : Nat → Int) (s : ByteArray) (w : World) (hrow : w.rowIs b 85 64 (fun i => .int .i32 (F i))) :
    Calls Tryd.prog 57 #[.pointer (some ⟨b, 0, none⟩), .string s, .int .i32 0] w fun e w' => e = .returned (.tuple #[]) ∧ w'.rowIs b 85 64 (fun i => .int .i32 (F i + 0 * occ s.data.toList i)) ∧ w.grownBy w' (some b) := by
  have HR := Lib.hid hrow
  clear hrow
  go_enter Tryd.func57, Tryd.ntmps57
  go_wp2
  refine bodyPost_ret (results_none rfl _ _ _) rfl ?_
  exact ⟨rfl, HR.out.congr (fun i _ => by simp), World.grownBy.refl _ _⟩

set_option maxHeartbeats 4000000 in
set_option maxRecDepth 100000 in
theorem scan_any (b : Nat) (F : Nat → Int) (s : ByteArray) (d : Int) (w : World) (hrow : w.rowIs b 85 64 (fun i => .int .i32 (F i))) (hs : s.size ≤ 100000) (hd : -1000 ≤ d ∧ d ≤ 1000) (hd0 : (d == 0) = false) (hF : ∀ i, -1000000000 ≤ F i ∧ F i ≤ 1000000000) :
    Calls Tryd.prog 57 #[.pointer (some ⟨b, 0, none⟩), .string s, .int .i32 d] w fun e w' => e = .returned (.tuple #[]) ∧ w'.rowIs b 85 64 (fun i => .int .i32 (F i + d * occ s.data.toList i)) ∧ w.grownBy w' (some b) := by
  have HR := Lib.hid hrow
  clear hrow
  have HF := Lib.hid hF
  clear hF
  have HZ := Lib.hid (Lib.size_eq s)
  go_enter Tryd.func57, Tryd.ntmps57
  go_wp2
  go_loopw [6] (fun v wr => ∃ k : Nat, k ≤ s.size ∧ v = .int .i64 k ∧ Hid (wr.rowIs b 85 64 (fun j => .int .i32 (F j + d * occ (s.data.toList.take k) j))) ∧ Hid (w.grownBy wr (some b))) (fun v _ => s.size - (intOf v).toNat)
  case atStart => exact ⟨0, by omega, rfl, HR.out.congr (fun j _ => by simp [occ]), World.grownBy.refl _ _⟩
  case round =>
    obtain ⟨k, hk, rfl, HX, HW⟩ := hrel
    by_cases hlt : k < s.size
    · have hbd : ∀ j, -2000000000 ≤ F j + d * occ (s.data.toList.take k) j ∧ F j + d * occ (s.data.toList.take k) j ≤ 2000000000 := by
        intro j
        have h1 := occ_le (s.data.toList.take k) j
        have h2 : (s.data.toList.take k).length ≤ 100000 := by
          rw [List.length_take, ← HZ.out]; omega
        have h3 := mul_bound (n := 100000) hd.1 hd.2 h1.1 (by omega)
        have h4 := HF.out j
        omega
      have HBD := Lib.hid hbd
      clear hbd
      have hc256 : s[k].toNat < 256 := s[k].toNat_lt
      by_cases h97 : 97 ≤ s[k].toNat ∧ s[k].toNat ≤ 122
      · have hcode : code s[k] = some (s[k].toNat - 97) := by unfold code; rw [if_pos h97]
        have HC := Lib.hid hcode
        clear hcode
        have cx := HX.out.cell (i := s[k].toNat - 97) (by omega)
        have fx := HX.out.frozen (s[k].toNat - 97)
        have bd := HBD.out (s[k].toNat - 97)
        have HN := Lib.hid (row_bump HX.out hlt HC.out)
        have HO := Lib.hid (only_setCell HW.out (p := ⟨b, s[k].toNat - 97, none⟩) (.inl rfl) (.int .i32 (F (s[k].toNat - 97) + d * occ (s.data.toList.take k) (s[k].toNat - 97) + d)))
        generalize hG : F (s[k].toNat - 97) + d * occ (s.data.toList.take k) (s[k].toNat - 97) = G at *
        clear hG
        go_wp2
        go_region
        all_goals
          go_wp2
          go_roundw
          case rel => exact ⟨k + 1, by omega, by go_num, HN.out, only_drew HO.out⟩
          case measure => simp [intOf]; omega
      · skip
        by_cases h65 : 65 ≤ s[k].toNat ∧ s[k].toNat ≤ 90
        · have hcode : code s[k] = some (s[k].toNat - 39) := by unfold code; rw [if_neg h97, if_pos h65]
          have HC := Lib.hid hcode
          clear hcode
          have cx := HX.out.cell (i := s[k].toNat - 39) (by omega)
          have fx := HX.out.frozen (s[k].toNat - 39)
          have bd := HBD.out (s[k].toNat - 39)
          have HN := Lib.hid (row_bump HX.out hlt HC.out)
          have HO := Lib.hid (only_setCell HW.out (p := ⟨b, s[k].toNat - 39, none⟩) (.inl rfl) (.int .i32 (F (s[k].toNat - 39) + d * occ (s.data.toList.take k) (s[k].toNat - 39) + d)))
          generalize hG : F (s[k].toNat - 39) + d * occ (s.data.toList.take k) (s[k].toNat - 39) = G at *
          clear hG
          go_wp2
          go_region
          all_goals
            go_wp2
            go_roundw
            case rel => exact ⟨k + 1, by omega, by go_num, HN.out, only_drew HO.out⟩
            case measure => simp [intOf]; omega
        · skip
          by_cases h48 : 48 ≤ s[k].toNat ∧ s[k].toNat ≤ 57
          · have hcode : code s[k] = some (s[k].toNat + 4) := by unfold code; rw [if_neg h97, if_neg h65, if_pos h48]
            have HC := Lib.hid hcode
            clear hcode
            have cx := HX.out.cell (i := s[k].toNat + 4) (by omega)
            have fx := HX.out.frozen (s[k].toNat + 4)
            have bd := HBD.out (s[k].toNat + 4)
            have HN := Lib.hid (row_bump HX.out hlt HC.out)
            have HO := Lib.hid (only_setCell HW.out (p := ⟨b, s[k].toNat + 4, none⟩) (.inl rfl) (.int .i32 (F (s[k].toNat + 4) + d * occ (s.data.toList.take k) (s[k].toNat + 4) + d)))
            generalize hG : F (s[k].toNat + 4) + d * occ (s.data.toList.take k) (s[k].toNat + 4) = G at *
            clear hG
            go_wp2
            go_region
            all_goals
              go_wp2
              go_roundw
              case rel => exact ⟨k + 1, by omega, by go_num, HN.out, only_drew HO.out⟩
              case measure => simp [intOf]; omega
          · skip
            by_cases h95 : s[k].toNat = 95
            · have hcode : code s[k] = some (62) := by unfold code; rw [if_neg h97, if_neg h65, if_neg h48, if_pos h95]
              have HC := Lib.hid hcode
              clear hcode
              have cx := HX.out.cell (i := 62) (by omega)
              have fx := HX.out.frozen (62)
              have bd := HBD.out (62)
              have HN := Lib.hid (row_bump HX.out hlt HC.out)
              have HO := Lib.hid (only_setCell HW.out (p := ⟨b, 62, none⟩) (.inl rfl) (.int .i32 (F (62) + d * occ (s.data.toList.take k) (62) + d)))
              generalize hG : F (62) + d * occ (s.data.toList.take k) (62) = G at *
              clear hG
              go_wp2
              go_region
              all_goals
                go_wp2
                go_roundw
                case rel => exact ⟨k + 1, by omega, by go_num, HN.out, only_drew HO.out⟩
                case measure => simp [intOf]; omega
            · skip
              by_cases h36 : s[k].toNat = 36
              · have hcode : code s[k] = some (63) := by unfold code; rw [if_neg h97, if_neg h65, if_neg h48, if_neg h95, if_pos h36]
                have HC := Lib.hid hcode
                clear hcode
                have cx := HX.out.cell (i := 63) (by omega)
                have fx := HX.out.frozen (63)
                have bd := HBD.out (63)
                have HN := Lib.hid (row_bump HX.out hlt HC.out)
                have HO := Lib.hid (only_setCell HW.out (p := ⟨b, 63, none⟩) (.inl rfl) (.int .i32 (F (63) + d * occ (s.data.toList.take k) (63) + d)))
                generalize hG : F (63) + d * occ (s.data.toList.take k) (63) = G at *
                clear hG
                go_wp2
                go_region
                all_goals
                  go_wp2
                  go_roundw
                  case rel => exact ⟨k + 1, by omega, by go_num, HN.out, only_drew HO.out⟩
                  case measure => simp [intOf]; omega
              · skip
                have hcode : code s[k] = none := by unfold code; rw [if_neg h97, if_neg h65, if_neg h48, if_neg h95, if_neg h36]
                have HC := Lib.hid hcode
                clear hcode
                have HN := Lib.hid (row_keep HX.out hlt HC.out)
                go_wp2
                all_goals
                  go_roundw
                  case rel => exact ⟨k + 1, by omega, by go_num, HN.out, HW.out⟩
                  case measure => simp [intOf]; omega
    · go_wp2
      go_end0
      refine ⟨rfl, ?_, HW.out⟩
      have e : s.data.toList.take k = s.data.toList := List.take_of_length_le (by rw [← HZ.out]; omega)
      rw [← e]
      exact HX.out

end Go.Proofs.YtbkgbnejmgjiiaaDoor
