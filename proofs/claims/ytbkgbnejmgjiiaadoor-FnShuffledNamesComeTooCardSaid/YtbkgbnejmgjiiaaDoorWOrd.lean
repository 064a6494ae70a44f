/- What spec.Ordered returns: characters, those that were counted more often first. Conditions: characters by codes below 64 that rise; the counts lie in a row of 64 integers. -/
import Derived.Test.YtbkgbnejmgjiiaaDoorPlainOrd
namespace Go.Proofs.YtbkgbnejmgjiiaaDoor
open Go.RowKit Go.Deep

theorem bytes_ext {a b : ByteArray} (h : a.data.toList = b.data.toList) : a = b := ByteArray.ext (Array.toList_inj.1 h)
theorem same_list {a b : ByteArray} : (a.toList == b.toList) = true ↔ a = b := by
  rw [beq_iff_eq, Lib.toList_data, Lib.toList_data]
  exact ⟨bytes_ext, fun h => by rw [h]⟩
theorem differ_list {a b : ByteArray} (h : a ≠ b) : (a.toList == b.toList) = false := by
  cases e : (a.toList == b.toList) with
  | false => rfl
  | true => exact absurd (same_list.1 e) h
/-- where a character is that was taken, or not -/
theorem place_taken {l : List Nat} {c : Nat} (hl : ∀ x ∈ l, x < 64) (hc : c < 64) (h : c ∈ l) : decide (plc (l.map sg) (sg c) < 0) = false := by
  have := plc_pos ((mem_sg hl hc).2 h)
  simpa using this
theorem place_left {l : List Nat} {c : Nat} (hl : ∀ x ∈ l, x < 64) (hc : c < 64) (h : c ∉ l) : decide (plc (l.map sg) (sg c) < 0) = true := by
  have := plc_neg.2 (fun h' => h ((mem_sg hl hc).1 h'))
  simpa using this
theorem sign_at {i : Nat} (hi : i < 64) (w : World) : Calls Tryd.prog 36 #[.string (tailB false), .int .u8 (sg i).toNat] w fun e w' => e = .returned (.int .i64 i) ∧ w = w' := by
  have h := place_any (tailB false) (sg i) w (by have := tailB_le false; unfold maxLen; omega)
  rw [sg_code hi] at h
  exact h

theorem tailB_lit : tailB false = ⟨#[97, 98, 99, 100, 101, 102, 103, 104, 105, 106, 107, 108, 109, 110, 111, 112, 113, 114, 115, 116, 117, 118, 119, 120, 121, 122, 65, 66, 67, 68, 69, 70, 71, 72, 73, 74, 75, 76, 77, 78, 79, 80, 81, 82, 83, 84, 85, 86, 87, 88, 89, 90, 48, 49, 50, 51, 52, 53, 54, 55, 56, 57, 95, 36]⟩ := rfl

set_option maxHeartbeats 2000000 in
set_option maxRecDepth 100000 in
theorem ordered_any (K : List Nat) (C : Nat → Int) (s : ByteArray) (b : Nat) (w : World) (hs : s.data.toList = K.map sg) (h64 : ∀ x ∈ K, x < 64) (hK : K.Pairwise (· < ·)) (hl : K.length ≤ 64) (hr : w.rowIs b 3 64 (fun j => .int .i64 (C j))) :
    Calls Tryd.prog 35 #[.string s, .slice (some ⟨b, 0, none⟩) 64 64] w fun e w' => ∃ o : ByteArray, e = .returned (.string o) ∧ Ord C K o.data.toList ∧ ∃ n, w' = w.drewN n := by
  have HS := Lib.hid hs
  have H64 := Lib.hid h64
  have HK := Lib.hid hK
  have HR := Lib.hid hr
  have hsz : s.size = K.length := by rw [Lib.size_eq, hs, List.length_map]
  have HSZ := Lib.hid hsz
  have hs64 : s.size ≤ 64 := by omega
  clear hs h64 hK hr hsz hl
  go_enter Tryd.func35, Tryd.ntmps35
  go_wp2
  go_loopw [5] (fun x wr => ∃ (l : List Nat) (o : ByteArray), x = .string o ∧ Hid (Sel C K l) ∧ Hid (o.data.toList = l.map sg) ∧ o.size ≤ s.size ∧ ∃ n, wr = w.drewN n) (fun x _ => s.size - strLen x)
  case atStart => exact ⟨[], ⟨#[]⟩, rfl, Sel.none C K, rfl, Nat.zero_le _, 0, rfl⟩
  case round =>
    obtain ⟨l, o, rfl, HL, HO, hol, n, rfl⟩ := hrel
    have HOL : Hid (o.size = l.length) := by show _ = _; rw [Lib.size_eq, HO.out, List.length_map]
    by_cases hlt : o.size < s.size
    · have hne : (o.toList == s.toList) = false := differ_list (fun e => by rw [e] at hlt; omega)
      go_wp2
      go_loopw [6, 21] (fun x y wr => ∃ (i : Nat) (ob : Option Nat), i ≤ s.size ∧ x = .int .u8 (bv ob) ∧ y = .int .i64 i ∧ Hid (Best C K l i ob) ∧ Hid (∀ c, ob = some c → c < 64) ∧ ∃ n, wr = w.drewN n) (fun _ y _ => s.size - (intOf y).toNat)
      case atStart => exact ⟨0, none, Nat.zero_le _, rfl, rfl, Best.start C K l, (fun c h => by cases h), _, rfl⟩
      case round =>
        obtain ⟨i, ob, hi, rfl, rfl, HB, HOB, m, rfl⟩ := hrel
        by_cases hil : i < s.size
        · have hik : i < K.length := by rw [← HSZ.out]; exact hil
          have hc64 := H64.out K[i] (List.getElem_mem _)
          have hsi : s[i] = sg K[i] := by
            show s.data.toList[i]'(by rw [← Lib.size_eq]; exact hil) = _
            simp only [HS.out, List.getElem_map]
          have HL64 : Hid (∀ x ∈ l, x < 64) := fun x hx => H64.out x (HL.out.sub x hx)
          have HP : Hid (∀ n, Calls Tryd.prog 36 #[.string o, .int .u8 s[i].toNat] (w.drewN n) fun e w' => e = .returned (.int .i64 (plc (l.map sg) (sg K[i]))) ∧ w.drewN n = w') := fun n => by
            have h := place_any o (sg K[i]) (w.drewN n) (by unfold maxLen; omega)
            rw [HO.out] at h
            rw [hsi]
            exact h
          have HC : Hid (∀ n, Calls Tryd.prog 36 #[.string (tailB false), .int .u8 s[i].toNat] (w.drewN n) fun e w' => e = .returned (.int .i64 K[i]) ∧ w.drewN n = w') := fun n => by
            rw [hsi]
            exact sign_at hc64 _
          rw [tailB_lit] at HC
          have cc := HR.out.cell hc64
          have HBV : Hid ((s[i].toNat : Int) = ((bv (some K[i]) : Nat) : Int)) := by
            show _ = _
            rw [hsi]
            rfl
          clear hsi
          by_cases hin : K[i] ∈ l
          · have HN := Lib.hid (HB.out.skip hik hin)
            have hp := place_taken HL64.out hc64 hin
            generalize plc (l.map sg) (sg K[i]) = pl at *
            clear hin
            go_wp2
            go_quiet ((first | (go_at_call 36; with_reducible exact quiet_add_left (HP.out _)) | (go_at_call 36; with_reducible exact quiet_add_left (HC.out _))))
            go_wp2
            go_roundw
            case rel => exact ⟨i + 1, ob, by omega, rfl, by go_num, HN.out, HOB.out, _, rfl⟩
            case measure => simp [intOf]; omega
          · have hp := place_left HL64.out hc64 hin
            cases ob with
            | none => 
              have HN := Lib.hid (HB.out.first hik hin)
              have HO2 : Hid (∀ c, some K[i] = some c → c < 64) := fun c h => by injection h with h; omega
              have hbz : ((bv none : Nat) : Int) = 0 := rfl
              generalize plc (l.map sg) (sg K[i]) = pl at *
              rw [hbz]
              clear hin
              go_wp2
              go_quiet ((first | (go_at_call 36; with_reducible exact quiet_add_left (HP.out _)) | (go_at_call 36; with_reducible exact quiet_add_left (HC.out _))))
              go_wp2
              go_roundw
              case rel => exact ⟨i + 1, some K[i], by omega, by rw [HBV.out], by go_num, HN.out, HO2.out, _, rfl⟩
              case measure => simp [intOf]; omega
            | some b0 =>
              have hb64 := HOB.out b0 rfl
              have HD : Hid (∀ n, Calls Tryd.prog 36 #[.string (tailB false), .int .u8 ((bv (some b0) : Nat) : Int)] (w.drewN n) fun e w' => e = .returned (.int .i64 b0) ∧ w.drewN n = w') := fun n => sign_at hb64 _
              rw [tailB_lit] at HD
              have cb := HR.out.cell hb64
              have hbz : (((bv (some b0) : Nat) : Int) == 0) = false := by
                rw [beq_eq_false_iff_ne]
                have := sg_pos hb64
                simp only [bv]
                omega
              have HBX : Hid (0 ≤ ((bv (some b0) : Nat) : Int)) := Int.natCast_nonneg _
              generalize hpl : plc (l.map sg) (sg K[i]) = pl at *
              clear hpl
              by_cases hm : C b0 < C K[i]
              · have HN := Lib.hid (HB.out.more hik hin hm)
                have HO2 : Hid (∀ c, some K[i] = some c → c < 64) := fun c h => by injection h with h; omega
                clear hin
                generalize bv (some b0) = B0 at *
                generalize C b0 = c0 at *
                generalize C K[i] = c1 at *
                go_wp2
                generalize s[i].toNat = c8 at *
                go_quiet ((first | (go_at_call 36; with_reducible exact quiet_add_left (HP.out _)) | (go_at_call 36; with_reducible exact quiet_add_left (HC.out _)) | (go_at_call 36; with_reducible exact quiet_add_left (HD.out _))))
                go_wp2
                go_roundw
                case rel => exact ⟨i + 1, some K[i], by omega, by rw [HBV.out], by go_num, HN.out, HO2.out, _, rfl⟩
                case measure => simp [intOf]; omega
              · have HN := Lib.hid (HB.out.less HK.out hik hm)
                have hm' : decide (C b0 < C K[i]) = false := decide_eq_false hm
                clear hin
                generalize hbb : bv (some b0) = B0 at *
                have HBB := Lib.hid hbb
                clear hbb
                generalize C b0 = c0 at *
                generalize C K[i] = c1 at *
                go_wp2
                generalize s[i].toNat = c8 at *
                go_quiet ((first | (go_at_call 36; with_reducible exact quiet_add_left (HP.out _)) | (go_at_call 36; with_reducible exact quiet_add_left (HC.out _)) | (go_at_call 36; with_reducible exact quiet_add_left (HD.out _))))
                go_wp2
                go_roundw
                case rel => exact ⟨i + 1, some b0, by omega, by rw [HBB.out], by go_num, HN.out, HOB.out, _, rfl⟩
                case measure => simp [intOf]; omega
        · have hie : i = K.length := by have := HSZ.out; omega
          have hbs : Best C K l K.length ob := by rw [← hie]; exact HB.out
          obtain ⟨b0, rfl, hb0, hsel⟩ := hbs.sel (HK.out.imp (fun h => Nat.ne_of_lt h)) HL.out (by have := HSZ.out; have := HOL.out; omega)
          have hb64 := H64.out b0 hb0
          have henc : Utf8.encode ((bv (some b0) : Nat) : Int) = ⟨#[sg b0]⟩ := sg_encode hb64
          have HSEL := Lib.hid hsel
          have HOO : Hid ((o ++ ⟨#[sg b0]⟩).data.toList = (l ++ [b0]).map sg) := by
            show _ = _
            rw [data_app, HO.out]
            simp
          have hsz2 : (o ++ (⟨#[sg b0]⟩ : ByteArray)).size = o.size + 1 := ByteArray.size_append
          clear hbs hsel hie hb0
          generalize bv (some b0) = B0 at *
          go_wp2
          go_roundw
          case rel => exact ⟨l ++ [b0], _, rfl, HSEL.out, HOO.out, by omega, _, rfl⟩
          case measure => simp only [strLen]; omega
    · have HD := Lib.hid (HL.out.done (by have := HSZ.out; have := HOL.out; omega))
      have HE : Hid (Ord C K o.data.toList) := by show Ord _ _ _; rw [HO.out]; exact HD.out
      cases hne : (o.toList == s.toList) with
      | true =>
        go_wp2
        go_ret
        exact ⟨o, rfl, HE.out, n, rfl⟩
      | false =>
        go_wp2
        go_ret
        exact ⟨o, rfl, HE.out, n, rfl⟩
end Go.Proofs.YtbkgbnejmgjiiaaDoor
