/- What the reference's functions on names compute (Heads, Tails, place, IsName, Number), for every string that the model reads. Conditions: lengths at most 2^63 - 1; Number: a name of at most eight characters, at most 64 signs. -/
import Derived.Test.YtbkgbnejmgjiiaaDoorProg
import Derived.Test.YtbkgbnejmgjiiaaDoorPlainNames
import Derived.WalkKit
import Derived.WalkSpells
import Derived.WalkLawsBesides
import Derived.Lib.Hide
import Derived.Deep.QuietTactic
import Derived.BigQuiet
import Derived.Lib.Strings
namespace Go.Proofs.YtbkgbnejmgjiiaaDoor
open Go.RowKit

def headB (css : Bool) : ByteArray := ⟨#[97, 98, 99, 100, 101, 102, 103, 104, 105, 106, 107, 108, 109, 110, 111, 112, 113, 114, 115, 116, 117, 118, 119, 120, 121, 122, 65, 66, 67, 68, 69, 70, 71, 72, 73, 74, 75, 76, 77, 78, 79, 80, 81, 82, 83, 84, 85, 86, 87, 88, 89, 90, 95] ++ (if css then #[] else #[36])⟩
def tailB (css : Bool) : ByteArray := ⟨#[97, 98, 99, 100, 101, 102, 103, 104, 105, 106, 107, 108, 109, 110, 111, 112, 113, 114, 115, 116, 117, 118, 119, 120, 121, 122, 65, 66, 67, 68, 69, 70, 71, 72, 73, 74, 75, 76, 77, 78, 79, 80, 81, 82, 83, 84, 85, 86, 87, 88, 89, 90, 48, 49, 50, 51, 52, 53, 54, 55, 56, 57, 95] ++ (if css then #[] else #[36])⟩

theorem heads_any (css : Bool) (w : World) : Calls Tryd.prog 18 #[.bool css] w fun e w' => e = .returned (.string (headB css)) ∧ w = w' := by
  cases css
  · go_enter Tryd.func18, Tryd.ntmps18
    go_wp2
    go_ret
    exact ⟨rfl, rfl⟩
  · go_enter Tryd.func18, Tryd.ntmps18
    go_wp2
    go_ret
    exact ⟨rfl, rfl⟩
theorem tails_any (css : Bool) (w : World) : Calls Tryd.prog 19 #[.bool css] w fun e w' => e = .returned (.string (tailB css)) ∧ w = w' := by
  cases css
  · go_enter Tryd.func19, Tryd.ntmps19
    go_wp2
    go_ret
    exact ⟨rfl, rfl⟩
  · go_enter Tryd.func19, Tryd.ntmps19
    go_wp2
    go_ret
    exact ⟨rfl, rfl⟩

theorem ret_i64 {a b : Int} (h : a = b) : Ending.returned (.int .i64 a) = .returned (.int .i64 b) := by rw [h]

/-- the first place at which a byte stands -/
theorem plc_first (s : ByteArray) (c : UInt8) (k : Nat) (hk : k < s.size) (hb : ∀ j (h : j < k), s[j] ≠ c) (he : s[k] = c) : plc s.data.toList c = (k : Int) := by
  have hk' : k < s.data.toList.length := by simpa using hk
  have e2 : s.data.toList[k] = c := he
  have hm : c ∈ s.data.toList := by rw [← e2]; exact List.getElem_mem _
  rw [plc_mem hm]
  have hlt := List.idxOf_lt_length_iff.2 hm
  have e1 : s.data.toList[s.data.toList.idxOf c] = c := List.getElem_idxOf hlt
  rcases Nat.lt_trichotomy (s.data.toList.idxOf c) k with h | h | h
  · exact absurd e1 (hb _ h)
  · rw [h]
  · have := List.not_of_lt_findIdx (p := (· == c)) (xs := s.data.toList) (i := k) h
    simp [e2] at this
theorem plc_none (s : ByteArray) (c : UInt8) (hb : ∀ j (h : j < s.size), s[j] ≠ c) : plc s.data.toList c = -1 := by
  have hm : c ∉ s.data.toList := by
    intro h
    obtain ⟨j, hj, e⟩ := List.getElem_of_mem h
    exact hb j (by simpa using hj) e
  simp [plc, hm]

/-- none of the first k bytes is c -/
def Before (s : ByteArray) (c : UInt8) (k : Nat) : Prop := ∀ j (h : j < s.size), j < k → s[j] ≠ c

theorem place_any (s : ByteArray) (c : UInt8) (w : World) (hs : s.size ≤ maxLen) :
    Calls Tryd.prog 36 #[.string s, .int .u8 c.toNat] w fun e w' => e = .returned (.int .i64 (plc s.data.toList c)) ∧ w = w' := by
  unfold maxLen at hs
  go_enter Tryd.func36, Tryd.ntmps36
  go_wp2
  go_loop [8] (fun i => ∃ k : Nat, k ≤ s.size ∧ i = .int .i64 k ∧ Before s c k) (fun i => s.size - (intOf i).toNat)
  case atStart => exact ⟨0, Nat.zero_le _, rfl, fun j _ h => absurd h (Nat.not_lt_zero _)⟩
  case round =>
    obtain ⟨k, hk, rfl, hb⟩ := hrel
    by_cases hlt : k < s.size
    · by_cases he : s[k] = c
      · have HE := Lib.hid he; clear he
        have hq : (((s[k].toNat : Nat) : Int) == ((c.toNat : Nat) : Int)) = true := by rw [HE.out]; simp
        go_wp2
        go_ret
        exact ⟨ret_i64 (plc_first s c k hlt (fun j h => hb j (by omega) h) HE.out).symm, rfl⟩
      · have HE := Lib.hid he; clear he
        have hq : (((s[k].toNat : Nat) : Int) == ((c.toNat : Nat) : Int)) = false := by
          rw [beq_eq_false_iff_ne]; intro h; exact HE.out (UInt8.toNat_inj.1 (by omega))
        go_wp2
        go_round
        case rel => exact ⟨k + 1, by omega, by go_num, fun j h hj => by
          rcases Nat.lt_succ_iff_lt_or_eq.1 hj with h' | h'
          · exact hb j h h'
          · subst h'; exact HE.out⟩
        case measure => simp [intOf]; omega
    · go_wp2
      go_ret
      exact ⟨ret_i64 (plc_none s c fun j h => hb j h (by omega)).symm, rfl⟩

theorem quiet_left {P : Program} {f : FuncId} {args : Array Value} {w : World} {n : Nat} {v : Value}
    (h : Calls P f args (w.drewN n) fun e w' => e = .returned v ∧ w.drewN n = w') : Calls P f args (w.drewN n) fun e w'' => e = .returned v ∧ ∃ m, w'' = w.drewN m :=
  h.mono fun _ _ ⟨he, hm⟩ => ⟨he, n, hm.symm⟩
theorem quiet_add_left {P : Program} {f : FuncId} {args : Array Value} {w : World} {a n : Nat} {v : Value}
    (h : Calls P f args (w.drewN (a + n)) fun e w' => e = .returned v ∧ w.drewN (a + n) = w') :
    Calls P f args (w.drewN (a + n)) fun e w'' => e = .returned v ∧ ∃ m, w'' = w.drewN (a + m) :=
  h.mono fun _ _ ⟨he, hm⟩ => ⟨he, n, hm.symm⟩

theorem headB_le (css : Bool) : (headB css).size ≤ 54 := by cases css <;> decide
theorem tailB_le (css : Bool) : (tailB css).size ≤ 64 := by cases css <;> decide
theorem headB_ge (css : Bool) : 53 ≤ (headB css).size := by cases css <;> decide
theorem tailB_ge (css : Bool) : 63 ≤ (tailB css).size := by cases css <;> decide
abbrev hdL (css : Bool) : List UInt8 := (headB css).data.toList
abbrev tlL (css : Bool) : List UInt8 := (tailB css).data.toList

theorem isname_empty (s : ByteArray) (css : Bool) (w : World) (hs : s.size = 0) :
    Calls Tryd.prog 14 #[.string s, .bool css] w fun e w' => e = .returned (.bool false) ∧ ∃ n, w' = w.drewN n := by
  obtain rfl : s = ⟨#[]⟩ := by
    apply ByteArray.ext
    exact Array.eq_empty_of_size_eq_zero hs
  go_enter Tryd.func14, Tryd.ntmps14
  go_wp2
  go_quiet (fail)
  go_wp2
  go_ret
  exact ⟨rfl, _, rfl⟩

theorem nonempty_list {s : ByteArray} (h : 0 < s.size) : s.toList.isEmpty = false := by
  rw [List.isEmpty_eq_false_iff, Lib.toList_data]
  intro h'
  have := Lib.size_eq s
  rw [h', List.length_nil] at this
  omega
theorem plc_pos {l : List UInt8} {c : UInt8} (h : c ∈ l) : 0 ≤ plc l c := by rw [plc_mem h]; omega

theorem isname_head (s : ByteArray) (css : Bool) (w : World) (h0 : 0 < s.size) (hh : s[0] ∉ hdL css) :
    Calls Tryd.prog 14 #[.string s, .bool css] w fun e w' => e = .returned (.bool false) ∧ ∃ n, w' = w.drewN n := by
  have HH := Lib.hid hh; clear hh
  have he := nonempty_list h0
  have hb1 := headB_le css
  have hp := plc_neg.2 HH.out
  go_enter Tryd.func14, Tryd.ntmps14
  go_wp2
  go_quiet ((first | (go_at_call 18; exact quiet_left (heads_any _ _)) | (go_at_call 36; exact quiet_left (place_any _ _ _ (by unfold maxLen; omega)))))
  go_wp2
  go_ret
  exact ⟨rfl, _, rfl⟩

/-- the bytes 1 .. k - 1 are all among tl -/
def TailOk (tl : List UInt8) (s : ByteArray) (k : Nat) : Prop := ∀ j (h : j < s.size), 1 ≤ j → j < k → s[j] ∈ tl

/-- the loop's result: what follows the first byte is among the tails -/
theorem isname_tail (s : ByteArray) (css : Bool) (w : World) (hs : s.size ≤ maxLen) (h0 : 0 < s.size) (hh : s[0] ∈ hdL css) (r : Bool) (hr : r = true ↔ TailOk (tlL css) s s.size) :
    Calls Tryd.prog 14 #[.string s, .bool css] w fun e w' => e = .returned (.bool r) ∧ ∃ n, w' = w.drewN n := by
  have HR := Lib.hid hr; clear hr
  have HH := Lib.hid hh; clear hh
  have he := nonempty_list h0
  have hb1 := headB_le css
  have hb2 := tailB_le css
  unfold maxLen at hs
  have hp : decide (plc (headB css).data.toList s[0] < 0) = false := by have := plc_pos HH.out; simpa using this
  go_enter Tryd.func14, Tryd.ntmps14
  go_wp2
  go_quiet ((first | (go_at_call 18; exact quiet_left (heads_any _ _)) | (go_at_call 36; exact quiet_left (place_any _ _ _ (by unfold maxLen; omega)))))
  go_wp2
  go_loopw [5] (fun i wr => ∃ k : Nat, 1 ≤ k ∧ k ≤ s.size ∧ i = .int .i64 k ∧ TailOk (tlL css) s k ∧ ∃ n, wr = w.drewN n) (fun i _ => s.size - (intOf i).toNat)
  case atStart => exact ⟨1, by omega, by omega, rfl, fun j _ h h' => by omega, _, rfl⟩
  case round =>
    obtain ⟨k, hk1, hk, rfl, hb, n, rfl⟩ := hrel
    have HB := Lib.hid hb; clear hb
    by_cases hlt : k < s.size
    · by_cases hm : s[k] ∈ tlL css
      · have HM := Lib.hid hm; clear hm
        have hq : decide (plc (tailB css).data.toList s[k] < 0) = false := by have := plc_pos HM.out; simpa using this
        go_wp2
        go_quiet ((first | (go_at_call 19; exact quiet_add_left (tails_any _ _)) | (go_at_call 36; exact quiet_add_left (place_any _ _ _ (by unfold maxLen; omega)))))
        go_wp2
        go_roundw
        case rel => exact ⟨k + 1, by omega, by omega, by go_num, fun j h h1 hj => by
          rcases Nat.lt_succ_iff_lt_or_eq.1 hj with h' | h'
          · exact HB.out j h h1 h'
          · subst h'; exact HM.out, _, rfl⟩
        case measure => simp [intOf]; omega
      · have HM := Lib.hid hm; clear hm
        have hq : decide (plc (tailB css).data.toList s[k] < 0) = true := by simpa using plc_neg.2 HM.out
        go_wp2
        go_quiet ((first | (go_at_call 19; exact quiet_add_left (tails_any _ _)) | (go_at_call 36; exact quiet_add_left (place_any _ _ _ (by unfold maxLen; omega)))))
        go_wp2
        go_ret
        have e : r = false := by
          cases r with
          | false => rfl
          | true => exact absurd (HR.out.1 rfl k hlt hk1 hlt) HM.out
        subst e
        exact ⟨rfl, _, World.drewN_drewN _ _ _⟩
    · go_wp2
      go_ret
      have e : r = true := HR.out.2 (fun j h h1 _ => HB.out j h h1 (by omega))
      subst e
      exact ⟨rfl, _, rfl⟩

theorem cons_tail (l : List UInt8) (h : 0 < l.length) : l = l[0] :: l.tail := by
  cases l with
  | nil => simp at h
  | cons => rfl
theorem isNm_bytes (hd tl : List UInt8) (s : ByteArray) : isNm hd tl s.data.toList ↔ ∃ h : 0 < s.size, s[0] ∈ hd ∧ TailOk tl s s.size := by
  constructor
  · rintro ⟨c, cs, he, hc, hcs⟩
    have hl : s.size = cs.length + 1 := by rw [Lib.size_eq, he]; rfl
    have hg : ∀ j (h : j < s.size), s[j] = (c :: cs)[j]'(by simp; omega) := fun j h => by
      show s.data.toList[j]'(by simpa using h) = _
      simp only [he]
    refine ⟨by omega, by rw [hg 0 (by omega)]; exact hc, fun j h h1 _ => ?_⟩
    obtain ⟨j, rfl⟩ : ∃ i, j = i + 1 := ⟨j - 1, by omega⟩
    rw [hg _ h]
    exact hcs _ (List.getElem_mem _)
  · rintro ⟨h0, hh, ht⟩
    have hl : s.data.toList.length = s.size := (Lib.size_eq s).symm
    refine ⟨s[0], s.data.toList.tail, ?_, hh, ?_⟩
    · show s.data.toList = s.data.toList[0]'(by omega) :: _
      exact cons_tail _ _
    · intro c hc
      obtain ⟨j, hj, rfl⟩ := List.getElem_of_mem hc
      rw [List.length_tail] at hj
      rw [List.getElem_tail]
      exact ht (j + 1) (by omega) (by omega) (by omega)

theorem isname_any (s : ByteArray) (css : Bool) (w : World) (hs : s.size ≤ maxLen) (r : Bool) (hr : r = true ↔ isNm (hdL css) (tlL css) s.data.toList) :
    Calls Tryd.prog 14 #[.string s, .bool css] w fun e w' => e = .returned (.bool r) ∧ ∃ n, w' = w.drewN n := by
  rw [isNm_bytes] at hr
  by_cases h0 : 0 < s.size
  · by_cases hh : s[0] ∈ hdL css
    · exact isname_tail s css w hs h0 hh r (hr.trans ⟨fun h => h.2.2, fun h => ⟨h0, hh, h⟩⟩)
    · obtain rfl : r = false := by
        cases r with
        | false => rfl
        | true => exact absurd (hr.1 rfl).2.1 hh
      exact isname_head s css w h0 hh
  · obtain rfl : r = false := by
      cases r with
      | false => rfl
      | true => exact absurd (hr.1 rfl).1 h0
    exact isname_empty s css w (by omega)


theorem mul_room {m t : Nat} (hm : m < 5455160701056) (ht : t ≤ 64) : 0 ≤ (m : Int) * (t : Int) ∧ (m : Int) * (t : Int) ≤ 349130284867584 := by
  have h : m * t ≤ 5455160701056 * 64 := Nat.mul_le_mul (by omega) ht
  rw [← Int.natCast_mul]
  omega

theorem numT_drop (tl : List UInt8) (s : ByteArray) (k : Nat) (hk : k < s.size) : numT tl (s.data.toList.drop k) = numT tl (s.data.toList.drop (k + 1)) * tl.length + tl.idxOf s[k] + 1 := by
  have hk' : k < s.data.toList.length := by rw [← Lib.size_eq]; exact hk
  rw [List.drop_eq_getElem_cons hk']
  rfl
theorem num_bytes (hd tl : List UInt8) (s : ByteArray) (h0 : 0 < s.size) : num hd tl s.data.toList = numT tl (s.data.toList.drop 1) * hd.length + hd.idxOf s[0] := by
  have hk' : 0 < s.data.toList.length := by rw [← Lib.size_eq]; exact h0
  have e := cons_tail s.data.toList hk'
  have e1 : s.data.toList.drop 1 = s.data.toList.tail := by simp
  rw [e1]
  conv => lhs; rw [e]
  rfl

/-- Number -/
theorem number_any (s hd tl : ByteArray) (w : World) (hs : s.size ≤ 8) (h1 : hd.size ≤ 64) (h2 : tl.size ≤ 64) (hn : isNm hd.data.toList tl.data.toList s.data.toList) :
    Calls Tryd.prog 17 #[.string s, .string hd, .string tl] w fun e w' => e = .returned (.int .i64 (num hd.data.toList tl.data.toList s.data.toList)) ∧ w = w' := by
  obtain ⟨h0, hh, ht⟩ := (isNm_bytes _ _ _).1 hn
  have HH := Lib.hid hh
  have HT := Lib.hid ht
  clear hh ht hn
  have HLT := Lib.hid (Lib.size_eq tl)
  have HLH := Lib.hid (Lib.size_eq hd)
  have HLS := Lib.hid (Lib.size_eq s)
  go_enter Tryd.func17, Tryd.ntmps17
  go_wp2
  go_loop [7, 8] (fun n i => ∃ k m : Nat, k < s.size ∧ i = .int .i64 k ∧ n = .int .i64 m ∧ m = numT tl.data.toList (s.data.toList.drop (k + 1))) (fun _ i => (intOf i).toNat)
  case atStart => exact ⟨s.size - 1, 0, by omega, by go_num, rfl, by rw [List.drop_eq_nil_of_le (by rw [← HLS.out]; omega)]; rfl⟩
  case round =>
    obtain ⟨k, m, hk, rfl, rfl, hm⟩ := hrel
    have hb : m < 5455160701056 := by
      rw [hm]
      refine numT_small _ (by rw [← HLT.out]; omega) _ ?_
      rw [List.length_drop, ← HLS.out]; omega
    have HM := Lib.hid hm; clear hm
    by_cases hlt : 0 < k
    · have hr := mul_room hb h2
      have hin := HT.out k hk hlt hk
      have hp := plc_le tl.data.toList s[k]
      rw [← HLT.out] at hp
      have HP := Lib.hid (plc_mem hin)
      clear hin
      go_wp2_with (go_at_call 36; refine (place_any _ _ _ (by unfold maxLen; omega)).mono ?_; rintro e w' ⟨rfl, rfl⟩)
      go_round
      case rel =>
        refine ⟨k - 1, m * tl.size + tl.data.toList.idxOf s[k] + 1, by omega, by go_num, ?_, ?_⟩
        · rw [HP.out]; go_num
        · rw [show k - 1 + 1 = k from by omega, numT_drop _ _ _ hk, HM.out, ← HLT.out]
      case measure => simp [intOf]; omega
    · obtain rfl : k = 0 := by omega
      have hr := mul_room hb h1
      have hp := plc_le hd.data.toList s[0]
      rw [← HLH.out] at hp
      have HP := Lib.hid (plc_mem HH.out)
      go_wp2_with (go_at_call 36; refine (place_any _ _ _ (by unfold maxLen; omega)).mono ?_; rintro e w' ⟨rfl, rfl⟩)
      go_ret
      refine ⟨ret_i64 ?_, rfl⟩
      rw [HP.out, num_bytes _ _ _ h0, HM.out, ← HLH.out]
      simp

end Go.Proofs.YtbkgbnejmgjiiaaDoor
