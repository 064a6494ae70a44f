/- What spec.Counts returns over a slice of texts: how often each sign occurs. Conditions: the texts can be counted. -/
import Derived.Test.YtbkgbnejmgjiiaaDoorWTexts
namespace Go.Proofs.YtbkgbnejmgjiiaaDoor
open Go.RowKit Go.Deep

def codeI (c : UInt8) : Int := match code c with | some i => (i : Int) | none => -1
theorem plc_code (c : UInt8) : plc (tlL false) c = codeI c := by
  have h : ∀ n : Fin 256, plc (tlL false) (UInt8.ofNat n) = codeI (UInt8.ofNat n) := by decide +kernel
  have := h ⟨c.toNat, c.toNat_lt⟩
  simpa using this

theorem zeros64i (w : World) : (w.alloc (.cells (Array.replicate 64 (.int .i64 0)) 3)).rowIs w.heap.size 3 64 (fun _ => .int .i64 0) := by
  have := World.rowIs_alloc w (Array.replicate 64 (.int .i64 0)) 3 (fun _ => .int .i64 0) (fun i hi => by simp at hi; simp [hi])
  simpa using this

/-- one more sign counted -/
theorem rowi_bump {w : World} {b : Nat} {F : Nat → Int} {d : Int} {s : ByteArray} {k i : Nat} (h : w.rowIs b 3 64 (fun j => .int .i64 (F j + d * occ (s.data.toList.take k) j))) (hk : k < s.size) (hc : code s[k] = some i) :
    (w.setCell ⟨b, i, none⟩ (.int .i64 (F i + d * occ (s.data.toList.take k) i + d))).rowIs b 3 64 (fun j => .int .i64 (F j + d * occ (s.data.toList.take (k + 1)) j)) := by
  refine (h.set i _).congr (fun j _ => ?_)
  rw [occ_snoc s k hk]
  by_cases e : j = i
  · subst e
    rw [if_pos rfl]
    have : one s[k] j = 1 := by simp [one, hc]
    rw [this, Int.mul_add, Int.mul_one, Int.add_assoc]
  · rw [if_neg e]
    have : one s[k] j = 0 := by
      unfold one
      rw [hc, if_neg]
      intro h'
      injection h' with h'
      exact e h'.symm
    rw [this, Int.add_zero]
theorem rowi_keep {w : World} {b : Nat} {F : Nat → Int} {d : Int} {s : ByteArray} {k : Nat} (h : w.rowIs b 3 64 (fun j => .int .i64 (F j + d * occ (s.data.toList.take k) j))) (hk : k < s.size) (hc : code s[k] = none) :
    w.rowIs b 3 64 (fun j => .int .i64 (F j + d * occ (s.data.toList.take (k + 1)) j)) := by
  refine h.congr (fun j _ => ?_)
  rw [occ_snoc s k hk]
  have : one s[k] j = 0 := by simp [one, hc]
  rw [this, Int.add_zero]

set_option maxHeartbeats 2000000 in
set_option maxRecDepth 100000 in
theorem spCounts_any (A : Option Addr) (n c : Nat) (ts : List (ByteArray × Int)) (w : World) (hr : Reads w w.heap.size 2 A n (txtCells ts)) (hn : n = ts.length) (hm : n ≤ 9223372036854775807) (ht : areTexts (plainT ts)) :
    Calls Tryd.prog 26 #[.slice A n c] w fun e w' => e = .returned (.slice (some ⟨w.heap.size, 0, none⟩) 64 64) ∧ w'.rowIs w.heap.size 3 64 (fun j => .int .i64 (cnt (plainT ts) j)) ∧ Below w.heap.size w w' := by
  have HR := Lib.hid hr
  have HN := Lib.hid hn
  have HT := Lib.hid ht
  clear hr hn ht
  have hmk : ∀ w : World, (Instr.makeSlice 40 (.int .i64 64) (.int .i64 64)).run Tryd.prog w = .ok (.slice (some ⟨w.heap.size, 0, none⟩) 64 64) (w.alloc (.cells (Array.replicate 64 (.int .i64 0)) 3)) := fun _ => by kernel_rfl
  go_enter Tryd.func26, Tryd.ntmps26
  go_wp2
  go_loopw [11] (fun x wr => ∃ k : Nat, k ≤ n ∧ x = .int .i64 k ∧ Hid (wr.rowIs w.heap.size 3 64 (fun j => .int .i64 (cnt ((plainT ts).take k) j))) ∧ Hid (Below w.heap.size w wr)) (fun x _ => n - (intOf x).toNat)
  case atStart => exact ⟨0, by omega, rfl, (zeros64i w), (Below.refl _ _).alloc (Nat.le_refl _) _⟩
  case round =>
    clear hmk
    obtain ⟨k, hk, rfl, HX, HW⟩ := hrel
    have hws := HW.out.size
    have hxlt := HX.out.lt
    by_cases hlt : k < n
    · have hk2 : k < ts.length := by rw [← HN.out]; exact hlt
      obtain ⟨b, off, rfl, hbB, hcell⟩ := HR.out.at_ (by rw [txtCells_length, ← HN.out]; omega)
      have hcx := txtCells_at ts k hk2
      have c0 : wr.cell? ⟨b, off + k * 2, none⟩ = some (.string ts[k].1) := (HW.out.cell (p := ⟨b, _, none⟩) hbB).trans (hcell _ _ hcx.1)
      have c1 : wr.cell? ⟨b, off + k * 2 + 1, none⟩ = some (.int .i64 ts[k].2) := (HW.out.cell (p := ⟨b, _, none⟩) hbB).trans (hcell _ _ hcx.2)
      have htimes : -1000 ≤ ts[k].2 ∧ ts[k].2 ≤ 1000 := by
        have := HT.out.1 (ts[k].1.data.toList, ts[k].2) (List.mem_map.2 ⟨ts[k], List.getElem_mem _, rfl⟩)
        exact this
      have hsz : ts[k].1.size ≤ 100000 := by
        rw [Lib.size_eq]
        have h1 := HT.out.2
        have h2 := long_mem (l := plainT ts) (t := (ts[k].1.data.toList, ts[k].2)) (List.mem_map.2 ⟨ts[k], List.getElem_mem _, rfl⟩)
        simp only at h2
        omega
      have HF : Hid (∀ j, -1000000000 ≤ cnt ((plainT ts).take k) j ∧ cnt ((plainT ts).take k) j ≤ 1000000000) := by
        intro j
        have h1 := cnt_le _ (timesOk_take HT.out.1 k) j
        have h2 := long_take (plainT ts) k
        have h3 := HT.out.2
        omega
      have HC : Hid (∀ j, cnt ((plainT ts).take (k + 1)) j = cnt ((plainT ts).take k) j + ts[k].2 * occ ts[k].1.data.toList j) := by
        intro j
        rw [cnt_zero (plainT ts) k (by simpa [plainT] using hk2)]
        simp [plainT]
      clear hcell hcx
      generalize ts[k].1 = s at *
      generalize ts[k].2 = d at *
      have HXC : Hid (wr.rowIs w.heap.size 3 64 (fun j => .int .i64 (cnt ((plainT ts).take k) j + d * occ (s.data.toList.take 0) j))) := HX.out.congr (fun j _ => by simp [occ])
      have HSL := Lib.hid (Lib.size_eq s)
      have hp64 := tailB_le false
      go_wp2
      obtain ⟨wo, rfl⟩ : ∃ wo : World, wo = wr := ⟨_, rfl⟩
      go_loopw [18] (fun x wi => ∃ j : Nat, j ≤ s.size ∧ x = .int .i64 j ∧ Hid (wi.rowIs w.heap.size 3 64 (fun i => .int .i64 (cnt ((plainT ts).take k) i + d * occ (s.data.toList.take j) i))) ∧ Hid (wi.heap[wo.heap.size]? = some (.cells #[.string s, .int .i64 d] 83 (0, 0))) ∧ Hid (Below w.heap.size w wi)) (fun x _ => s.size - (intOf x).toNat)
      case atStart => exact ⟨0, by omega, rfl, HXC.out.alloc _, heap_alloc_new wo _, HW.out.alloc hws _⟩
      case round =>
        obtain ⟨j, hj, rfl, HI, HK, HWI⟩ := hrel
        have b0 : wr.cell? ⟨wo.heap.size, 0, none⟩ = some (.string s) := by rw [Lib.cell_of_heap HK.out]; rfl
        have b1 : wr.cell? ⟨wo.heap.size, 1, none⟩ = some (.int .i64 d) := by rw [Lib.cell_of_heap HK.out]; rfl
        by_cases hjl : j < s.size
        · have HP := Lib.hid (plc_code s[j])
          cases hcd : code s[j] with
          | none =>
            have HCD := Lib.hid hcd
            clear hcd
            have HP2 : Hid (plc (tailB false).data.toList s[j] = -1) := by rw [show plc (tailB false).data.toList s[j] = codeI s[j] from HP.out]; simp [codeI, HCD.out, Hid]
            have HN1 := Lib.hid (rowi_keep HI.out hjl HCD.out)
            go_wp2_with (go_at_call 36; refine (place_any (tailB false) _ _ (by unfold maxLen; omega)).mono ?_; rw [HP2.out]; rintro e w' ⟨rfl, rfl⟩)
            go_roundw
            case rel => exact ⟨j + 1, by omega, by go_num, HN1.out, HK.out, HWI.out⟩
            case measure => simp [intOf]; omega
          | some i =>
            have hi64 := code_lt hcd
            have HCD := Lib.hid hcd
            clear hcd
            have HP2 : Hid (plc (tailB false).data.toList s[j] = (i : Int)) := by rw [show plc (tailB false).data.toList s[j] = codeI s[j] from HP.out]; simp [codeI, HCD.out, Hid]
            have HN1 := Lib.hid (rowi_bump HI.out hjl HCD.out)
            have cx := HI.out.cell hi64
            have fx := HI.out.frozen i
            have hbd : -2000000000 ≤ cnt ((plainT ts).take k) i + d * occ (s.data.toList.take j) i ∧ cnt ((plainT ts).take k) i + d * occ (s.data.toList.take j) i ≤ 2000000000 := by
              have h1 := occ_le (s.data.toList.take j) i
              have h2 : (s.data.toList.take j).length ≤ 100000 := by
                rw [List.length_take, ← HSL.out]; omega
              have h3 := mul_bound (n := 100000) htimes.1 htimes.2 h1.1 (by omega)
              have h4 := HF.out i
              omega
            have HB1 : Hid (∀ u, Below w.heap.size w (wr.setCell ⟨w.heap.size, i, none⟩ u)) := fun u => HWI.out.setCell (p := ⟨w.heap.size, i, none⟩) (Nat.le_refl _) u
            have HK1 : Hid (∀ u, (wr.setCell ⟨w.heap.size, i, none⟩ u).heap[wo.heap.size]? = some (.cells #[.string s, .int .i64 d] 83 (0, 0))) := fun u => (Below.heap_setCell wr ⟨w.heap.size, i, none⟩ u wo.heap.size (by show wo.heap.size ≠ w.heap.size; omega)).trans HK.out
            generalize cnt ((plainT ts).take k) i + d * occ (s.data.toList.take j) i = G at *
            go_wp2_with (go_at_call 36; refine (place_any (tailB false) _ _ (by unfold maxLen; omega)).mono ?_; rw [HP2.out]; rintro e w' ⟨rfl, rfl⟩)
            go_region
            all_goals
              go_wp2
              go_roundw
              case rel => exact ⟨j + 1, by omega, by go_num, HN1.out, HK1.out _, (HB1.out _).drew⟩
              case measure => simp [intOf]; omega
        · have HE : Hid (s.data.toList.take j = s.data.toList) := List.take_of_length_le (by rw [← HSL.out]; omega)
          go_wp2
          go_roundw
          case rel =>
            refine ⟨k + 1, by omega, by go_num, ?_, HWI.out⟩
            refine HI.out.congr (fun i _ => ?_)
            rw [HC.out, HE.out]
          case measure => simp [intOf]; omega
    · have ht : (plainT ts).take k = plainT ts := List.take_of_length_le (by simp [plainT]; have := HN.out; omega)
      rw [ht] at HX
      clear ht
      go_wp2
      go_ret
      exact ⟨rfl, HX.out, HW.out⟩
end Go.Proofs.YtbkgbnejmgjiiaaDoor
