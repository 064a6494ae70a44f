/- What impl.Counts returns: how often each sign occurs in the texts of both lists. Conditions: the texts of both together can be counted. -/
import Derived.Test.YtbkgbnejmgjiiaaDoorWSpCounts
namespace Go.Proofs.YtbkgbnejmgjiiaaDoor
open Go.RowKit Go.Deep
theorem freqV_at (F : Nat → Int) (k : Nat) (hk : k < 64) : (freqV F)[k]? = some (.int .i32 (F k)) := by simp [freqV, hk]
theorem index_freq (F : Nat → Int) (k : Nat) (hk : k < 64) (w : World) : (Instr.index 85 (.agg (freqV F)) (.int .i64 (k : Int))).run Tryd.prog w = .ok (.int .i32 (F k)) w := by
  unfold Instr.index
  simp [run_underlying Tryd.underlying85, go_sem, freqV_at F k hk, hk]
theorem info3 : (Tryd.prog.info? 3).map (fun i => (i.zero, i.size, i.bytes)) = some (some (.int .i64 0), 1, 8) := by kernel_rfl

theorem heap_setRow_other (w : World) (g k : Nat) (cs : Array Value) (h : k ≠ g) : (w.setRow g cs).heap[k]? = w.heap[k]? := by
  simp only [World.setRow]
  rw [Array.getElem?_modify, if_neg (fun e => h e.symm)]
/-- counts as cells -/
def cntCells (F : Nat → Int) (k : Nat) : List Value := (List.range k).map fun j => .int .i64 (F j)
theorem cntCells_succ (F : Nat → Int) (k : Nat) : cntCells F (k + 1) = cntCells F k ++ [.int .i64 (F k)] := by simp [cntCells, List.range_succ]

set_option maxHeartbeats 1000000 in
set_option maxRecDepth 100000 in
theorem imCounts_any (A B : Option Addr) (n m c d : Nat) (xs ys : List (ByteArray × Int)) (w : World) (hx : Reads w w.heap.size 2 A n (txtCells xs)) (hn : n = xs.length) (hn2 : n ≤ 9223372036854775807) (hy : Reads w w.heap.size 2 B m (txtCells ys)) (hm : m = ys.length) (hm2 : m ≤ 9223372036854775807) (ht : areTexts (plainT (xs ++ ys))) :
    Calls Tryd.prog 25 #[.slice A n c, .slice B m d] w fun e w' => ∃ v, e = .returned v ∧ w'.ownsRow w.heap.size 3 1 v 64 (cntCells (cnt (plainT (xs ++ ys))) 64) ∧ Below w.heap.size w w' := by
  have HX := Lib.hid hx
  have HY := Lib.hid hy
  have HN := Lib.hid hn
  have HM := Lib.hid hm
  have HT := Lib.hid ht
  have hpl : plainT (xs ++ ys) = plainT xs ++ plainT ys := by simp [plainT]
  have HTX : Hid (areTexts (plainT xs)) := by
    rw [hpl] at ht
    refine ⟨fun t h => ht.1 t (List.mem_append_left _ h), ?_⟩
    have := ht.2
    rw [long_append] at this
    omega
  have HTY : Hid (areTexts (plainT ys)) := by
    rw [hpl] at ht
    refine ⟨fun t h => ht.1 t (List.mem_append_right _ h), ?_⟩
    have := ht.2
    rw [long_append] at this
    omega
  have HC : Hid (∀ j, cnt (plainT (xs ++ ys)) j = cnt (plainT xs) j + cnt (plainT ys) j) := fun j => by rw [hpl, cnt_append]
  clear hx hy hn hm ht hpl
  have HFX : Hid (∀ j, -1000000000 ≤ cnt (plainT xs) j ∧ cnt (plainT xs) j ≤ 1000000000) := fun j => by
    have h1 := cnt_le _ HTX.out.1 j
    have h3 := HTX.out.2
    omega
  have HFY : Hid (∀ j, -1000000000 ≤ cnt (plainT ys) j ∧ cnt (plainT ys) j ≤ 1000000000) := fun j => by
    have h1 := cnt_le _ HTY.out.1 j
    have h3 := HTY.out.2
    omega
  obtain ⟨i0, hi, hz0, hz1, hz2⟩ := info_parts info3
  go_enter Tryd.func25, Tryd.ntmps25
  go_wp2_with fail
  refine (scanned_any A n c xs _ HX.out HN.out hn2 HTX.out).mono ?_
  rintro e w1 ⟨rfl, hb1⟩
  have HB1 := Lib.hid hb1
  clear hb1
  go_wp2_with fail
  refine (scanned_any B m d ys _ ((HY.out.below HB1.out).more HB1.out.size) HM.out hm2 HTY.out).mono ?_
  rintro e w2 ⟨rfl, hb2⟩
  have HB2 := Lib.hid (HB1.out.trans (hb2.mono HB1.out.size))
  clear hb2
  have z1 : ∀ W : World, ((W.alloc (.cells (Array.replicate 64 (.int .i32 0)) 85)).alloc (.cells (Array.replicate 64 (.int .i32 0)) 85)).heap[W.heap.size]? = some (.cells (Array.replicate 64 (.int .i32 0)) 85 (0, 0)) := fun W => heap_alloc2_old W _ _
  have z2 : ∀ W : World, ((W.alloc (.cells (Array.replicate 64 (.int .i32 0)) 85)).alloc (.cells (Array.replicate 64 (.int .i32 0)) 85)).heap[W.heap.size + 1]? = some (.cells (Array.replicate 64 (.int .i32 0)) 85 (0, 0)) := fun W => heap_alloc2_new W _ _
  have Z1 := Lib.hid (z1 w2)
  have Z2 := Lib.hid (z2 w2)
  clear z1 z2
  have HZ2 := Lib.hid (fun cs => (heap_setRow_other ((w2.alloc (.cells (Array.replicate 64 (.int .i32 0)) 85)).alloc (.cells (Array.replicate 64 (.int .i32 0)) 85)) w2.heap.size (w2.heap.size + 1) cs (by omega)).trans Z2.out)
  go_wp2_with (first
    | (refine wpList_store_row rfl 85 (.tmp 5) (.tmp 11) rfl w2.heap.size (freqV (cnt (plainT xs))) rfl rfl 85 (Array.replicate 64 (.int .i32 0)) ?z1 (info85' _) ?o1 (freqV_one _) ?_)
    | (refine wpList_store_row rfl 85 (.tmp 6) (.tmp 13) rfl (w2.heap.size + 1) (freqV (cnt (plainT ys))) rfl rfl 85 (Array.replicate 64 (.int .i32 0)) ?z2 (info85' _) ?o2 (freqV_one _) ?_))
  case z1 => exact Z1.out
  case o1 => simp [freqV]
  case z2 => exact HZ2.out _
  case o2 => simp [freqV]
  have q1 := setRow_heap _ _ _ (freqV (cnt (plainT xs))) _ _ Z1.out
  have q2 := setRow_heap _ _ _ (freqV (cnt (plainT ys))) _ _ (HZ2.out (freqV (cnt (plainT xs))))
  have q1' := (heap_setRow_other _ (w2.heap.size + 1) w2.heap.size (freqV (cnt (plainT ys))) (by omega)).trans q1
  have hB3 := below_setRow (below_setRow ((HB2.out.alloc HB2.out.size (.cells (Array.replicate 64 (.int .i32 0)) 85)).alloc (by have := HB2.out.size; simp; omega) (.cells (Array.replicate 64 (.int .i32 0)) 85)) (g := w2.heap.size) HB2.out.size (freqV (cnt (plainT xs)))) (g := w2.heap.size + 1) (by have := HB2.out.size; omega) (freqV (cnt (plainT ys)))
  have hz3 := HB2.out.size
  have R1 := Lib.hid (rowIs_of_heap (n := 64) (f := fun j => .int .i32 (cnt (plainT xs) j)) q1')
  have R2 := Lib.hid (rowIs_of_heap (n := 64) (f := fun j => .int .i32 (cnt (plainT ys) j)) q2)
  have HB3 := Lib.hid hB3
  clear q1 q2 q1' hB3 Z1 Z2 HZ2
  refine (include_any w2.heap.size (w2.heap.size + 1) _ _ _ (by omega) R1.out R2.out HFX.out HFY.out).mono ?_
  rintro e w4 ⟨rfl, hr4, hg4⟩
  have HB4 := Lib.hid (HB3.out.trans (below_of_only hg4 HB3.out.size hz3))
  have R4 : Hid (w4.rowIs w2.heap.size 85 64 (fun j => .int .i32 (cnt (plainT (xs ++ ys)) j))) := hr4.congr (fun j _ => by rw [HC.out])
  have Q4 := Lib.hid (rowIs_heap R4.out)
  have HF4 : Hid (∀ j, -2000000000 ≤ cnt (plainT (xs ++ ys)) j ∧ cnt (plainT (xs ++ ys)) j ≤ 2000000000) := fun j => by
    have h1 := HFX.out j
    have h2 := HFY.out j
    rw [HC.out]
    omega
  clear hr4 hg4 R1 R2 HB3
  generalize hCC : cnt (plainT (xs ++ ys)) = C at *
  have HCC := Lib.hid hCC
  clear hCC
  go_wp2_with (refine wpList_load_row rfl 85 (.tmp 5) rfl w2.heap.size rfl 85 (freqV C) (0, 0) _ ?z3 Tryd.underlying85 rfl (info85' _) ?_)
  case z3 => exact Q4.out
  go_loopw [7, 16] (fun v x wr => ∃ k : Nat, k ≤ 64 ∧ x = .int .i64 k ∧ Hid (wr.ownsRow w.heap.size 3 1 v k (cntCells C k)) ∧ Hid (Below w.heap.size w wr)) (fun _ x _ => 64 - (intOf x).toNat)
  case atStart => exact ⟨0, by omega, rfl, World.ownsRow_nil _ _ _ _, HB4.out⟩
  case round =>
    obtain ⟨k, hk, rfl, HO, HW⟩ := hrel
    have hws := HW.out.size
    by_cases hlt : k < 64
    · have hix := index_freq C k hlt
      have hbd := HF4.out k
      have HS := Lib.hid (cntCells_succ C k)
      go_wp2_with (at_builtin; refine wpList_append_own _ rfl _ _ 40 rfl w.heap.size 3 i0 _ 1 8 Tryd.underlying40 hi hz0 hz1 hz2 rfl (by decide) _ _ _ rfl (HO.out.alloc _) ⟨wr.heap.size, 0, none⟩ 1 1 [.int .i64 (C k)] rfl rfl ?c1 ?c2 ?c3 ?c4 ?c5 ?_)
      case c1 =>
        intro j u hu
        match j, hu with
        | 0, hu => simp at hu; subst hu; simp [Addr.add]
      case c2 => intro u hu; simp at hu; subst hu; rfl
      case c3 => unfold maxLen; omega
      case c4 => omega
      case c5 => simp; omega
      intro v' w5 hown5 hg5 _
      have HO5 : Hid (w5.ownsRow w.heap.size 3 1 v' (k + 1) (cntCells C (k + 1))) := by rw [HS.out]; exact hown5
      have HW5 : Hid (Below w.heap.size w w5) := (HW.out.alloc hws _).grown hg5 (by simp; omega) (fun g hgg => (HO.out.lt g hgg).1)
      clear hown5 hg5
      go_wp2
      go_roundw
      case rel => exact ⟨k + 1, by omega, by go_num, HO5.out, HW5.out⟩
      case measure => simp [intOf]; omega
    · obtain rfl : k = 64 := by omega
      go_wp2
      go_ret
      exact ⟨u7, rfl, by rw [HCC.out]; exact HO.out, HW.out⟩
end Go.Proofs.YtbkgbnejmgjiiaaDoor
