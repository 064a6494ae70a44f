/- What ShuffleByCharFreq returns: the characters of a sorted array. Conditions: between one and 64 characters. -/
import Derived.Test.YtbkgbnejmgjiiaaDoorWSortI
import Derived.Test.YtbkgbnejmgjiiaaDoorWSortJ
import Derived.Test.YtbkgbnejmgjiiaaDoorWImCounts
namespace Go.Proofs.YtbkgbnejmgjiiaaDoor
open Go.RowKit Go.Lib Go.Sort

theorem info134 : (Tryd.prog.info? 134).map (fun i => (i.zero.map (·.cells), i.size, i.bytes)) = some (some #[.string ⟨#[]⟩, .int .i32 0, .int .u8 0], 3, 24) := by kernel_rfl
/-- what the array holds behind k rounds -/
def elCh (ts : List UInt8) (F : Nat → Int) (k j : Nat) : Ch := if j < k then (⟨#[ts.getD j 0]⟩, F j, j) else (⟨#[]⟩, 0, 0)
def arCh (ts : List UInt8) (F : Nat → Int) (k : Nat) : Array Ch := Array.ofFn (n := 64) fun j => elCh ts F k j
theorem arCh_at (ts : List UInt8) (F : Nat → Int) (k j : Nat) (hj : j < 64) : (arCh ts F k)[j]! = elCh ts F k j := by
  rw [getElem!_pos _ j (by simp [arCh, hj])]
  simp [arCh]
theorem make_chs (ts : List UInt8) (F : Nat → Int) (w : World) : ∃ cs, (Instr.makeSlice 132 (.int .i64 64) (.int .i64 64)).run Tryd.prog w = .ok (.slice (some ⟨w.heap.size, 0, none⟩) 64 64) (w.alloc (.cells cs 134)) ∧ (w.alloc (.cells cs 134)).rowIs w.heap.size 134 192 (chCell (arCh ts F 0)) := by
  obtain ⟨i, hi, hz⟩ := Option.map_eq_some_iff.1 info134
  simp only [Prod.mk.injEq] at hz
  obtain ⟨hz, hs, hb⟩ := hz
  obtain ⟨z, hz1, hz2⟩ := Option.map_eq_some_iff.1 hz
  have hr := run_make (P := Tryd.prog) w 132 134 i z Tryd.underlying132 hi hz1 .i64 .i64 (64 : Nat) (64 : Nat) (by omega) (Int.le_refl _) (by rw [hb]; omega) (by omega)
  simp only [Int.toNat_natCast, hs] at hr
  refine ⟨_, hr, ?_⟩
  have hrow := World.rowIs_alloc w (madeCells z.cells (64 * 3)) 134 (chCell (arCh ts F 0)) (fun j hj => by
    rw [size_madeCells] at hj
    rw [hz2]
    simp only [madeCells, Array.getElem?_map, Array.getElem?_range, hj, if_true, Option.map_some]
    have hc : chCell (arCh ts F 0) j = if j % 3 = 0 then .string ⟨#[]⟩ else if j % 3 = 1 then .int .i32 0 else .int .u8 0 := by
      unfold chCell
      rw [arCh_at _ _ _ _ (by omega)]
      simp [elCh]
    rw [hc]
    have h3 : j % 3 = 0 ∨ j % 3 = 1 ∨ j % 3 = 2 := by omega
    rcases h3 with h | h | h <;> simp [h])
  rw [size_madeCells] at hrow
  exact hrow

theorem extract_one (s : ByteArray) (j : Nat) (hj : j < s.size) : s.extract j (j + 1) = ⟨#[s.data.toList.getD j 0]⟩ := by
  apply ByteArray.ext
  rw [ByteArray.data_extract]
  have h2 : j < s.data.size := hj
  apply Array.ext'
  rw [Array.toList_extract, List.extract_eq_take_drop]
  have h3 : j < s.data.toList.length := by simpa using h2
  simp only [List.getD, List.getElem?_eq_getElem h3, Option.getD_some]
  rw [show j + 1 - j = 1 by omega, List.drop_eq_getElem_cons h3]
  simp
/-- what stands while the array is filled -/
structure SH (w : World) (tl : ByteArray) (F : Nat → Int) (k : Nat) (wr : World) : Prop where
  tail : wr.cell? ⟨w.heap.size, 1, none⟩ = some (.string tl)
  fr : wr.rowIs (w.heap.size + 1) 85 64 (fun i => .int .i32 (F i))
  res : wr.heap[w.heap.size + 1 + 1]? = some (.cells #[.string ⟨#[]⟩, .string ⟨#[]⟩] 74 (0, 0))
  ar : wr.rowIs (w.heap.size + 1 + 1 + 1) 134 192 (chCell (arCh tl.data.toList F k))
  bel : RowKit.Below w.heap.size w wr
theorem SH.next {w : World} {tl : ByteArray} {F : Nat → Int} {k : Nat} {wr : World} (h : SH w tl F k wr) (hk2 : k < tl.size) :
    SH w tl F (k + 1) (((wr.setCell ⟨w.heap.size + 1 + 1 + 1, k * 3, none⟩ (.string (tl.extract k (k + 1)))).setCell ⟨w.heap.size + 1 + 1 + 1, k * 3 + 1, none⟩ (.int .i32 (F k))).setCell ⟨w.heap.size + 1 + 1 + 1, k * 3 + 2, none⟩ (.int .u8 (k : Int))) := by
  have hb : ∀ (W : World) (o : Nat) (v : Value) (i : Nat), i ≠ w.heap.size + 1 + 1 + 1 → (W.setCell ⟨w.heap.size + 1 + 1 + 1, o, none⟩ v).heap[i]? = W.heap[i]? := fun W o v i hi => RowKit.Below.heap_setCell W ⟨w.heap.size + 1 + 1 + 1, o, none⟩ v i hi
  have h3 : ∀ i, i ≠ w.heap.size + 1 + 1 + 1 → (((wr.setCell ⟨w.heap.size + 1 + 1 + 1, k * 3, none⟩ (.string (tl.extract k (k + 1)))).setCell ⟨w.heap.size + 1 + 1 + 1, k * 3 + 1, none⟩ (.int .i32 (F k))).setCell ⟨w.heap.size + 1 + 1 + 1, k * 3 + 2, none⟩ (.int .u8 (k : Int))).heap[i]? = wr.heap[i]? := fun i hi => by rw [hb _ _ _ _ hi, hb _ _ _ _ hi, hb _ _ _ _ hi]
  constructor
  · exact (World.cell?_of_block (h3 w.heap.size (by omega))).trans h.tail
  · exact h.fr.of_block (h3 _ (by omega))
  · exact (h3 _ (by omega)).trans h.res
  · refine (((h.ar.set (k * 3) _).set (k * 3 + 1) _).set (k * 3 + 2) _).congr (fun c hc => ?_)
    have h3 : c % 3 = 0 ∨ c % 3 = 1 ∨ c % 3 = 2 := by omega
    unfold chCell
    rw [arCh_at _ _ _ _ (by omega), arCh_at _ _ _ _ (by omega)]
    by_cases e : c / 3 = k
    · have hel : elCh tl.data.toList F (k + 1) (c / 3) = (tl.extract k (k + 1), F k, k) := by
        unfold elCh
        rw [if_pos (by omega), e, extract_one tl k hk2]
      rw [hel]
      rcases h3 with h | h | h
      · rw [if_neg (by omega), if_neg (by omega), if_pos (by omega), h]; rfl
      · rw [if_neg (by omega), if_pos (by omega), h]; rfl
      · rw [if_pos (by omega), h]; rfl
    · have hel : elCh tl.data.toList F (k + 1) (c / 3) = elCh tl.data.toList F k (c / 3) := by
        unfold elCh
        by_cases e2 : c / 3 < k
        · rw [if_pos (by omega), if_pos e2]
        · rw [if_neg (by omega), if_neg e2]
      rw [if_neg (by omega), if_neg (by omega), if_neg (by omega), hel]
  · exact ((h.bel.setCell (p := ⟨w.heap.size + 1 + 1 + 1, k * 3, none⟩) (by show w.heap.size ≤ w.heap.size + 1 + 1 + 1; omega) _).setCell (p := ⟨w.heap.size + 1 + 1 + 1, k * 3 + 1, none⟩) (by show w.heap.size ≤ w.heap.size + 1 + 1 + 1; omega) _).setCell (p := ⟨w.heap.size + 1 + 1 + 1, k * 3 + 2, none⟩) (by show w.heap.size ≤ w.heap.size + 1 + 1 + 1; omega) _
theorem SH.drew {w : World} {tl : ByteArray} {F : Nat → Int} {k : Nat} {wr : World} (h : SH w tl F k wr) : SH w tl F k wr.drew := ⟨h.tail, h.fr, h.res, h.ar, h.bel.drew⟩

/-- a character with which names begin -/
def isHead (x : ByteArray) : Bool := Op.bytesLess x.toList [48] || !(Op.bytesLess x.toList [57] || (x.toList == [57]))
def headOf (l : List Ch) : List UInt8 := l.flatMap fun x => if isHead x.1 = true then x.1.data.toList else []
def tailOf (l : List Ch) : List UInt8 := l.flatMap fun x => x.1.data.toList
theorem headOf_snoc (l : List Ch) (x : Ch) : headOf (l ++ [x]) = headOf l ++ (if isHead x.1 = true then x.1.data.toList else []) := by simp [headOf]
theorem tailOf_snoc (l : List Ch) (x : Ch) : tailOf (l ++ [x]) = tailOf l ++ x.1.data.toList := by simp [tailOf]
theorem data_app (a b : ByteArray) : (a ++ b).data.toList = a.data.toList ++ b.data.toList := by
  rw [ByteArray.data_append]; simp
/-- what stands while the strings are put together -/
structure SK (w : World) (M : Nat) (d : Array Ch) (hk tk : ByteArray) (wr : World) : Prop where
  mini : wr.rowIs M 74 2 (fun i => if i = 0 then .string hk else .string tk)
  ar : wr.rowIs (w.heap.size + 1 + 1 + 1) 134 192 (chCell d)
  res : wr.heap[w.heap.size + 1 + 1]? = some (.cells #[.string ⟨#[]⟩, .string ⟨#[]⟩] 74 (0, 0))
  bel : RowKit.Below w.heap.size w wr
  ge : w.heap.size + 1 + 1 + 1 < M
section
variable {w : World} {M : Nat} {d : Array Ch} {hk tk : ByteArray} {wr : World}
theorem SK.alloc (h : SK w M d hk tk wr) (o : Obj) : SK w M d hk tk (wr.alloc o) where
  mini := h.mini.alloc _
  ar := h.ar.alloc _
  res := (RowKit.Below.heap_alloc wr o _ (by have := h.mini.lt; have := h.ge; omega)).trans h.res
  bel := h.bel.alloc h.bel.size _
  ge := h.ge
theorem SK.head (h : SK w M d hk tk wr) (x : ByteArray) : SK w M d x tk (wr.setCell ⟨M, 0, none⟩ (.string x)) where
  mini := (h.mini.set 0 _).congr (fun j _ => by
    by_cases e : j = 0
    · rw [if_pos e, if_pos e]
    · rw [if_neg e, if_neg e, if_neg e])
  ar := h.ar.setOther (by show w.heap.size + 1 + 1 + 1 ≠ M; have := h.ge; omega) _
  res := (RowKit.Below.heap_setCell wr ⟨M, 0, none⟩ _ _ (by show w.heap.size + 1 + 1 ≠ M; have := h.ge; omega)).trans h.res
  bel := h.bel.setCell (p := ⟨M, 0, none⟩) (by show w.heap.size ≤ M; have := h.ge; omega) _
  ge := h.ge
theorem SK.tail (h : SK w M d hk tk wr) (x : ByteArray) : SK w M d hk x (wr.setCell ⟨M, 1, none⟩ (.string x)) where
  mini := (h.mini.set 1 _).congr (fun j hj => by
    by_cases e : j = 1
    · rw [if_pos e, if_neg (by omega)]
    · rw [if_neg e, if_pos (by omega), if_pos (by omega)])
  ar := h.ar.setOther (by show w.heap.size + 1 + 1 + 1 ≠ M; have := h.ge; omega) _
  res := (RowKit.Below.heap_setCell wr ⟨M, 1, none⟩ _ _ (by show w.heap.size + 1 + 1 ≠ M; have := h.ge; omega)).trans h.res
  bel := h.bel.setCell (p := ⟨M, 1, none⟩) (by show w.heap.size ≤ M; have := h.ge; omega) _
  ge := h.ge
theorem SK.cells (h : SK w M d hk tk wr) : wr.cell? ⟨M, 0, none⟩ = some (.string hk) ∧ wr.cell? ⟨M, 1, none⟩ = some (.string tk) := ⟨h.mini.cell (by omega), h.mini.cell (by omega)⟩
end

set_option maxHeartbeats 4000000 in
set_option maxRecDepth 100000 in
theorem shuffle_any (hd tl : ByteArray) (F : Nat → Int) (w : World) (ht : tl.size ≤ 64) (h1 : 1 ≤ tl.size) :
    Calls Tryd.prog 54 #[.agg #[.string hd, .string tl], .agg (freqV F)] w fun e w' => ∃ h t d, e = .returned (.agg #[.string h, .string t]) ∧ PermIn 0 64 (arCh tl.data.toList F tl.size) d ∧ SortedIn ltCh 0 64 d ∧ h.data.toList = headOf d.toList ∧ t.data.toList = tailOf d.toList ∧ RowKit.Below w.heap.size w w' := by
  have hf1 := freqV_one F
  have hf2 := info85' F
  obtain ⟨cs, hmk, hrow⟩ := make_chs tl.data.toList F (((w.alloc (.cells #[.string hd, .string tl] 74)).alloc (.cells (freqV F) 85)).alloc (.cells #[.string ⟨#[]⟩, .string ⟨#[]⟩] 74))
  go_enter Tryd.func54, Tryd.ntmps54
  go_wp2
  have HS0 : Hid (SH w tl F 0 ((((w.alloc (.cells #[.string hd, .string tl] 74)).alloc (.cells (freqV F) 85)).alloc (.cells #[.string ⟨#[]⟩, .string ⟨#[]⟩] 74)).alloc (.cells cs 134))) := by
    have s1 : (w.alloc (.cells #[.string hd, .string tl] 74)).heap.size = w.heap.size + 1 := World.size_alloc _ _
    have s2 : ((w.alloc (.cells #[.string hd, .string tl] 74)).alloc (.cells (freqV F) 85)).heap.size = w.heap.size + 1 + 1 := by rw [World.size_alloc, s1]
    have s3 : (((w.alloc (.cells #[.string hd, .string tl] 74)).alloc (.cells (freqV F) 85)).alloc (.cells #[.string ⟨#[]⟩, .string ⟨#[]⟩] 74)).heap.size = w.heap.size + 1 + 1 + 1 := by rw [World.size_alloc, s2]
    have hB := (((RowKit.Below.refl w.heap.size w).alloc (Nat.le_refl _) (.cells #[.string hd, .string tl] 74)).alloc (by omega) (.cells (freqV F) 85)).alloc (by omega) (.cells #[.string ⟨#[]⟩, .string ⟨#[]⟩] 74)
    rw [s3] at hrow
    refine ⟨?_, ?_, ?_, hrow, hB.alloc (by omega) _⟩
    · rw [World.cell?_alloc_lt _ _ _ (by show w.heap.size < _; omega), World.cell?_alloc_lt _ _ _ (by show w.heap.size < _; omega), World.cell?_alloc_lt _ _ _ (by show w.heap.size < _; omega)]
      exact (Lib.cell_of_heap (heap_alloc_new w _) _).trans rfl
    · have h1 := heap_alloc_new (w.alloc (.cells #[.string hd, .string tl] 74)) (.cells (freqV F) 85)
      rw [s1] at h1
      have h2 : ((((w.alloc (.cells #[.string hd, .string tl] 74)).alloc (.cells (freqV F) 85)).alloc (.cells #[.string ⟨#[]⟩, .string ⟨#[]⟩] 74)).alloc (.cells cs 134)).heap[w.heap.size + 1]? = some (.cells (freqV F) 85) := by
        rw [RowKit.Below.heap_alloc _ _ _ (by omega), RowKit.Below.heap_alloc _ _ _ (by omega)]; exact h1
      exact rowIs_of_heap (n := 64) (f := fun j => .int .i32 (F j)) h2
    · have h1 := heap_alloc_new ((w.alloc (.cells #[.string hd, .string tl] 74)).alloc (.cells (freqV F) 85)) (.cells #[.string ⟨#[]⟩, .string ⟨#[]⟩] 74)
      rw [s2] at h1
      rw [RowKit.Below.heap_alloc _ _ _ (by omega)]
      exact h1
  generalize ((((w.alloc (.cells #[.string hd, .string tl] 74)).alloc (.cells (freqV F) 85)).alloc (.cells #[.string ⟨#[]⟩, .string ⟨#[]⟩] 74)).alloc (.cells cs 134)) = W0 at *
  clear hmk hrow hf1 hf2
  go_loopw [6] (fun x wr => ∃ k : Nat, k ≤ tl.size ∧ x = .int .i64 k ∧ Hid (SH w tl F k wr)) (fun x _ => tl.size - (intOf x).toNat)
  case atStart => exact ⟨0, by omega, rfl, HS0.out⟩
  case round =>
    clear HS0
    obtain ⟨k, hk, rfl, HH⟩ := hrel
    have ct := HH.out.tail
    by_cases hlt : k < tl.size
    · have hk64 : k < 64 := by omega
      have cf := HH.out.fr.cell hk64
      have c0 := HH.out.ar.cell (i := k * 3) (by omega)
      have c1 := HH.out.ar.cell (i := k * 3 + 1) (by omega)
      have c2 := HH.out.ar.cell (i := k * 3 + 2) (by omega)
      have ff := HH.out.ar.frozen
      generalize chCell (arCh tl.data.toList F k) (k * 3) = v0 at *
      generalize chCell (arCh tl.data.toList F k) (k * 3 + 1) = v1 at *
      generalize chCell (arCh tl.data.toList F k) (k * 3 + 2) = v2 at *
      obtain ⟨X, hX⟩ : ∃ X, X = (((wr.setCell ⟨w.heap.size + 1 + 1 + 1, k * 3, none⟩ (.string (tl.extract k (k + 1)))).setCell ⟨w.heap.size + 1 + 1 + 1, k * 3 + 1, none⟩ (.int .i32 (F k))).setCell ⟨w.heap.size + 1 + 1 + 1, k * 3 + 2, none⟩ (.int .u8 (k : Int))) := ⟨_, rfl⟩
      have HN := HH.out.next hlt
      rw [← hX] at HN
      have HND := Lib.hid HN.drew
      have HX := Lib.hid hX
      clear HN hX
      go_wp2_with fail
      go_region
      all_goals
        go_wp2
        go_roundw
        case rel => exact ⟨k + 1, by omega, by go_num, by rw [← HX.out]; exact HND.out⟩
        case measure => simp [intOf]; omega
    · have hkm : k = tl.size := by omega
      subst hkm
      have HSO := Lib.hid (sort_at (srtCh (w.heap.size + 1 + 1 + 1)) swoCh (by omega) (by omega) (arCh tl.data.toList F tl.size) wr ⟨by simp [arCh], HH.out.ar⟩)
      go_wp2_with fail
      refine HSO.out.mono ?_
      rintro e w2 ⟨rfl, d, hp, hs, ha⟩
      have HP := Lib.hid hp
      have HSR := Lib.hid hs
      have HLEN : Hid (d.size = 64) := ha.inv.len
      have HONE : Hid (∀ i, i < 64 → d[i]!.1.size ≤ 1) := by
        have h := permIn_all (arCh tl.data.toList F tl.size) d 0 64 (fun x => x.1.size ≤ 1) (by simp [arCh]) hp (fun i _ hi => by
          rw [arCh_at _ _ _ _ hi]
          unfold elCh
          split
          · exact Nat.le_refl 1
          · exact Nat.zero_le 1)
        exact fun i hi => h i (Nat.zero_le _) hi
      have hw2 : w.heap.size + 1 + 1 + 1 < w2.heap.size := ha.inv.row.lt
      have HK0 : Hid (SK w w2.heap.size d ⟨#[]⟩ ⟨#[]⟩ (w2.alloc (.cells #[.string ⟨#[]⟩, .string ⟨#[]⟩] 74))) := by
        refine ⟨?_, ha.inv.row.alloc _, ?_, ?_, hw2⟩
        · have := World.rowIs_alloc w2 #[.string ⟨#[]⟩, .string ⟨#[]⟩] 74 (fun i => if i = 0 then .string ⟨#[]⟩ else .string ⟨#[]⟩) (fun i hi => by
            have : i = 0 ∨ i = 1 := by simp at hi; omega
            rcases this with rfl | rfl <;> rfl)
          exact this
        · have hlt3 := HH.out.ar.lt
          rw [RowKit.Below.heap_alloc _ _ _ (by omega), ha.gr.block _ (by omega) (fun e => by injection e with e; omega)]
          exact HH.out.res
        · exact (HH.out.bel.trans (below_of_only ha.gr HH.out.bel.size (by omega))).alloc (by have := HH.out.bel.size; have := ha.gr.size; omega) _
      clear hp hs ha HH HSO ct hlt hk
      go_wp2_with fail
      generalize (w2.alloc (.cells #[.string ⟨#[]⟩, .string ⟨#[]⟩] 74)) = W2 at *
      generalize w2.heap.size = M at *
      go_loopw [39] (fun x wr => ∃ (k : Nat) (hk tk : ByteArray), k ≤ 64 ∧ x = .int .i64 k ∧ Hid (SK w M d hk tk wr) ∧ Hid (hk.data.toList = headOf (d.toList.take k)) ∧ Hid (tk.data.toList = tailOf (d.toList.take k)) ∧ hk.size ≤ k ∧ tk.size ≤ k) (fun x _ => 64 - (intOf x).toNat)
      case atStart => exact ⟨0, ⟨#[]⟩, ⟨#[]⟩, by omega, rfl, HK0.out, rfl, rfl, Nat.le_refl 0, Nat.le_refl 0⟩
      case round =>
        clear HK0
        obtain ⟨k, hk, tk, hk64, rfl, HK, HHD, HTL, hhs, hts⟩ := hrel
        by_cases hlt : k < 64
        · have hcell := ChIn.cells (blk := w.heap.size + 1 + 1 + 1) (d := d) ⟨HLEN.out, HK.out.ar⟩ hlt
          obtain ⟨a0, a1, a2⟩ := hcell
          have hone := HONE.out k hlt
          have HTK : Hid (d.toList.take (k + 1) = d.toList.take k ++ [d[k]!]) := by
            have hkd : k < d.size := by rw [HLEN.out]; exact hlt
            show _ = _
            rw [List.take_succ_eq_append_getElem (by simpa using hkd), getElem!_pos d k hkd]
            simp
          have HW := Lib.hid (HK.out.alloc (.cells #[.string d[k]!.1, .int .i32 d[k]!.2.1, .int .u8 (d[k]!.2.2 : Int)] 134))
          have HX0 : Hid ((wr.alloc (.cells #[.string d[k]!.1, .int .i32 d[k]!.2.1, .int .u8 (d[k]!.2.2 : Int)] 134)).cell? ⟨wr.heap.size, 0, none⟩ = some (.string d[k]!.1)) := (Lib.cell_of_heap (heap_alloc_new wr _) _).trans rfl
          have hMw : M < wr.heap.size := HK.out.mini.lt
          have HD1 : Hid (∀ b, isHead d[k]!.1 = b → headOf (d.toList.take (k + 1)) = headOf (d.toList.take k) ++ (if b = true then d[k]!.1.data.toList else [])) := fun b hb => by rw [HTK.out, headOf_snoc, hb]
          have HD2 : Hid (tailOf (d.toList.take (k + 1)) = tailOf (d.toList.take k) ++ d[k]!.1.data.toList) := by rw [HTK.out]; exact tailOf_snoc _ _
          generalize d[k]!.1 = ch at *
          generalize d[k]!.2.1 = cn at *
          generalize d[k]!.2.2 = cx at *
          have hszt : (tk ++ ch).size = tk.size + ch.size := ByteArray.size_append
          have hszh : (hk ++ ch).size = hk.size + ch.size := ByteArray.size_append
          have HTN : Hid ((tk ++ ch).data.toList = tailOf (d.toList.take (k + 1))) := by show _ = _; rw [data_app, HTL.out, HD2.out]
          have e48 : (ByteArray.toList ⟨#[48]⟩) = [48] := by decide +kernel
          have e57 : (ByteArray.toList ⟨#[57]⟩) = [57] := by decide +kernel
          cases hb1 : Op.bytesLess ch.toList [48] with
          | true =>
            have hih : isHead ch = true := by unfold isHead; rw [hb1]; rfl
            have HHN : Hid ((hk ++ ch).data.toList = headOf (d.toList.take (k + 1))) := by show _ = _; rw [data_app, HHD.out, HD1.out true hih]; simp
            go_upto_region 11 with fail
            have x0 := HX0.out
            generalize (wr.alloc (.cells #[.string ch, .int .i32 cn, .int .u8 (cx : Int)] 134)) = W at *
            obtain ⟨m0, m1⟩ := HW.out.cells
            have mf := HW.out.mini.frozen
            have HW1 := Lib.hid (HW.out.head (hk ++ ch))
            have m1' := HW1.out.cells.2
            have mf' := HW1.out.mini.frozen
            have x0' : (W.setCell ⟨M, 0, none⟩ (.string (hk ++ ch))).cell? ⟨wr.heap.size, 0, none⟩ = some (.string ch) := (World.cell?_of_block (RowKit.Below.heap_setCell W ⟨M, 0, none⟩ _ wr.heap.size (by show wr.heap.size ≠ M; omega))).trans x0
            have HW2 := Lib.hid (HW1.out.tail (tk ++ ch))
            go_wp2
            go_roundw
            case rel => exact ⟨k + 1, hk ++ ch, tk ++ ch, by omega, by go_num, HW2.out, HHN.out, HTN.out, by omega, by omega⟩
            case measure => simp [intOf]; omega
          | false =>
            cases hb2 : Op.bytesLess ch.toList [57] with
            | true =>
              have hih : isHead ch = false := by unfold isHead; rw [hb1, hb2]; rfl
              have HHN : Hid (hk.data.toList = headOf (d.toList.take (k + 1))) := by show _ = _; rw [HHD.out, HD1.out false hih]; simp
              go_upto_region 11 with fail
              have x0 := HX0.out
              generalize (wr.alloc (.cells #[.string ch, .int .i32 cn, .int .u8 (cx : Int)] 134)) = W at *
              obtain ⟨m0, m1⟩ := HW.out.cells
              have mf := HW.out.mini.frozen
              have HW2 := Lib.hid (HW.out.tail (tk ++ ch))
              go_wp2
              go_roundw
              case rel => exact ⟨k + 1, hk, tk ++ ch, by omega, by go_num, HW2.out, HHN.out, HTN.out, by omega, by omega⟩
              case measure => simp [intOf]; omega
            | false =>
              cases hb3 : (ch.toList == [57]) with
              | true =>
                have hih : isHead ch = false := by unfold isHead; rw [hb1, hb2, hb3]; rfl
                have HHN : Hid (hk.data.toList = headOf (d.toList.take (k + 1))) := by show _ = _; rw [HHD.out, HD1.out false hih]; simp
                go_upto_region 11 with fail
                have x0 := HX0.out
                generalize (wr.alloc (.cells #[.string ch, .int .i32 cn, .int .u8 (cx : Int)] 134)) = W at *
                obtain ⟨m0, m1⟩ := HW.out.cells
                have mf := HW.out.mini.frozen
                have HW2 := Lib.hid (HW.out.tail (tk ++ ch))
                go_wp2
                go_roundw
                case rel => exact ⟨k + 1, hk, tk ++ ch, by omega, by go_num, HW2.out, HHN.out, HTN.out, by omega, by omega⟩
                case measure => simp [intOf]; omega
              | false =>
                have hih : isHead ch = true := by unfold isHead; rw [hb1, hb2, hb3]; rfl
                have HHN : Hid ((hk ++ ch).data.toList = headOf (d.toList.take (k + 1))) := by show _ = _; rw [data_app, HHD.out, HD1.out true hih]; simp
                go_upto_region 11 with fail
                have x0 := HX0.out
                generalize (wr.alloc (.cells #[.string ch, .int .i32 cn, .int .u8 (cx : Int)] 134)) = W at *
                obtain ⟨m0, m1⟩ := HW.out.cells
                have mf := HW.out.mini.frozen
                have HW1 := Lib.hid (HW.out.head (hk ++ ch))
                have m1' := HW1.out.cells.2
                have mf' := HW1.out.mini.frozen
                have x0' : (W.setCell ⟨M, 0, none⟩ (.string (hk ++ ch))).cell? ⟨wr.heap.size, 0, none⟩ = some (.string ch) := (World.cell?_of_block (RowKit.Below.heap_setCell W ⟨M, 0, none⟩ _ wr.heap.size (by show wr.heap.size ≠ M; omega))).trans x0
                have HW2 := Lib.hid (HW1.out.tail (tk ++ ch))
                go_wp2
                go_roundw
                case rel => exact ⟨k + 1, hk ++ ch, tk ++ ch, by omega, by go_num, HW2.out, HHN.out, HTN.out, by omega, by omega⟩
                case measure => simp [intOf]; omega
        · have hk4 : k = 64 := by omega
          subst hk4
          have hall : d.toList.take 64 = d.toList := List.take_of_length_le (by have := HLEN.out; simp; omega)
          rw [hall] at HHD HTL
          obtain ⟨m0, m1⟩ := HK.out.cells
          have hr := HK.out.res
          have r0 : wr.cell? ⟨w.heap.size + 1 + 1, 0, none⟩ = some (.string ⟨#[]⟩) := (Lib.cell_of_heap hr _).trans rfl
          have r1 : wr.cell? ⟨w.heap.size + 1 + 1, 1, none⟩ = some (.string ⟨#[]⟩) := (Lib.cell_of_heap hr _).trans rfl
          have rf : ∀ o, wr.frozen? ⟨w.heap.size + 1 + 1, o, none⟩ = false := fun o => by simp [World.frozen?, hr]
          have HBL := Lib.hid ((HK.out.bel.setCell (p := ⟨w.heap.size + 1 + 1, 0, none⟩) (by show w.heap.size ≤ w.heap.size + 1 + 1; omega) (.string hk)).setCell (p := ⟨w.heap.size + 1 + 1, 1, none⟩) (by show w.heap.size ≤ w.heap.size + 1 + 1; omega) (.string tk))
          have rr0 : (wr.setCell ⟨w.heap.size + 1 + 1, 0, none⟩ (.string hk)).cell? ⟨w.heap.size + 1 + 1, 0, none⟩ = some (.string hk) := World.cell?_setCell_same _ _ _ r0
          have rr1 : (wr.setCell ⟨w.heap.size + 1 + 1, 0, none⟩ (.string hk)).cell? ⟨w.heap.size + 1 + 1, 1, none⟩ = some (.string ⟨#[]⟩) := (World.cell?_setCell_other _ _ _ _ (by simp)).trans r1
          have rr2 : ((wr.setCell ⟨w.heap.size + 1 + 1, 0, none⟩ (.string hk)).setCell ⟨w.heap.size + 1 + 1, 1, none⟩ (.string tk)).cell? ⟨w.heap.size + 1 + 1, 1, none⟩ = some (.string tk) := World.cell?_setCell_same _ _ _ rr1
          clear hr hall
          go_wp2
          refine bodyPost_ret (v := .agg #[.string hk, .string tk]) (by simp [results, Tryd.results54, go_sem, rr0, rr2]) rfl ?_
          exact ⟨hk, tk, d, rfl, HP.out, HSR.out, HHD.out, HTL.out, HBL.out⟩
end Go.Proofs.YtbkgbnejmgjiiaaDoor
