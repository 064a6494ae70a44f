/- The methods of the array of characters that are counted: Less and Swap. Conditions: 64 elements. -/
import Derived.Test.YtbkgbnejmgjiiaaDoorWSortA
import Derived.Sort.LotA
namespace Go.Proofs.YtbkgbnejmgjiiaaDoor
open Go.RowKit Go.Lib Go.Sort

/-- a character, how often it was counted, its index -/
abbrev Ch := ByteArray × Int × Nat
def ltCh (x y : Ch) : Bool := decide (x.2.1 > y.2.1) || (decide (x.2.1 = y.2.1) && decide (x.2.2 < y.2.2))
theorem ltCh_iff (x y : Ch) : ltCh x y = true ↔ x.2.1 > y.2.1 ∨ (x.2.1 = y.2.1 ∧ x.2.2 < y.2.2) := by simp [ltCh]
theorem ltCh_not (x y : Ch) : ltCh x y = false ↔ x.2.1 < y.2.1 ∨ (x.2.1 = y.2.1 ∧ y.2.2 ≤ x.2.2) := by
  rw [← Bool.not_eq_true, ltCh_iff]
  omega
theorem swoCh : SWO ltCh where
  irrefl x := by rw [ltCh_not]; omega
  trans x y z h1 h2 := by rw [ltCh_iff] at *; omega
  ntrans x y z h1 h2 := by rw [ltCh_not] at *; omega
def chCell (d : Array Ch) (k : Nat) : Value := if k % 3 = 0 then .string d[k / 3]!.1 else if k % 3 = 1 then .int .i32 d[k / 3]!.2.1 else .int .u8 (d[k / 3]!.2.2 : Int)
theorem chCell_at (d : Array Ch) (i : Nat) : chCell d (i * 3) = .string d[i]!.1 ∧ chCell d (i * 3 + 1) = .int .i32 d[i]!.2.1 ∧ chCell d (i * 3 + 2) = .int .u8 (d[i]!.2.2 : Int) := by
  have a1 : (i * 3) % 3 = 0 := by omega
  have a2 : (i * 3) / 3 = i := by omega
  have b1 : (i * 3 + 1) % 3 = 1 := by omega
  have b2 : (i * 3 + 1) / 3 = i := by omega
  have c1 : (i * 3 + 2) % 3 = 2 := by omega
  have c2 : (i * 3 + 2) / 3 = i := by omega
  refine ⟨?_, ?_, ?_⟩
  · unfold chCell; rw [a1, a2]; rfl
  · unfold chCell; rw [b1, b2]; rfl
  · unfold chCell; rw [c1, c2]; rfl
/-- the array lies in its block -/
structure ChIn (blk : Nat) (d : Array Ch) (W : World) : Prop where
  len : d.size = 64
  row : W.rowIs blk 134 192 (chCell d)
theorem ChIn.cells {blk : Nat} {d : Array Ch} {W : World} (h : ChIn blk d W) {i : Nat} (hi : i < 64) : W.cell? ⟨blk, i * 3, none⟩ = some (.string d[i]!.1) ∧ W.cell? ⟨blk, i * 3 + 1, none⟩ = some (.int .i32 d[i]!.2.1) ∧ W.cell? ⟨blk, i * 3 + 2, none⟩ = some (.int .u8 (d[i]!.2.2 : Int)) := by
  obtain ⟨h1, h2, h3⟩ := chCell_at d i
  exact ⟨(h.row.cell (by omega)).trans (by rw [h1]), (h.row.cell (by omega)).trans (by rw [h2]), (h.row.cell (by omega)).trans (by rw [h3])⟩

set_option maxHeartbeats 4000000 in
set_option maxRecDepth 100000 in
theorem lessCh (blk : Nat) (d : Array Ch) (W : World) (i j : Nat) (h : ChIn blk d W) (hi : i < 64) (hj : j < 64) :
    Calls Tryd.prog 102 #[.slice (some ⟨blk, 0, none⟩) 64 64, .int .i64 i, .int .i64 j] W fun e w' => e = .returned (.bool (ltCh d[i]! d[j]!)) ∧ RowKit.Below W.heap.size W w' := by
  obtain ⟨a0, a1, a2⟩ := h.cells hi
  obtain ⟨b0, b1, b2⟩ := h.cells hj
  have hb := h.row.lt
  clear h
  have HE : Hid (ltCh d[i]! d[j]! = (decide (d[j]!.2.1 < d[i]!.2.1) || (decide (d[i]!.2.1 = d[j]!.2.1) && decide (d[i]!.2.2 < d[j]!.2.2)))) := rfl
  generalize d[i]!.1 = c1 at *
  generalize d[i]!.2.1 = n1 at *
  generalize d[i]!.2.2 = x1 at *
  generalize d[j]!.1 = c2 at *
  generalize d[j]!.2.1 = n2 at *
  generalize d[j]!.2.2 = x2 at *
  rw [HE.out]
  clear HE
  have HBB : Hid (∀ o1 o2, RowKit.Below W.heap.size W ((W.alloc o1).alloc o2)) := fun o1 o2 => ((RowKit.Below.refl _ _).alloc (Nat.le_refl _) _).alloc (by simp) _
  go_enter Tryd.func102, Tryd.ntmps102
  rcases Int.lt_trichotomy n1 n2 with hn | hn | hn
  · have d1 : decide (n2 < n1) = false := decide_eq_false (by omega)
    have d2 : decide (n1 = n2) = false := decide_eq_false (by omega)
    rw [d1, d2]
    go_wp2
    go_ret
    exact ⟨rfl, HBB.out _ _⟩
  · subst hn
    have d1 : decide (n1 < n1) = false := decide_eq_false (by omega)
    rw [d1]
    by_cases hx : x1 < x2
    · have d3 : decide (x1 < x2) = true := decide_eq_true hx
      rw [d3]
      go_wp2
      go_ret
      exact ⟨by simp, HBB.out _ _⟩
    · have d3 : decide (x1 < x2) = false := decide_eq_false hx
      rw [d3]
      go_wp2
      go_ret
      exact ⟨by simp, HBB.out _ _⟩
  · have d1 : decide (n2 < n1) = true := decide_eq_true (by omega)
    rw [d1]
    go_wp2
    go_ret
    exact ⟨rfl, HBB.out _ _⟩

set_option maxHeartbeats 4000000 in
set_option maxRecDepth 100000 in
theorem swapCh (blk : Nat) (d : Array Ch) (W : World) (i j : Nat) (h : ChIn blk d W) (hi : i < 64) (hj : j < 64) :
    Calls Tryd.prog 103 #[.slice (some ⟨blk, 0, none⟩) 64 64, .int .i64 i, .int .i64 j] W fun e w' => e = .returned (.tuple #[]) ∧ ChIn blk (swp d i j) w' ∧ W.grownBy w' (some blk) := by
  obtain ⟨a0, a1, a2⟩ := h.cells hi
  obtain ⟨b0, b1, b2⟩ := h.cells hj
  have fx := h.row.frozen
  have hb := h.row.lt
  have H := Lib.hid h
  clear h
  generalize hc1 : d[i]!.1 = c1 at *
  generalize hn1 : d[i]!.2.1 = n1 at *
  generalize hx1 : d[i]!.2.2 = x1 at *
  generalize hc2 : d[j]!.1 = c2 at *
  generalize hn2 : d[j]!.2.1 = n2 at *
  generalize hx2 : d[j]!.2.2 = x2 at *
  have HEI : Hid (d[i]! = (c1, n1, x1)) := by rw [← hc1, ← hn1, ← hx1]; exact rfl
  have HEJ : Hid (d[j]! = (c2, n2, x2)) := by rw [← hc2, ← hn2, ← hx2]; exact rfl
  clear hc1 hn1 hx1 hc2 hn2 hx2
  have HR1 := Lib.hid (((H.out.row.set (i * 3) (.string c2)).set (i * 3 + 1) (.int .i32 n2)).set (i * 3 + 2) (.int .u8 (x2 : Int)))
  obtain ⟨v0, q0⟩ : ∃ v, (((W.setCell ⟨blk, i * 3, none⟩ (.string c2)).setCell ⟨blk, i * 3 + 1, none⟩ (.int .i32 n2)).setCell ⟨blk, i * 3 + 2, none⟩ (.int .u8 (x2 : Int))).cell? ⟨blk, j * 3, none⟩ = some v := ⟨_, HR1.out.cell (by omega)⟩
  obtain ⟨v1, q1⟩ : ∃ v, (((W.setCell ⟨blk, i * 3, none⟩ (.string c2)).setCell ⟨blk, i * 3 + 1, none⟩ (.int .i32 n2)).setCell ⟨blk, i * 3 + 2, none⟩ (.int .u8 (x2 : Int))).cell? ⟨blk, j * 3 + 1, none⟩ = some v := ⟨_, HR1.out.cell (by omega)⟩
  obtain ⟨v2, q2⟩ : ∃ v, (((W.setCell ⟨blk, i * 3, none⟩ (.string c2)).setCell ⟨blk, i * 3 + 1, none⟩ (.int .i32 n2)).setCell ⟨blk, i * 3 + 2, none⟩ (.int .u8 (x2 : Int))).cell? ⟨blk, j * 3 + 2, none⟩ = some v := ⟨_, HR1.out.cell (by omega)⟩
  have HR2 := Lib.hid (((HR1.out.set (j * 3) (.string c1)).set (j * 3 + 1) (.int .i32 n1)).set (j * 3 + 2) (.int .u8 (x1 : Int)))
  have HG2 : Hid (W.grownBy ((((((W.setCell ⟨blk, i * 3, none⟩ (.string c2)).setCell ⟨blk, i * 3 + 1, none⟩ (.int .i32 n2)).setCell ⟨blk, i * 3 + 2, none⟩ (.int .u8 (x2 : Int))).setCell ⟨blk, j * 3, none⟩ (.string c1)).setCell ⟨blk, j * 3 + 1, none⟩ (.int .i32 n1)).setCell ⟨blk, j * 3 + 2, none⟩ (.int .u8 (x1 : Int))) (some blk)) :=
    only_setCell (only_setCell (only_setCell (only_setCell (only_setCell (only_setCell (grownBy_refl W (some blk)) (.inl rfl) _) (.inl rfl) _) (.inl rfl) _) (.inl rfl) _) (.inl rfl) _) (.inl rfl) _
  have HL : Hid ((swp d i j).size = 64) := (size_swp _ _ _).trans H.out.len
  have HV : Hid (∀ k, k < 192 → (if k = j * 3 + 2 then Value.int .u8 (x1 : Int) else if k = j * 3 + 1 then .int .i32 n1 else if k = j * 3 then .string c1 else if k = i * 3 + 2 then .int .u8 (x2 : Int) else if k = i * 3 + 1 then .int .i32 n2 else if k = i * 3 then .string c2 else chCell d k) = chCell (swp d i j) k) := by
    intro k hk
    have hg : (swp d i j)[k / 3]! = if k / 3 = j then d[i]! else if k / 3 = i then d[j]! else d[k / 3]! := swp_get d (by rw [H.out.len]; exact hi) (by rw [H.out.len]; exact hj) (k / 3)
    have h3 : k % 3 = 0 ∨ k % 3 = 1 ∨ k % 3 = 2 := by omega
    unfold chCell
    rw [hg]
    by_cases ej : k / 3 = j
    · rw [if_pos ej, HEI.out]
      rcases h3 with h | h | h
      · rw [if_neg (by omega), if_neg (by omega), if_pos (by omega), h]; rfl
      · rw [if_neg (by omega), if_pos (by omega), h]; rfl
      · rw [if_pos (by omega), h]; rfl
    · rw [if_neg ej, if_neg (by omega), if_neg (by omega), if_neg (by omega)]
      by_cases ei : k / 3 = i
      · rw [if_pos ei, HEJ.out]
        rcases h3 with h | h | h
        · rw [if_neg (by omega), if_neg (by omega), if_pos (by omega), h]; rfl
        · rw [if_neg (by omega), if_pos (by omega), h]; rfl
        · rw [if_pos (by omega), h]; rfl
      · rw [if_neg ei, if_neg (by omega), if_neg (by omega), if_neg (by omega)]
  have HRF := Lib.hid (HR2.out.congr (g := chCell (swp d i j)) HV.out)
  clear HR1 HR2 HV
  obtain ⟨X, hX⟩ : ∃ X, X = ((((((W.setCell ⟨blk, i * 3, none⟩ (.string c2)).setCell ⟨blk, i * 3 + 1, none⟩ (.int .i32 n2)).setCell ⟨blk, i * 3 + 2, none⟩ (.int .u8 (x2 : Int))).setCell ⟨blk, j * 3, none⟩ (.string c1)).setCell ⟨blk, j * 3 + 1, none⟩ (.int .i32 n1)).setCell ⟨blk, j * 3 + 2, none⟩ (.int .u8 (x1 : Int))) := ⟨_, rfl⟩
  rw [← hX] at HRF HG2
  have HX := Lib.hid hX
  have HFIN : Hid (ChIn blk (swp d i j) X.drew ∧ W.grownBy X.drew (some blk)) := ⟨⟨HL.out, HRF.out⟩, only_drew HG2.out⟩
  clear hX HRF HG2 HL HEI HEJ H
  go_enter Tryd.func103, Tryd.ntmps103
  go_region
  all_goals
    go_wp2
    go_end0
    rw [← HX.out]
    exact ⟨rfl, HFIN.out⟩
theorem srtCh (blk : Nat) : Srt blk (.slice (some ⟨blk, 0, none⟩) 64 64) ltCh 64 (ChIn blk) where
  less d W i j h hi hj := (lessCh blk d W i j h hi hj).mono fun _ _ ⟨e, hb⟩ => ⟨e, ⟨h.len, h.row.of_block (hb.block blk h.row.lt)⟩, only_of_below hb _⟩
  swap d W i j h hi hj := swapCh blk d W i j h hi hj
  keep _ _ _ h hb := ⟨h.len, h.row.of_block hb⟩
  below _ _ h := h.row.lt
  len _ _ h := h.len
  small := by omega
  isSlice := ⟨_, _, _, rfl⟩
end Go.Proofs.YtbkgbnejmgjiiaaDoor
