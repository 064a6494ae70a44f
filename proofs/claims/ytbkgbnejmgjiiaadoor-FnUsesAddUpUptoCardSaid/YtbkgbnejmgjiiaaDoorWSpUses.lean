/- What spec.Uses returns: the uses of each group. Conditions: at most 3000 symbols, uses between 0 and 1000000. -/
import Derived.Test.YtbkgbnejmgjiiaaDoorWImMergeA
namespace Go.Proofs.YtbkgbnejmgjiiaaDoor
open Go.RowKit Go.Deep

theorem u0_at {us : List Int} (hu : okUses us) {i : Nat} (hi : i < us.length) : us[i] = (u0 us i : Int) := by
  have := hu us[i] (List.getElem_mem _)
  simp [u0, hi]
  omega
theorem u0_none {us : List Int} {i : Nat} (hi : ¬ i < us.length) : u0 us i = 0 := by
  simp [u0, hi]
set_option maxHeartbeats 4000000 in
set_option maxRecDepth 100000 in
theorem spUses_any (A U : Option Addr) (N m c d : Nat) (g : Nat → Nat) (us : List Int) (w : World) (hr : Reads w w.heap.size 1 A N (intCells ((List.range N).map fun j => (g j : Int)))) (hN : N ≤ 3000) (hg : ∀ j, j < N → g j < N)
    (hru : Reads w w.heap.size 1 U m (intCells us)) (hmu : m = us.length) (hmm : m ≤ 9223372036854775807) (hu : okUses us) :
    Calls Tryd.prog 33 #[.slice A N c, .slice U m d] w fun e w' => e = .returned (.slice (some ⟨w.heap.size, 0, none⟩) N N) ∧ w'.rowIs w.heap.size 3 N (fun r => .int .i64 (usum N (u0 us) g r : Int)) ∧ Below w.heap.size w w' := by
  have HR := Lib.hid hr
  have HG := Lib.hid hg
  have HRU := Lib.hid hru
  have HMU := Lib.hid hmu
  have HU := Lib.hid hu
  clear hr hg hru hmu hu
  have hmk := run_make_row' (P := Tryd.prog) 40 3 (.int .i64 0) 8 Tryd.underlying40 info3m rfl .i64 .i64 N (by omega) (by omega)
  go_enter Tryd.func33, Tryd.ntmps33
  go_wp2
  have HR0 : Hid ((w.alloc (.cells (madeCells #[.int .i64 0] N) 3)).rowIs w.heap.size 3 N (fun r => .int .i64 (usum 0 (u0 us) g r : Int))) := (World.rowIs_made w (.int .i64 0) N 3).congr (fun j _ => by simp [usum])
  have HB0 : Hid (Below w.heap.size w (w.alloc (.cells (madeCells #[.int .i64 0] N) 3))) := (Below.refl _ _).alloc (Nat.le_refl _) _
  generalize (w.alloc (.cells (madeCells #[.int .i64 0] N) 3)) = W0 at *
  clear hmk
  go_loopw [13] (fun x wr => ∃ k : Nat, k ≤ N ∧ x = .int .i64 k ∧ Hid (wr.rowIs w.heap.size 3 N (fun r => .int .i64 (usum k (u0 us) g r : Int))) ∧ Hid (Below w.heap.size w wr)) (fun x _ => N - (intOf x).toNat)
  case atStart => exact ⟨0, by omega, rfl, HR0.out, HB0.out⟩
  case round =>
    clear HR0 HB0
    obtain ⟨k, hk, rfl, HRW, HB⟩ := hrel
    by_cases hlt : k < N
    · obtain ⟨b, off, rfl, hbB, c0⟩ := HR.out.int (k := k) (by simpa using hlt) HB.out
      simp only [List.getElem_map, List.getElem_range] at c0
      have hgk := HG.out k hlt
      by_cases hm : k < m
      · have hk3 : k < us.length := by rw [← HMU.out]; exact hm
        obtain ⟨b2, off2, rfl, hbB2, c2⟩ := HRU.out.int hk3 HB.out
        rw [u0_at HU.out hk3] at c2
        have hcap := u0_le HU.out k
        have hsum := usum_le 1000000 k (u0 us) g (u0_le HU.out) (g k)
        have hkk : k * 1000000 ≤ 3000 * 1000000 := Nat.mul_le_mul_right _ (by omega)
        have cx := HRW.out.cell hgk
        have fx := HRW.out.frozen (g k)
        have HN1 : Hid ((wr.setCell ⟨w.heap.size, g k, none⟩ (.int .i64 ((usum k (u0 us) g (g k) : Int) + (u0 us k : Int)))).rowIs w.heap.size 3 N (fun r => .int .i64 (usum (k + 1) (u0 us) g r : Int))) := (HRW.out.set (g k) _).congr (fun j _ => by
          by_cases e : j = g k
          · subst e; rw [if_pos rfl, usum, if_pos rfl]; simp
          · rw [if_neg e, usum, if_neg (fun h => e h.symm)]; simp)
        have HB1 : Hid (∀ v, Below w.heap.size w (wr.setCell ⟨w.heap.size, g k, none⟩ v)) := fun v => HB.out.setCell (p := ⟨w.heap.size, g k, none⟩) (Nat.le_refl _) v
        generalize hGk : g k = G at *
        generalize usum k (u0 us) g G = SU at *
        generalize u0 us k = UK at *
        clear hGk
        go_wp2_with fail
        go_region
        all_goals
          go_wp2
          go_roundw
          case rel => exact ⟨k + 1, by omega, by go_num, HN1.out, (HB1.out _).drew⟩
          case measure => simp [intOf]; omega
      · have HN1 : Hid (wr.rowIs w.heap.size 3 N (fun r => .int .i64 (usum (k + 1) (u0 us) g r : Int))) := HRW.out.congr (fun j _ => by rw [usum, u0_none (by rw [← HMU.out]; exact hm)]; simp)
        generalize g k = G at *
        go_wp2
        go_roundw
        case rel => exact ⟨k + 1, by omega, by go_num, HN1.out, HB.out⟩
        case measure => simp [intOf]; omega
    · have hkN : k = N := by omega
      subst hkN
      go_wp2
      go_ret
      exact ⟨rfl, HRW.out, HB.out⟩
end Go.Proofs.YtbkgbnejmgjiiaaDoor
