/- sort.breakPatterns over an array whose methods compare and exchange. Conditions: at most 255 elements. Printed by sg5.py. -/
import Derived.Test.YtbkgbnejmgjiiaaDoorWSortE
namespace Go.Proofs.YtbkgbnejmgjiiaaDoor
open Go.RowKit Go.Lib Go.Sort
variable {α : Type}

theorem At.setNew [Inhabited α] {blk : Nat} {rv : Value} {lt : α → α → Bool} {size : Nat} {I : Array α → World → Prop} {w W : World} {d : Array α} (S : Srt blk rv lt size I) (h : At I blk w d W) {p : Addr} (hp : w.heap.size ≤ p.block) (hn : blk ≠ p.block) (v : Value) : At I blk w d (W.setCell p v) :=
  ⟨S.keep d W _ h.inv (Below.heap_setCell W p v blk hn), only_setCell h.gr (.inr hp) v⟩
theorem At.of_swap {I : Array α → World → Prop} {blk : Nat} {w W W' : World} {d d' : Array α} (h : At I blk w d W) (hi : I d' W') (hg : W.grownBy W' (some blk)) : At I blk w d' W' := ⟨hi, only_trans h.gr hg⟩
theorem grownBy_cell {W W' : World} {blk : Nat} (hg : W.grownBy W' (some blk)) {p : Addr} (hp : p.block < W.heap.size) (hn : p.block ≠ blk) : W'.cell? p = W.cell? p :=
  World.cell?_of_block (hg.block p.block hp (fun e => hn (Option.some.inj e)))
theorem grownBy_frozen {W W' : World} {blk : Nat} (hg : W.grownBy W' (some blk)) {p : Addr} (hp : p.block < W.heap.size) (hn : p.block ≠ blk) : W'.frozen? p = W.frozen? p :=
  World.frozen?_of_block (hg.block p.block hp (fun e => hn (Option.some.inj e)))

set_option maxHeartbeats 4000000 in
set_option maxRecDepth 100000 in
theorem breakPatterns_go [Inhabited α] {blk : Nat} {rv : Value} {lt : α → α → Bool} {size : Nat} {I : Array α → World → Prop} (S : Srt blk rv lt size I) (hfew : size ≤ 255) (a L : Nat) (d : Array α) (w : World) (hI : I d w) (hb : a + L ≤ size) (h8 : 8 ≤ L) :
    Calls Tryd.prog 70 #[.iface 132 rv, .int .i64 a, .int .i64 ((a + L : Nat) : Int)] w fun e w' => e = .returned (.tuple #[]) ∧ At I blk w (breakPatterns d a (a + L)) w' := by
  obtain ⟨p, n, c, rfl⟩ := S.isSlice
  have hsz := S.small
  have HS := Lib.hid S
  have HI := Lib.hid hI
  have mS := method_swap p n c
  clear S hI
  have hblk := HS.out.below d w HI.out
  rw [breakPatterns_eq d a L h8]
  obtain ⟨M, hM⟩ : ∃ M : Nat, M = 1 <<< bitsLen L := ⟨_, rfl⟩
  have hM1 : 1 ≤ M := by rw [hM, Nat.one_shiftLeft]; exact Nat.two_pow_pos _
  have hM2 : M ≤ 2 * L := by rw [hM, Nat.one_shiftLeft]; exact two_pow_bitsLen_le (by omega)
  have HNP : Hid (∀ w, Calls Tryd.prog 77 #[.int .i64 (L : Int)] w fun e w' => e = .returned (.int .u64 (M : Int)) ∧ w' = w) := by rw [hM]; exact fun w => nextPower_small L (by omega) w
  rw [← hM]
  clear hM
  have hLz : ((a : Int) + (L : Int) - (a : Int)) = (L : Int) := by omega
  have h8z : (8 : Int) ≤ (L : Int) := by omega
  go_enter Tryd.func70, Tryd.ntmps70
  go_wp2_with fail
  refine (HNP.out _).mono ?_
  rintro e w' ⟨rfl, rfl⟩
  have HA0 : Hid (At I blk w d (w.alloc (.cells #[.int .u64 (L : Int)] 158))) := (At.start HI.out).alloc HS.out _
  have HC0 : Hid ((w.alloc (.cells #[.int .u64 (L : Int)] 158)).cell? ⟨w.heap.size, 0, none⟩ = some (.int .u64 (L : Int))) := (Lib.cell_of_heap (heap_alloc_new w _) _).trans rfl
  have HF0 : Hid ((w.alloc (.cells #[.int .u64 (L : Int)] 158)).frozen? ⟨w.heap.size, 0, none⟩ = false) := World.frozen?_alloc_at _ _ _ _ rfl
  have HLT0 : Hid (w.heap.size < (w.alloc (.cells #[.int .u64 (L : Int)] 158)).heap.size) := by rw [World.size_alloc]; exact Nat.lt_succ_self _
  generalize w.alloc (.cells #[.int .u64 (L : Int)] 158) = W0 at *
  go_wp2
  go_loopg [9] 3 (fun g1 vi wr => ∃ (t : Nat) (r : UInt64) (dk : Array α), vi = .int .i64 ((a : Int) + (L : Int) / 4 * 2 - 1 + (t : Int)) ∧ t ≤ 3 ∧ 3 - t ≤ g1 ∧ Hid (At I blk w dk wr) ∧
      Hid (wr.cell? ⟨w.heap.size, 0, none⟩ = some (.int .u64 (r.toNat : Int))) ∧ Hid (wr.frozen? ⟨w.heap.size, 0, none⟩ = false) ∧ Hid (w.heap.size < wr.heap.size) ∧
      Hid (bpRest a L M (a + L / 4 * 2 - 1) (3 - t) t (r, dk) = bpRest a L M (a + L / 4 * 2 - 1) 3 0 (UInt64.ofNat L, d)))
  case atStart =>
    refine ⟨0, UInt64.ofNat L, d, by simp, by omega, by omega, HA0.out, ?_, HF0.out, HLT0.out, rfl⟩
    rw [show (UInt64.ofNat L).toNat = L from by simp; omega]
    exact HC0.out
  case round =>
    clear HA0 HC0 HF0 HLT0
    obtain ⟨t, r, dk, rfl, ht, hg1, HA, HC, HF, HLT, HR⟩ := hrel
    by_cases ht3 : t < 3
    · have hle : (a : Int) + (L : Int) / 4 * 2 - 1 + (t : Int) ≤ (a : Int) + (L : Int) / 4 * 2 + 1 := by omega
      obtain ⟨R, hRr⟩ : ∃ R : Nat, R = r.toNat := ⟨_, rfl⟩
      have lR : R < 18446744073709551616 := by rw [hRr]; exact r.toNat_lt
      obtain ⟨R', hR'⟩ : ∃ R' : Nat, R' = xorNextN R := ⟨_, rfl⟩
      have lR' : R' < 18446744073709551616 := by rw [hR']; exact xorNextN_lt R lR
      obtain ⟨O, hO⟩ : ∃ O : Nat, O = R' &&& (M - 1) := ⟨_, rfl⟩
      have lO : O ≤ M - 1 := by rw [hO]; exact Nat.and_le_right
      have eAnd : bits .and .u64 (R' : Int) ((M : Int) - 1) = (O : Int) := by
        rw [show ((M : Int) - 1) = ((M - 1 : Nat) : Int) by omega, bits_and_u64_nat _ _ lR' (by omega), hO]
      rw [← hRr] at HC
      have HNX : Hid (Calls Tryd.prog 78 #[.pointer (some ⟨w.heap.size, 0, none⟩)] wr fun e w' => e = .returned (.int .u64 (R' : Int)) ∧ w' = (wr.setCell ⟨w.heap.size, 0, none⟩ (.int .u64 (R' : Int))).drewN 3) := by
        rw [hR']; exact xorshift_next _ R lR wr HC.out HF.out
      have HN : Hid (R' = (xorNext r).toNat ∧ O = (xorNext r).toNat &&& (M - 1)) := by
        have e : R' = (xorNext r).toNat := by rw [hR', hRr, xorNext_toNat]
        exact ⟨e, by rw [hO, e]⟩
      clear hRr hR' hO
      have HA2 := Lib.hid ((HA.out.setNew HS.out (p := ⟨w.heap.size, 0, none⟩) (Nat.le_refl _) (by show blk ≠ w.heap.size; omega) (.int .u64 (R' : Int))).drewN HS.out 3)
      have HC2 : Hid (((wr.setCell ⟨w.heap.size, 0, none⟩ (.int .u64 (R' : Int))).drewN 3).cell? ⟨w.heap.size, 0, none⟩ = some (.int .u64 (R' : Int))) := by
        show World.cell? _ _ = _
        rw [World.cell?_drewN]; exact World.cell?_setCell_same _ _ _ HC.out
      have HF2 : Hid (((wr.setCell ⟨w.heap.size, 0, none⟩ (.int .u64 (R' : Int))).drewN 3).frozen? ⟨w.heap.size, 0, none⟩ = false) := by
        show World.frozen? _ _ = _
        rw [World.frozen?_drewN]
        have := HF.out
        simpa using this
      have HLT2 : Hid (w.heap.size < ((wr.setCell ⟨w.heap.size, 0, none⟩ (.int .u64 (R' : Int))).drewN 3).heap.size) := by
        have := HLT.out
        simpa [World.setCell, World.drewN, Hid] using this
      go_wp2_with fail
      refine HNX.out.mono ?_
      rintro e w2 ⟨rfl, rfl⟩
      generalize (wr.setCell ⟨w.heap.size, 0, none⟩ (.int .u64 (R' : Int))).drewN 3 = w2 at *
      clear HNX HA HC HF HLT
      by_cases hLO : L ≤ O
      · have hLOz : (L : Int) ≤ (O : Int) := by omega
        have HSW := Lib.hid (HS.out.swap dk w2 (a + L / 4 * 2 - 1 + t) (a + (O - L)) HA2.out.inv (by omega) (by omega))
        rw [show ((a + L / 4 * 2 - 1 + t : Nat) : Int) = (a : Int) + (L : Int) / 4 * 2 - 1 + (t : Int) by omega, show ((a + (O - L) : Nat) : Int) = (a : Int) + ((O : Int) - (L : Int)) by omega] at HSW
        go_wp2_with fail
        refine HSW.out.mono ?_
        rintro e w3 ⟨rfl, hi3, hg3⟩
        have HA3 := Lib.hid (HA2.out.of_swap hi3 hg3)
        have HC3 : Hid (w3.cell? ⟨w.heap.size, 0, none⟩ = some (.int .u64 (R' : Int))) := (grownBy_cell hg3 (p := ⟨w.heap.size, 0, none⟩) HLT2.out (by show w.heap.size ≠ blk; omega)).trans HC2.out
        have HF3 : Hid (w3.frozen? ⟨w.heap.size, 0, none⟩ = false) := (grownBy_frozen hg3 (p := ⟨w.heap.size, 0, none⟩) HLT2.out (by show w.heap.size ≠ blk; omega)).trans HF2.out
        have HLT3 : Hid (w.heap.size < w3.heap.size) := Nat.lt_of_lt_of_le HLT2.out hg3.size
        have HR3 : Hid (bpRest a L M (a + L / 4 * 2 - 1) (3 - (t + 1)) (t + 1) (xorNext r, swp dk (a + L / 4 * 2 - 1 + t) (a + (O - L))) = bpRest a L M (a + L / 4 * 2 - 1) 3 0 (UInt64.ofNat L, d)) := by
          rw [← HR.out, bp_step a L M _ t r dk (O - L) ht3 (by rw [← HN.out.2, if_pos (by omega)])]; exact rfl
        clear hi3 hg3 HSW HA2 HC2 HF2 HLT2
        go_wp2
        go_roundg (3 - (t + 1))
        case measure => omega
        case rel => exact ⟨t + 1, xorNext r, swp dk (a + L / 4 * 2 - 1 + t) (a + (O - L)), by congr 1; push_cast; omega, by omega, Nat.le_refl _, HA3.out, by rw [← HN.out.1]; exact HC3.out, HF3.out, HLT3.out, HR3.out⟩
      · have hLOz : ¬ (L : Int) ≤ (O : Int) := by omega
        have HSW := Lib.hid (HS.out.swap dk w2 (a + L / 4 * 2 - 1 + t) (a + (O)) HA2.out.inv (by omega) (by omega))
        rw [show ((a + L / 4 * 2 - 1 + t : Nat) : Int) = (a : Int) + (L : Int) / 4 * 2 - 1 + (t : Int) by omega, show ((a + (O) : Nat) : Int) = (a : Int) + (O : Int) by omega] at HSW
        go_wp2_with fail
        refine HSW.out.mono ?_
        rintro e w3 ⟨rfl, hi3, hg3⟩
        have HA3 := Lib.hid (HA2.out.of_swap hi3 hg3)
        have HC3 : Hid (w3.cell? ⟨w.heap.size, 0, none⟩ = some (.int .u64 (R' : Int))) := (grownBy_cell hg3 (p := ⟨w.heap.size, 0, none⟩) HLT2.out (by show w.heap.size ≠ blk; omega)).trans HC2.out
        have HF3 : Hid (w3.frozen? ⟨w.heap.size, 0, none⟩ = false) := (grownBy_frozen hg3 (p := ⟨w.heap.size, 0, none⟩) HLT2.out (by show w.heap.size ≠ blk; omega)).trans HF2.out
        have HLT3 : Hid (w.heap.size < w3.heap.size) := Nat.lt_of_lt_of_le HLT2.out hg3.size
        have HR3 : Hid (bpRest a L M (a + L / 4 * 2 - 1) (3 - (t + 1)) (t + 1) (xorNext r, swp dk (a + L / 4 * 2 - 1 + t) (a + (O))) = bpRest a L M (a + L / 4 * 2 - 1) 3 0 (UInt64.ofNat L, d)) := by
          rw [← HR.out, bp_step a L M _ t r dk (O) ht3 (by rw [← HN.out.2, if_neg (by omega)])]; exact rfl
        clear hi3 hg3 HSW HA2 HC2 HF2 HLT2
        go_wp2
        go_roundg (3 - (t + 1))
        case measure => omega
        case rel => exact ⟨t + 1, xorNext r, swp dk (a + L / 4 * 2 - 1 + t) (a + (O)), by congr 1; push_cast; omega, by omega, Nat.le_refl _, HA3.out, by rw [← HN.out.1]; exact HC3.out, HF3.out, HLT3.out, HR3.out⟩
    · obtain rfl : t = 3 := by omega
      have hle : ¬ ((a : Int) + (L : Int) / 4 * 2 - 1 + ((3 : Nat) : Int) ≤ (a : Int) + (L : Int) / 4 * 2 + 1) := by omega
      go_wp2
      go_end0
      refine ⟨rfl, ?_⟩
      rw [← HR.out]
      exact HA.out

set_option maxHeartbeats 4000000 in
set_option maxRecDepth 100000 in
theorem breakPatterns_at [Inhabited α] {blk : Nat} {rv : Value} {lt : α → α → Bool} {size : Nat} {I : Array α → World → Prop} (S : Srt blk rv lt size I) (hfew : size ≤ 255) (a b : Nat) (d : Array α) (w : World) (hI : I d w) (hab : a ≤ b) (hb : b ≤ size) :
    Calls Tryd.prog 70 #[.iface 132 rv, .int .i64 a, .int .i64 b] w fun e w' => e = .returned (.tuple #[]) ∧ At I blk w (breakPatterns d a b) w' := by
  obtain ⟨L, rfl⟩ : ∃ L, b = a + L := ⟨b - a, by omega⟩
  by_cases h8 : 8 ≤ L
  · exact breakPatterns_go S hfew a L d w hI hb h8
  · have hv : breakPatterns d a (a + L) = d := by unfold breakPatterns; simp only [Nat.add_sub_cancel_left]; rw [if_neg h8]
    rw [hv]
    have hLz : ((a : Int) + (L : Int) - (a : Int)) = (L : Int) := by omega
    have h8z : ¬ (8 : Int) ≤ (L : Int) := by omega
    have HI := Lib.hid hI
    clear hI S
    go_enter Tryd.func70, Tryd.ntmps70
    go_wp2
    go_end0
    exact ⟨rfl, At.start HI.out⟩

end Go.Proofs.YtbkgbnejmgjiiaaDoor
