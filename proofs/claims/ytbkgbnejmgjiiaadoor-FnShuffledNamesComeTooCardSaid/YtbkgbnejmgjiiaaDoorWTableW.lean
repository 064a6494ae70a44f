/- The walk of impl.table. Conditions: at most 1048576 files, at most 3000 symbols in all, uses between 0 and 1000000. -/
import Derived.Test.YtbkgbnejmgjiiaaDoorWTable
namespace Go.Proofs.YtbkgbnejmgjiiaaDoor
open Go.RowKit Go.Deep

/-- what table has made after k files -/
structure TM (w : World) (S N n : Nat) (sz : List Nat) (us : List Int) (k : Nat) (B : Nat → Nat) (v : Value) (m : Nat) (wr : World) : Prop where
  tu : TU S n sz (uf0 sz us) N k B wr
  own : wr.ownsRow N 100 2 v m (rfCells (refsTo sz m))
  apart : ∀ g, v.ownBlock = some g → ∀ f, f < k → g ≠ B f
  bel : Below w.heap.size w wr
  big : N ≤ wr.heap.size
  box : wr.cell? ⟨S + 1, 0, none⟩ = some (.slice (some ⟨S, 0, none⟩) n n)
  S_lt : S + 1 < N
  S_ge : w.heap.size < S
  res : wr.heap[w.heap.size]? = some (.cells #[.slice none 0 0] 94 (0, 0))

theorem TM.alloc {w : World} {S N n : Nat} {sz : List Nat} {us : List Int} {k : Nat} {B : Nat → Nat} {v : Value} {m : Nat} {wr : World} (h : TM w S N n sz us k B v m wr) (o : Obj) : TM w S N n sz us k B v m (wr.alloc o) :=
  { h with
    tu := h.tu.keep (Below.heap_alloc wr o _ h.tu.outer.lt) (fun f hf => Below.heap_alloc wr o _ (h.tu.inner f hf).lt)
    own := h.own.alloc _
    bel := h.bel.alloc h.bel.size _
    big := by rw [World.size_alloc]; have := h.big; omega
    box := (World.cell?_alloc_lt wr o ⟨S + 1, 0, none⟩ (by have := h.big; have := h.S_lt; show S + 1 < _; omega)).trans h.box
    res := (Below.heap_alloc wr o _ (by have := h.big; have := h.S_lt; have := h.S_ge; omega)).trans h.res }
theorem TM.setNew {w : World} {S N n : Nat} {sz : List Nat} {us : List Int} {k : Nat} {B : Nat → Nat} {v : Value} {m : Nat} {wr : World} (h : TM w S N n sz us k B v m wr) {b : Nat} (hN : N ≤ b) (hB : ∀ f, f < k → b ≠ B f) (hv : v.ownBlock ≠ some b) (o : Nat) (u : Value) : TM w S N n sz us k B v m (wr.setCell ⟨b, o, none⟩ u) :=
  { h with
    tu := h.tu.keep (Below.heap_setCell wr ⟨b, o, none⟩ u S (by have := h.S_lt; show S ≠ b; omega)) (fun f hf => Below.heap_setCell wr ⟨b, o, none⟩ u _ (fun e => hB f hf e.symm))
    own := own_keep h.own (fun g hg => Below.heap_setCell wr ⟨b, o, none⟩ u g (fun e => by subst e; exact hv hg))
    bel := h.bel.setCell (p := ⟨b, o, none⟩) (by have := h.S_lt; have := h.S_ge; show w.heap.size ≤ b; omega) u
    big := by have := h.big; simpa [World.setCell] using this
    box := (World.cell?_of_block (Below.heap_setCell wr ⟨b, o, none⟩ u (S + 1) (by have := h.S_lt; show S + 1 ≠ b; omega))).trans h.box
    res := (Below.heap_setCell wr ⟨b, o, none⟩ u w.heap.size (by have := h.S_lt; have := h.S_ge; show w.heap.size ≠ b; omega)).trans h.res }
theorem TM.app {w : World} {S N n : Nat} {sz : List Nat} {us : List Int} {k : Nat} {B : Nat → Nat} {v v' : Value} {m : Nat} {wr w' : World} (h : TM w S N n sz us k B v m wr) (ho : w'.ownsRow N 100 2 v' (m + 1) (rfCells (refsTo sz (m + 1)))) (hg : wr.grownBy w' v.ownBlock) {x : Nat} (hx : wr.heap.size ≤ x) (hb : v'.ownBlock = v.ownBlock ∨ v'.ownBlock = some x) : TM w S N n sz us k B v' (m + 1) w' :=
  { h with
    tu := h.tu.keep (hg.block S h.tu.outer.lt (fun e => by have := (h.own.lt S e.symm).1; have := h.S_lt; omega)) (fun f hf => hg.block _ (h.tu.inner f hf).lt (fun e => h.apart _ e.symm f hf rfl))
    own := ho
    apart := fun g hv f hf e => by
      rcases hb with hb | hb
      · rw [hb] at hv; exact h.apart g hv f hf e
      · rw [hb] at hv
        injection hv with hv
        have := (h.tu.inner f hf).lt
        omega
    bel := h.bel.grown hg h.bel.size (fun g hgg => by have := (h.own.lt g hgg).1; have := h.S_lt; have := h.S_ge; omega)
    big := Nat.le_trans h.big hg.size
    box := (World.cell?_of_block (hg.block (S + 1) (by have := h.big; have := h.S_lt; omega) (fun e => by have := (h.own.lt (S + 1) e.symm).1; have := h.S_lt; omega))).trans h.box
    res := (hg.block w.heap.size (by have := h.big; have := h.S_lt; have := h.S_ge; omega) (fun e => by have := (h.own.lt _ e.symm).1; have := h.S_lt; have := h.S_ge; omega)).trans h.res }
theorem TM.next {w : World} {S N n : Nat} {sz : List Nat} {us : List Int} {k : Nat} {B : Nat → Nat} {v : Value} {m : Nat} {wr : World} (h : TM w S N n sz us k B v m wr) {b : Nat} (hN : N ≤ b) (hB : ∀ f, f < k → b ≠ B f) (hv : v.ownBlock ≠ some b) (hb : wr.rowIs b 110 (sz.getD k 0 * 10) (symPart (uf0 sz us) k (sz.getD k 0))) :
    TM w S N n sz us (k + 1) (fun f => if f = k then b else B f) v m (wr.setCell ⟨S, k, none⟩ (.slice (some ⟨b, 0, none⟩) (sz.getD k 0) (sz.getD k 0))) :=
  { h with
    tu := h.tu.next (hb.congr (fun j hj => by unfold symPart; rw [if_pos (by omega)])) (by have := h.S_lt; omega) hB hN
    own := own_keep h.own (fun g hg => Below.heap_setCell wr ⟨S, k, none⟩ _ g (by have := (h.own.lt g hg).1; have := h.S_lt; show g ≠ S; omega))
    apart := fun g hg f hf => by
      by_cases e : f = k
      · rw [if_pos e]; intro e2; subst e2; exact hv hg
      · rw [if_neg e]; exact h.apart g hg f (by omega)
    bel := h.bel.setCell (p := ⟨S, k, none⟩) (by have := h.S_ge; show w.heap.size ≤ S; omega) _
    big := by have := h.big; simpa [World.setCell] using this
    box := (World.cell?_of_block (Below.heap_setCell wr ⟨S, k, none⟩ _ (S + 1) (by show S + 1 ≠ S; omega))).trans h.box
    res := (Below.heap_setCell wr ⟨S, k, none⟩ _ w.heap.size (by have := h.S_ge; show w.heap.size ≠ S; omega)).trans h.res }
theorem TM.done {w : World} {S N n : Nat} {sz : List Nat} {us : List Int} {B : Nat → Nat} {v : Value} {m : Nat} {wr : World} (h : TM w S N n sz us n B v m wr) (hn : n ≤ 1048576) (hs : ∀ f, sz.getD f 0 ≤ 3000) : Tab ⟨S, n, B, fun f => sz.getD f 0⟩ w.heap.size (uf0 sz us) wr where
  outer := h.tu.outer.congr (fun j hj => by rw [if_pos hj])
  inner := h.tu.inner
  inj := h.tu.inj
  ne := h.tu.ne
  geS := by have := h.S_ge; show w.heap.size ≤ S; omega
  geB := fun f hf => by have := h.tu.ge f hf; have := h.S_lt; have := h.S_ge; show w.heap.size ≤ B f; omega
  few := hn
  small := fun f _ => hs f
theorem own_lower {w : World} {base base' size n : Nat} {e : TypeId} {v : Value} {xs : List Value} (h : w.ownsRow base e size v n xs) (hb : base' ≤ base) : w.ownsRow base' e size v n xs := by
  refine ⟨h.1, ?_⟩
  rcases h.2 with h2 | ⟨g, cap, cur, rfl, h3, h4⟩
  · exact .inl h2
  · exact .inr ⟨g, cap, cur, rfl, Nat.le_trans hb h3, h4⟩
theorem reads_new (w : World) (cs : Array Value) (t : TypeId) {b : Nat} (hb : b = w.heap.size) : Reads (w.alloc (.cells cs t)) (b + 1) cs.size (some ⟨b, 0, none⟩) 1 cs.toList := by
  subst hb
  refine ⟨by simp, fun _ => ⟨_, rfl, Nat.lt_succ_self _, fun j u hu => ?_⟩⟩
  have e : (Addr.add ⟨w.heap.size, 0, none⟩ j) = ⟨w.heap.size, j, none⟩ := by
    unfold Addr.add
    by_cases hj : j = 0 <;> simp [hj]
  rw [e, Lib.cell_of_heap (heap_alloc_new w (.cells cs t))]
  simpa using hu
theorem rowIs_grown {v : Value} {wr w' : World} (hg : wr.grownBy w' v.ownBlock) {b L : Nat} {f : Nat → Value} (hr : wr.rowIs b 110 L f) (hv : v.ownBlock ≠ some b) : w'.rowIs b 110 L f :=
  hr.of_block (hg.block b hr.lt (fun e => hv e.symm))

set_option maxHeartbeats 4000000 in
set_option maxRecDepth 100000 in
theorem table_any (A U : Option Addr) (n m c d : Nat) (sz : List Nat) (us : List Int) (w : World) (hi : InvRef w) (hr : Reads w w.heap.size 1 A n (intCells (szI sz))) (hn : n = sz.length) (hm : n ≤ 1048576)
    (hru : Reads w w.heap.size 1 U m (intCells us)) (hmu : m = us.length) (hmm : m ≤ 9223372036854775807) (hs : sz.sum ≤ 3000) (hu : okUses us) :
    Calls Tryd.prog 47 #[.slice A n c, .slice U m d] w fun e w' => ∃ T v, e = .returned (.tuple #[.agg #[.slice (some ⟨T.S, 0, none⟩) T.nf T.nf], v]) ∧ T.nf = n ∧ (∀ f, T.sz f = sz.getD f 0) ∧ Tab T w.heap.size (uf0 sz us) w' ∧ w'.ownsRow w.heap.size 100 2 v sz.sum (rfCells (refsTo sz sz.sum)) ∧ (∀ g, v.ownBlock = some g → ∀ f, f < n → g ≠ T.B f) ∧ Below w.heap.size w w' := by
  have HI := Lib.hid hi
  have HR := Lib.hid hr
  have HN := Lib.hid hn
  have HRU := Lib.hid hru
  have HMU := Lib.hid hmu
  have HU := Lib.hid hu
  clear hi hr hn hru hmu hu
  obtain ⟨i0, hi0, hz0, hz1, hz2⟩ := info_parts info100
  go_enter Tryd.func47, Tryd.ntmps47
  go_wp2_with fail
  refine (newMap_any n hm _).mono ?_
  rintro e w1 ⟨rfl, hrow, hsz, hb⟩
  rw [World.size_alloc] at hrow hsz
  have HTM : Hid (TM w (w.heap.size + 1 + 1) (w.heap.size + 1 + 1 + 1 + 1) n sz us 0 (fun _ => 0) (.slice none 0 0) 0 (w1.alloc (.cells #[.slice (some ⟨w.heap.size + 1 + 1, 0, none⟩) n n] 94))) := by
    have hb' : Below w.heap.size w w1 := ((Below.refl _ _).alloc (Nat.le_refl _) _).trans (hb.mono (by simp))
    refine ⟨⟨?_, fun f hf => absurd hf (by omega), fun f g hf => absurd hf (by omega), fun f hf => absurd hf (by omega), fun f hf => absurd hf (by omega)⟩, World.ownsRow_nil _ _ _ _, fun g hg => (by cases hg), hb'.alloc hb'.size _, by rw [World.size_alloc, hsz]; omega, ?_, by omega, by omega, ?_⟩
    · refine (hrow.alloc _).congr (fun j _ => ?_)
      rw [if_neg (by omega)]
    · have := heap_alloc_new w1 (.cells #[.slice (some ⟨w.heap.size + 1 + 1, 0, none⟩) n n] 94)
      rw [hsz] at this
      rw [Lib.cell_of_heap this]
      rfl
    · rw [Below.heap_alloc w1 _ _ (by omega), hb.block _ (by simp)]
      exact heap_alloc_new w _
  have hlS := HTM.out.S_lt
  clear hrow hb
  go_wp2_with fail
  go_loopw [7, 17] (fun v x wr => ∃ k B, k ≤ n ∧ x = .int .i64 k ∧ Hid (TM w (w.heap.size + 1 + 1) (w.heap.size + 1 + 1 + 1 + 1) n sz us k B v (sz.take k).sum wr)) (fun _ x _ => n - (intOf x).toNat)
  case atStart => exact ⟨0, _, by omega, rfl, by show TM _ _ _ _ _ _ _ _ _ _ _; simpa using HTM.out⟩
  case round =>
    clear HTM
    obtain ⟨k, B, hk, rfl, HTM⟩ := hrel
    have hbig := HTM.out.big
    by_cases hlt : k < n
    · have hk2 : k < sz.length := by rw [← HN.out]; exact hlt
      obtain ⟨b, off, rfl, hbB, c0⟩ := HR.out.int (k := k) (by rw [szI_length]; exact hk2) HTM.out.bel
      rw [szI_get] at c0
      have hle : sz[k] ≤ 3000 := Nat.le_trans (mem_le_sum hk2) hs
      have HGD : Hid (sz.getD k 0 = sz[k]) := by show _ = _; simp [List.getD, hk2]
      have HSN := Lib.hid (nsum_take_succ sz k hk2)
      have HSL := Lib.hid (nsum_take_le sz (k + 1))
      have HNV : Hid (∀ i, i < sz[k] → pl sz ((sz.take k).sum + i) = (k, i)) := fun i hi => (num_V sz k i ⟨hk2, by show i < sz.getD k 0; rw [HGD.out]; exact hi⟩).2
      obtain ⟨cs, hmk, hrow⟩ := make_syms sz[k] hle wr
      have HROW := Lib.hid hrow
      clear hrow
      generalize hzk : sz[k] = zk at *
      have HZK := Lib.hid hzk
      clear hzk
      go_wp2_with fail
      obtain ⟨wo, rfl⟩ : ∃ wo : World, wo = wr := ⟨_, rfl⟩
      have hwsz : w.heap.size + 1 + 1 + 1 + 1 ≤ wo.heap.size := hbig
      have HBN : Hid (∀ f, f < k → wo.heap.size ≠ B f) := fun f hf e => by have := (HTM.out.tu.inner f hf).lt; omega
      have HV0 : Hid (u7.ownBlock ≠ some wo.heap.size) := fun e => by have := (HTM.out.own.lt _ e).2; omega
      have HTM0 := Lib.hid (HTM.out.alloc (.cells cs 110))
      have HROW0 : Hid ((wo.alloc (.cells cs 110)).rowIs wo.heap.size 110 (zk * 10) (symPart (uf0 sz us) k 0)) := HROW.out.congr (fun j _ => by unfold symPart; rw [if_neg (by omega)])
      clear HTM HROW c0 hmk hbig
      have hsum : (sz.take k).sum + zk ≤ 3000 := by
        have h1 := HSN.out
        have h2 := HSL.out
        omega
      have HSN : Hid ((sz.take (k + 1)).sum = (sz.take k).sum + zk) := HSN.out
      have HNO : Hid (∀ i, numOf sz (k, i) = (sz.take k).sum + i) := fun _ => rfl
      generalize (sz.take k).sum = M at *
      go_loopw [7, 26] (fun v y wi => ∃ i : Nat, i ≤ zk ∧ y = .int .i64 i ∧ Hid (TM w (w.heap.size + 1 + 1) (w.heap.size + 1 + 1 + 1 + 1) n sz us k B v (M + i) wi) ∧ Hid (v.ownBlock ≠ some wo.heap.size) ∧ wo.heap.size < wi.heap.size ∧ Hid (wi.rowIs wo.heap.size 110 (zk * 10) (symPart (uf0 sz us) k i))) (fun _ y _ => zk - (intOf y).toNat)
      case atStart => exact ⟨0, by omega, rfl, HTM0.out, HV0.out, by simp, HROW0.out⟩
      case round =>
        clear HTM0 HROW0 HV0
        obtain ⟨i, hi, rfl, HT, HV, hwi, HRW⟩ := hrel
        by_cases hil : i < zk
        · have HPL : Hid (pl sz (M + i) = (k, i)) := HNV.out i hil
          have HI1 := Lib.hid (HI.out.below HT.out.bel HI.out.size3)
          have c20 := HI1.out.c20
          have c21 := HI1.out.c21
          have hcc := symPart_cells HRW.out hil
          have cc0 := hcc.1
          have cc1 := hcc.2.1
          have cc2 := hcc.2.2
          have z0 := HRW.out.frozen (i * 10 + 2)
          have z1 := HRW.out.frozen (i * 10 + 2 + 1)
          have z2 := HRW.out.frozen (i * 10 + 4)
          clear hcc HI1
          obtain ⟨A5, c5, hv5, hc5, hcl5⟩ := own_slice HT.out.own
          clear hcl5
          subst hv5
          have HNUM : Hid ((uf0 sz us).uses (k, i) = u0 us (M + i)) := by
            show u0 us (numOf sz (k, i)) = _
            rw [HNO.out]
          by_cases hum : M + i < m
          · have hum2 : M + i < us.length := by rw [← HMU.out]; exact hum
            obtain ⟨b6, off6, rfl, hb6, c6⟩ := HRU.out.int hum2 HT.out.bel
            have hux := HU.out us[M + i] (List.getElem_mem _)
            have HUX : Hid ((((uf0 sz us).uses (k, i) : Nat) : Int) = us[M + i]) := by
              show _ = _
              rw [HNUM.out, u0]
              simp [List.getD, hum2]
              omega
            generalize us[M + i] = x at *
            have H3 := Lib.hid (((HT.out.setNew (b := wo.heap.size) hwsz HBN.out HV.out (i * 10 + 2) (.int .u32 4294967295)).setNew (b := wo.heap.size) hwsz HBN.out HV.out (i * 10 + 2 + 1) (.int .u32 4294967295)).setNew (b := wo.heap.size) hwsz HBN.out HV.out (i * 10 + 4) (.int .u32 x))
            have R3 := Lib.hid (symPart_link HRW.out (show (uf0 sz us).link (k, i) = none from rfl))
            rw [HUX.out] at R3
            go_wp2_with (at_builtin; refine wpList_append_any _ rfl _ _ 95 rfl (w.heap.size + 1 + 1 + 1 + 1) 100 i0 _ 2 8 Tryd.underlying95 hi0 hz0 hz1 hz2 rfl (by decide) _ _ _ rfl (H3.out.own.alloc _) (wr.heap.size + 1) (some ⟨wr.heap.size, 0, none⟩) 1 1 [.int .u32 (k : Int), .int .u32 (i : Int)] rfl ?c1 ?c2 ?c3 ?c4 ?c5 ?_)
            case c1 => exact reads_new _ #[.int .u32 (k : Int), .int .u32 (i : Int)] 100 (by simp [World.setCell])
            case c2 => intro u hu; simp at hu; rcases hu with rfl | rfl <;> rfl
            case c3 => unfold maxLen; omega
            case c4 => omega
            case c5 => simp; omega
            intro v' w5 hown5 hg5 hbk5
            have HT5 : Hid (TM w (w.heap.size + 1 + 1) (w.heap.size + 1 + 1 + 1 + 1) n sz us k B v' (M + i + 1) w5) := (H3.out.alloc _).app (by rw [refsTo_snoc, HPL.out]; exact hown5) hg5 (by simp [World.setCell]) hbk5
            have HR5 : Hid (w5.rowIs wo.heap.size 110 (zk * 10) (symPart (uf0 sz us) k (i + 1))) := rowIs_grown hg5 (R3.out.alloc _) HV.out
            have HV5 : Hid (v'.ownBlock ≠ some wo.heap.size) := fun e => by
              rcases hbk5 with h | h
              · rw [h] at e; exact HV.out e
              · rw [h] at e
                injection e with e
                omega
            have hw5 : wo.heap.size < w5.heap.size := by
              have h1 := hg5.size
              simp at h1
              omega
            clear hown5 hg5 hbk5
            go_wp2
            go_roundw
            case rel => exact ⟨i + 1, by omega, by go_num, HT5.out, HV5.out, hw5, HR5.out⟩
            case measure => simp [intOf]; omega
          · have R3 := Lib.hid (symPart_none HRW.out (show (uf0 sz us).link (k, i) = none from rfl) (by rw [HNUM.out, u0]; have := HMU.out; rw [List.getD_eq_getElem?_getD, List.getElem?_eq_none (by omega)]; rfl))
            have H3 := Lib.hid ((HT.out.setNew (b := wo.heap.size) hwsz HBN.out HV.out (i * 10 + 2) (.int .u32 4294967295)).setNew (b := wo.heap.size) hwsz HBN.out HV.out (i * 10 + 2 + 1) (.int .u32 4294967295))
            go_wp2_with (at_builtin; refine wpList_append_any _ rfl _ _ 95 rfl (w.heap.size + 1 + 1 + 1 + 1) 100 i0 _ 2 8 Tryd.underlying95 hi0 hz0 hz1 hz2 rfl (by decide) _ _ _ rfl (H3.out.own.alloc _) (wr.heap.size + 1) (some ⟨wr.heap.size, 0, none⟩) 1 1 [.int .u32 (k : Int), .int .u32 (i : Int)] rfl ?c1 ?c2 ?c3 ?c4 ?c5 ?_)
            case c1 => exact reads_new _ #[.int .u32 (k : Int), .int .u32 (i : Int)] 100 (by simp [World.setCell])
            case c2 => intro u hu; simp at hu; rcases hu with rfl | rfl <;> rfl
            case c3 => unfold maxLen; omega
            case c4 => omega
            case c5 => simp; omega
            intro v' w5 hown5 hg5 hbk5
            have HT5 : Hid (TM w (w.heap.size + 1 + 1) (w.heap.size + 1 + 1 + 1 + 1) n sz us k B v' (M + i + 1) w5) := (H3.out.alloc _).app (by rw [refsTo_snoc, HPL.out]; exact hown5) hg5 (by simp [World.setCell]) hbk5
            have HR5 : Hid (w5.rowIs wo.heap.size 110 (zk * 10) (symPart (uf0 sz us) k (i + 1))) := rowIs_grown hg5 (R3.out.alloc _) HV.out
            have HV5 : Hid (v'.ownBlock ≠ some wo.heap.size) := fun e => by
              rcases hbk5 with h | h
              · rw [h] at e; exact HV.out e
              · rw [h] at e
                injection e with e
                omega
            have hw5 : wo.heap.size < w5.heap.size := by
              have h1 := hg5.size
              simp at h1
              omega
            clear hown5 hg5 hbk5
            go_wp2
            go_roundw
            case rel => exact ⟨i + 1, by omega, by go_num, HT5.out, HV5.out, hw5, HR5.out⟩
            case measure => simp [intOf]; omega
        · have hie : i = zk := by omega
          subst hie
          have HNX : Hid (TM w (w.heap.size + 1 + 1) (w.heap.size + 1 + 1 + 1 + 1) n sz us (k + 1) (fun f => if f = k then wo.heap.size else B f) u7 (sz.take (k + 1)).sum (wr.setCell ⟨w.heap.size + 1 + 1, k, none⟩ (.slice (some ⟨wo.heap.size, 0, none⟩) i i))) := by
            have h := HT.out.next hwsz HBN.out HV.out (b := wo.heap.size) (by rw [HGD.out]; exact HRW.out)
            rw [HGD.out, ← HSN.out] at h
            exact h
          have cb := HT.out.box
          have cs1 := HT.out.tu.outer.cell hlt
          have cz1 := HT.out.tu.outer.frozen k
          go_wp2
          go_roundw
          case rel => exact ⟨k + 1, _, by omega, by go_num, HNX.out⟩
          case measure => simp [intOf]; omega
    · have hkn : k = n := by omega
      subst hkn
      have hts : sz.take k = sz := List.take_of_length_le (by have := HN.out; omega)
      rw [hts] at HTM
      clear hts
      have cb := HTM.out.box
      have cr := HTM.out.res
      have cr0 : wr.cell? ⟨w.heap.size, 0, none⟩ = some (.slice none 0 0) := by rw [Lib.cell_of_heap cr]; rfl
      have cz0 : wr.frozen? ⟨w.heap.size, 0, none⟩ = false := by simp [World.frozen?, cr]
      clear cr
      go_wp2
      refine bodyPost_ret (v := .tuple #[.agg #[.slice (some ⟨w.heap.size + 1 + 1, 0, none⟩) k k], u7]) (by simp [results, Tryd.results47, go_sem, cr0]) rfl ?_
      have HD := HTM.out.done hm (fun f => by
        by_cases hf : f < sz.length
        · rw [List.getD_eq_getElem?_getD, List.getElem?_eq_getElem hf]; exact Nat.le_trans (mem_le_sum hf) hs
        · rw [List.getD_eq_getElem?_getD, List.getElem?_eq_none (by omega)]; exact Nat.zero_le _)
      have hS := HTM.out.S_ge
      have hge : ∀ f, f < k → w.heap.size ≠ B f := fun f hf e => by have := HTM.out.tu.ge f hf; omega
      refine ⟨⟨w.heap.size + 1 + 1, k, B, fun f => sz.getD f 0⟩, u7, rfl, rfl, fun _ => rfl, ?_, ?_, HTM.out.apart, HTM.out.bel.setCell (p := ⟨w.heap.size, 0, none⟩) (Nat.le_refl _) _⟩
      · exact HD.setFar (p := ⟨w.heap.size, 0, none⟩) (by show w.heap.size ≠ w.heap.size + 1 + 1; omega) hge _
      · have ho := own_keep HTM.out.own (b := wr.setCell ⟨w.heap.size, 0, none⟩ (.slice (some ⟨w.heap.size + 1 + 1, 0, none⟩) k k)) (fun g hg => Below.heap_setCell wr ⟨w.heap.size, 0, none⟩ _ g (by have := (HTM.out.own.lt g hg).1; show g ≠ w.heap.size; omega))
        exact own_lower ho (by omega)
end Go.Proofs.YtbkgbnejmgjiiaaDoor
