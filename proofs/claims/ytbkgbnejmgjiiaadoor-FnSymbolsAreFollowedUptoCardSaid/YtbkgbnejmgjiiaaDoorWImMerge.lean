/- What impl.Merge returns: what each step told, what each symbol is followed to, and its uses. Conditions: at most 1048576 files, at most 3000 symbols in all, at most 3000 steps that speak of symbols that there are, uses between 0 and 1000000. Printed by rg2.py over rg.py. -/
import Derived.Test.YtbkgbnejmgjiiaaDoorWImMergeA
namespace Go.Proofs.YtbkgbnejmgjiiaaDoor
open Go.RowKit Go.Deep

theorem St.step_small {n K : Nat} {us : Nat → Nat} (hus : ∀ i, us i ≤ K) {st : St} (hg : Good n us st) (hs : ∀ i, i < n → st.u i ≤ n * K) {p : Int × Int} (hp : 0 ≤ p.1 ∧ p.1 < n ∧ p.2 < n) : ∀ i, i < n → (st.step p).u i ≤ n * K := by
  intro i hi
  unfold St.step
  split
  · exact hs i hi
  · unfold St.merge
    split
    · exact hs i hi
    · rename_i hne
      have ha : p.1.toNat < n := by omega
      have hb : p.2.toNat < n := by omega
      simp only
      split
      · rw [hg.uses _ (hg.lt _ hb) (hg.idem _ hb), hg.uses _ (hg.lt _ ha) (hg.idem _ ha)]
        exact usum_two K n us st.g hus _ _ (fun e => hne e.symm)
      · exact hs i hi
theorem St.run_small {n K : Nat} {us : Nat → Nat} (hus : ∀ i, us i ≤ K) : ∀ {l : List (Int × Int)} {st : St}, Good n us st → okSteps n l → (∀ i, i < n → st.u i ≤ n * K) → ∀ i, i < n → (st.run l).u i ≤ n * K
  | [], _, _, _, h => h
  | p :: r, _, hg, hl, h => St.run_small hus (l := r) (hg.step (hl p (by simp))) (fun s hs => hl s (by simp [hs])) (St.step_small hus hg h (hl p (by simp)))
theorem uses_small {n : Nat} {us : Nat → Nat} (hn : n ≤ 3000) (hus : ∀ i, us i ≤ 1000000) {l : List (Int × Int)} (hl : okSteps n l) : ∀ i, i < n → ((St.mk id us).run l).u i ≤ 3000000000 := by
  intro i hi
  have h := St.run_small hus (Good.start n us) hl (fun i hi => by
    have := hus i
    have h1 : 1 * 1000000 ≤ n * 1000000 := Nat.mul_le_mul_right _ (by omega)
    show us i ≤ _
    omega) i hi
  have h1 : n * 1000000 ≤ 3000 * 1000000 := Nat.mul_le_mul_right _ hn
  omega
theorem map_range_snoc {α : Type} (f : Nat → α) (k : Nat) : (List.range (k + 1)).map f = (List.range k).map f ++ [f k] := by rw [List.range_succ, List.map_append]; rfl
theorem own_apart {a b : World} {base size n : Nat} {e : TypeId} {v : Value} {xs : List Value} {row : Option Nat} (h : a.ownsRow base e size v n xs) (hg : a.grownBy b row) (hr : ∀ g, v.ownBlock = some g → row ≠ some g) : b.ownsRow base e size v n xs :=
  own_keep h fun g hv => hg.block g (h.lt g hv).2 (fun e => hr g hv e.symm)
theorem own_kp {a b : World} {T : Tbl} {base size n : Nat} {e : TypeId} {v : Value} {xs : List Value} (h : a.ownsRow base e size v n xs) (hk : Kp T a b) (hr : ∀ g, v.ownBlock = some g → ∀ f, f < T.nf → g ≠ T.B f) : b.ownsRow base e size v n xs :=
  own_keep h fun g hv => hk.block g (h.lt g hv).2 (hr g hv)

/-- what stands in the middle of the region -/
structure IM8 (w w1 wr Wd : World) (T : Tbl) (sz : List Nat) (us : List Int) (steps : List (Int × Int)) (tl : List Nat) (k ai : Nat) (x2 : Int) (A U : Option Addr) (n c m d b off q cq rb ro rc : Nat) (ahead : Bool) (u13 u48 u49 u50 u51 u52 u53 u54 u55 u56 u57 u58 u59 u60 u61 u62 u63 u64 : Value) (b0 b1 b2 b3 b4 b5 b6 b7 b8 b9 b10 b11 : Bool) (a : Act) (w' : World) : Prop where
  fr : ∃ (t : Nat) (s37 s38 s39 s40 s41 s42 s43 s44 s45 s46 s47 s13 : Value), a = ⟨#[.slice A n c, .slice U m d, .slice (some ⟨b, off, none⟩) q cq, .bool ahead, undef, undef, undef, undef, .slice none 0 0, .slice none 0 0, .slice none 0 0, .pointer (some ⟨w1.heap.size, 0, none⟩), .slice (some ⟨rb, ro, none⟩) sz.sum rc, s13, .slice none 0 0, .slice none 0 0, undef, .pointer (some ⟨wr.heap.size, 0, none⟩), undef, undef, undef, undef, .tuple #[.agg #[.slice (some ⟨T.S, 0, none⟩) T.nf T.nf], .slice (some ⟨rb, ro, none⟩) sz.sum rc], .slice A n c, .slice U m d, .tuple #[.agg #[.slice (some ⟨T.S, 0, none⟩) T.nf T.nf], .slice (some ⟨rb, ro, none⟩) sz.sum rc], .agg #[.slice (some ⟨T.S, 0, none⟩) T.nf T.nf], .slice (some ⟨rb, ro, none⟩) sz.sum rc, .slice (some ⟨b, off, none⟩) q cq, .int .i64 (q : Int), .int .i64 (k : Int), .bool true, .pointer (some ⟨b, off + k * 2, none⟩), .agg #[.int .i64 (ai : Int), .int .i64 x2], .pointer (some ⟨wr.heap.size, 1, none⟩), .int .i64 x2, .bool true, s37, s38, s39, s40, s41, s42, s43, s44, s45, s46, s47, u48, u49, u50, u51, u52, u53, u54, u55, u56, u57, u58, u59, u60, u61, u62, u63, u64, undef, undef, undef, undef, undef, undef, undef, undef, undef, undef, undef, undef, undef, undef, undef, undef, undef, undef, undef, undef, undef, undef, undef, undef, undef, undef, undef, undef, undef, undef, undef, undef, undef, undef, undef, undef, undef], []⟩ ∧
    Hid (b7 = false → w' = Wd) ∧
    Hid (b4 = true → b3 = true) ∧
    Hid (b5 = true → b2 = true ∧ b4 = true) ∧
    Hid (b6 = true → b5 = true) ∧
    Hid (b7 = true → b1 = true ∧ b6 = true) ∧
    Hid (b8 = true → b7 = true) ∧
    Hid (b9 = true → b8 = true) ∧
    Hid (b10 = true → b0 = true ∧ b9 = true) ∧
    Hid (b11 = true → b10 = true) ∧
    Hid (b0 = true → s37 = u13) ∧
    Hid (b1 = true → s38 = .agg #[.slice (some ⟨T.S, 0, none⟩) T.nf T.nf]) ∧
    Hid (b2 = true → s39 = .slice (some ⟨rb, ro, none⟩) sz.sum rc) ∧
    Hid (b3 = true → s40 = .pointer (some ⟨wr.heap.size, 0, none⟩)) ∧
    Hid (b4 = true → s41 = .int .i64 (ai : Int)) ∧
    Hid (b5 = true → s42 = .pointer (some ⟨rb, ro + ai * 2, none⟩)) ∧
    Hid (b6 = true → s43 = .agg #[.int .u32 ((pl sz ai).1 : Int), .int .u32 ((pl sz ai).2 : Int)]) ∧
    Hid (b7 = true → (t < sz.sum ∧ t = ((St.mk id (u0 us)).run (steps.take k)).g ai) ∧ s44 = .agg #[.int .u32 ((pl sz t).1 : Int), .int .u32 ((pl sz t).2 : Int)] ∧ Hid (MS w T sz w1.heap.size (.slice (some ⟨rb, ro, none⟩) sz.sum rc) ((St.mk id (u0 us)).run (steps.take k)) w')) ∧
    Hid (b7 = true → b10 = false → Hid (w'.ownsRow (w1.heap.size + 1) 55 2 u13 k (plCells sz tl))) ∧
    Hid (b8 = true → s45 = .agg #[.int .i64 ((pl sz t).1 : Int), .int .i64 ((pl sz t).2 : Int)]) ∧
    Hid (b9 = true → b10 = false → ∃ g, s46 = .slice (some ⟨g, 0, none⟩) 1 1 ∧ Hid (Reads w' (g + 1) 2 (some ⟨g, 0, none⟩) 1 [.int .i64 ((pl sz t).1 : Int), .int .i64 ((pl sz t).2 : Int)])) ∧
    Hid (b10 = true → Hid (w'.ownsRow (w1.heap.size + 1) 55 2 s47 (k + 1) (plCells sz (tl ++ [t])))) ∧
    Hid (b11 = false → s13 = u13) ∧
    Hid (b11 = true → s13 = s47)

/-- what stands in the middle of the region -/
structure IM9 (w w1 wr Wd : World) (T : Tbl) (sz : List Nat) (us : List Int) (steps : List (Int × Int)) (tl : List Nat) (k ai : Nat) (bi : Nat) (A U : Option Addr) (n c m d b off q cq rb ro rc : Nat) (ahead : Bool) (u13 u37 u38 u39 u40 u41 u42 u43 u44 u45 u46 u47 u64 : Value) (b0 b1 b2 b3 b4 b5 b6 b7 b8 b9 b10 b11 b12 b13 b14 b15 b16 : Bool) (a : Act) (w' : World) : Prop where
  fr : ∃ (t : Nat) (s48 s49 s50 s51 s52 s53 s54 s55 s56 s57 s58 s59 s60 s61 s62 s63 s13 : Value), a = ⟨#[.slice A n c, .slice U m d, .slice (some ⟨b, off, none⟩) q cq, .bool ahead, undef, undef, undef, undef, .slice none 0 0, .slice none 0 0, .slice none 0 0, .pointer (some ⟨w1.heap.size, 0, none⟩), .slice (some ⟨rb, ro, none⟩) sz.sum rc, s13, .slice none 0 0, .slice none 0 0, undef, .pointer (some ⟨wr.heap.size, 0, none⟩), undef, undef, undef, undef, .tuple #[.agg #[.slice (some ⟨T.S, 0, none⟩) T.nf T.nf], .slice (some ⟨rb, ro, none⟩) sz.sum rc], .slice A n c, .slice U m d, .tuple #[.agg #[.slice (some ⟨T.S, 0, none⟩) T.nf T.nf], .slice (some ⟨rb, ro, none⟩) sz.sum rc], .agg #[.slice (some ⟨T.S, 0, none⟩) T.nf T.nf], .slice (some ⟨rb, ro, none⟩) sz.sum rc, .slice (some ⟨b, off, none⟩) q cq, .int .i64 (q : Int), .int .i64 (k : Int), .bool true, .pointer (some ⟨b, off + k * 2, none⟩), .agg #[.int .i64 (ai : Int), .int .i64 (bi : Int)], .pointer (some ⟨wr.heap.size, 1, none⟩), .int .i64 (bi : Int), .bool false, u37, u38, u39, u40, u41, u42, u43, u44, u45, u46, u47, s48, s49, s50, s51, s52, s53, s54, s55, s56, s57, s58, s59, s60, s61, s62, s63, u64, undef, undef, undef, undef, undef, undef, undef, undef, undef, undef, undef, undef, undef, undef, undef, undef, undef, undef, undef, undef, undef, undef, undef, undef, undef, undef, undef, undef, undef, undef, undef, undef, undef, undef, undef, undef, undef], []⟩ ∧
    Hid (b12 = false → w' = Wd) ∧
    Hid (b4 = true → b3 = true) ∧
    Hid (b5 = true → b2 = true ∧ b4 = true) ∧
    Hid (b6 = true → b5 = true) ∧
    Hid (b9 = true → b8 = true) ∧
    Hid (b10 = true → b7 = true ∧ b9 = true) ∧
    Hid (b11 = true → b10 = true) ∧
    Hid (b12 = true → b1 = true ∧ b6 = true ∧ b11 = true) ∧
    Hid (b13 = true → b12 = true) ∧
    Hid (b14 = true → b13 = true) ∧
    Hid (b15 = true → b0 = true ∧ b14 = true) ∧
    Hid (b16 = true → b15 = true) ∧
    Hid (b0 = true → s48 = u13) ∧
    Hid (b1 = true → s49 = .agg #[.slice (some ⟨T.S, 0, none⟩) T.nf T.nf]) ∧
    Hid (b2 = true → s50 = .slice (some ⟨rb, ro, none⟩) sz.sum rc) ∧
    Hid (b3 = true → s51 = .pointer (some ⟨wr.heap.size, 0, none⟩)) ∧
    Hid (b4 = true → s52 = .int .i64 (ai : Int)) ∧
    Hid (b5 = true → s53 = .pointer (some ⟨rb, ro + ai * 2, none⟩)) ∧
    Hid (b6 = true → s54 = .agg #[.int .u32 ((pl sz ai).1 : Int), .int .u32 ((pl sz ai).2 : Int)]) ∧
    Hid (b7 = true → s55 = .slice (some ⟨rb, ro, none⟩) sz.sum rc) ∧
    Hid (b8 = true → s56 = .pointer (some ⟨wr.heap.size, 1, none⟩)) ∧
    Hid (b9 = true → s57 = .int .i64 (bi : Int)) ∧
    Hid (b10 = true → s58 = .pointer (some ⟨rb, ro + bi * 2, none⟩)) ∧
    Hid (b11 = true → s59 = .agg #[.int .u32 ((pl sz bi).1 : Int), .int .u32 ((pl sz bi).2 : Int)]) ∧
    Hid (b12 = true → (t < sz.sum ∧ ((St.mk id (u0 us)).run (steps.take k)).g t = ((St.mk id (u0 us)).run (steps.take k)).g bi) ∧ s60 = .agg #[.int .u32 ((pl sz t).1 : Int), .int .u32 ((pl sz t).2 : Int)] ∧ Hid (MS w T sz w1.heap.size (.slice (some ⟨rb, ro, none⟩) sz.sum rc) (((St.mk id (u0 us)).run (steps.take k)).merge ai bi) w')) ∧
    Hid (b12 = true → b15 = false → Hid (w'.ownsRow (w1.heap.size + 1) 55 2 u13 k (plCells sz tl))) ∧
    Hid (b13 = true → s61 = .agg #[.int .i64 ((pl sz t).1 : Int), .int .i64 ((pl sz t).2 : Int)]) ∧
    Hid (b14 = true → b15 = false → ∃ g, s62 = .slice (some ⟨g, 0, none⟩) 1 1 ∧ Hid (Reads w' (g + 1) 2 (some ⟨g, 0, none⟩) 1 [.int .i64 ((pl sz t).1 : Int), .int .i64 ((pl sz t).2 : Int)])) ∧
    Hid (b15 = true → Hid (w'.ownsRow (w1.heap.size + 1) 55 2 s63 (k + 1) (plCells sz (tl ++ [t])))) ∧
    Hid (b16 = false → s13 = u13) ∧
    Hid (b16 = true → s13 = s63)

set_option maxHeartbeats 4000000 in
set_option maxRecDepth 100000 in
theorem impMerge_any (A U D : Option Addr) (n m q c d cq : Nat) (sz : List Nat) (us : List Int) (steps : List (Int × Int)) (ahead : Bool) (w : World) (hi : InvRef w)
    (hr : Reads w w.heap.size 1 A n (intCells (szI sz))) (hn : n = sz.length) (hm : n ≤ 1048576) (hru : Reads w w.heap.size 1 U m (intCells us)) (hmu : m = us.length) (hmm : m ≤ 9223372036854775807)
    (hrs : Reads w w.heap.size 2 D q (pairCells steps)) (hq : q = steps.length) (hqq : q ≤ 3000) (hs : sz.sum ≤ 3000) (hu : okUses us) (hst : okSteps sz.sum steps) :
    Calls Tryd.prog 29 #[.slice A n c, .slice U m d, .slice D q cq, .bool ahead] w fun e w' => ∃ v1 v2 v3 tl, e = .returned (.tuple #[v1, v2, v3]) ∧ ToldOk sz.sum ⟨id, u0 us⟩ steps tl ∧
      w'.ownsRow w.heap.size 55 2 v1 q (plCells sz tl) ∧ w'.ownsRow w.heap.size 55 2 v2 sz.sum (plCells sz ((List.range sz.sum).map ((St.mk id (u0 us)).run steps).g)) ∧
      w'.ownsRow w.heap.size 3 1 v3 sz.sum (intCells ((List.range sz.sum).map fun i => (((St.mk id (u0 us)).run steps).u i : Int))) ∧ Below w.heap.size w w' := by
  have HI := Lib.hid hi
  have HRS := Lib.hid hrs
  have HQ := Lib.hid hq
  have HU := Lib.hid (u0_le hu)
  have HST := Lib.hid hst
  have HTB := Lib.hid (table_any A U n m c d sz us w hi hr hn hm hru hmu hmm hs hu)
  have HN := Lib.hid hn
  clear hi hrs hq hu hst hr hru hmu hn
  obtain ⟨i0, hi0, hz0, hz1, hz2⟩ := info_parts info55
  obtain ⟨i1, hj0, hy0, hy1, hy2⟩ := info_parts info3m
  go_enter Tryd.func29, Tryd.ntmps29
  go_wp2_with fail
  refine HTB.out.mono ?_
  rintro e w1 ⟨T, vr, rfl, hnf, hsz, ht, hown, hap, hb⟩
  have HF : Hid (Fits T sz) := ⟨hnf.trans HN.out, hsz⟩
  have HMS0 : Hid (MS w T sz w1.heap.size vr ⟨id, u0 us⟩ (w1.alloc (.cells #[.slice (some ⟨T.S, 0, none⟩) T.nf T.nf] 94))) := by
    have hal : Below w1.heap.size w1 (w1.alloc (.cells #[.slice (some ⟨T.S, 0, none⟩) T.nf T.nf] 94)) := (Below.refl _ _).alloc (Nat.le_refl _) _
    refine ⟨(Sym.start ht).sub hal, own_below hown hal, fun g hg => ⟨(hown.lt g hg).2, fun f hf => hap g hg f (by omega)⟩, ?_, hb.trans (hal.mono hb.size), by simp, ht.outer.lt, fun f hf => (ht.inner f hf).lt, hb.size⟩
    rw [Lib.cell_of_heap (heap_alloc_new w1 _)]
    exact rfl
  clear ht hown hap hb hsz HTB hnf
  go_wp2_with fail
  go_loopw [13, 30] (fun v x wr => ∃ (k : Nat) (tl : List Nat), k ≤ q ∧ x = .int .i64 k ∧ Hid (MS w T sz w1.heap.size vr ((St.mk id (u0 us)).run (steps.take k)) wr) ∧ Hid (wr.ownsRow (w1.heap.size + 1) 55 2 v k (plCells sz tl)) ∧ Hid (ToldOk sz.sum ⟨id, u0 us⟩ (steps.take k) tl)) (fun _ x _ => q - (intOf x).toNat)
  case atStart => exact ⟨0, [], by omega, rfl, HMS0.out, World.ownsRow_nil _ _ _ _, ToldOk.none _ _⟩
  case round =>
    clear HMS0
    obtain ⟨k, tl, hk, rfl, HMS, HO, HTL⟩ := hrel
    by_cases hlt : k < q
    · have hk2 : k < steps.length := by rw [← HQ.out]; exact hlt
      obtain ⟨b, off, rfl, hbB, c0, c1⟩ := HRS.out.pair hk2 HMS.out.bel
      have hok := HST.out steps[k] (List.getElem_mem _)
      generalize hsk : steps[k] = sk at *
      have HSK := Lib.hid hsk
      clear hsk
      obtain ⟨x1, x2⟩ := sk
      simp only at c0 c1 hok
      obtain ⟨ai, hai0⟩ : ∃ ai : Nat, x1 = (ai : Int) := ⟨x1.toNat, by omega⟩
      subst hai0
      have hai : ai < sz.sum := by omega
      obtain ⟨rb, ro, rc, hvr, hrc, _⟩ := HMS.out.refAll (by omega)
      subst hvr
      have HPS : Hid (∀ t, t < sz.sum → (pl sz t).1 ≤ 4294967295 ∧ (pl sz t).2 ≤ 4294967295) := fun t ht => by
        obtain ⟨s, htb, _⟩ := HMS.out.sym.tab
        exact pl_small HF.out htb ht
      have HGD : Hid (Good sz.sum (u0 us) ((St.mk id (u0 us)).run (steps.take k))) := (Good.start _ _).run (fun s hs => HST.out s (List.mem_of_mem_take hs))
      by_cases hneg : x2 < 0
      · go_wp2_with fail
        go_upto_region 8 with fail
        have HMW := Lib.hid (HMS.out.alloc (.cells #[.int .i64 (ai : Int), .int .i64 x2] 50))
        have HOW := Lib.hid (HO.out.alloc (.cells #[.int .i64 (ai : Int), .int .i64 x2] 50))
        have HX0 : Hid ((wr.alloc (.cells #[.int .i64 (ai : Int), .int .i64 x2] 50)).drew.cell? ⟨wr.heap.size, 0, none⟩ = some (.int .i64 (ai : Int))) := (Lib.cell_of_heap (heap_alloc_new wr (.cells #[.int .i64 (ai : Int), .int .i64 x2] 50)) _).trans rfl
        have HX1 : Hid ((wr.alloc (.cells #[.int .i64 (ai : Int), .int .i64 x2] 50)).drew.cell? ⟨wr.heap.size, 1, none⟩ = some (.int .i64 x2)) := (Lib.cell_of_heap (heap_alloc_new wr (.cells #[.int .i64 (ai : Int), .int .i64 x2] 50)) _).trans rfl
        generalize (wr.alloc (.cells #[.int .i64 (ai : Int), .int .i64 x2] 50)) = W at *
        have HMD : Hid (MS w T sz w1.heap.size (.slice (some ⟨rb, ro, none⟩) sz.sum rc) ((St.mk id (u0 us)).run (steps.take k)) W.drew) := HMW.out.sub (below_drewN (Below.refl _ _) 1)
        have HOD : Hid (W.drew.ownsRow (w1.heap.size + 1) 55 2 u13 k (plCells sz tl)) := HOW.out
        have HBOX := Lib.hid HMD.out.box
        have HRC : Hid (∀ i, i < sz.sum → W.drew.cell? ⟨rb, ro + i * 2, none⟩ = some (.int .u32 ((pl sz i).1 : Int)) ∧ W.drew.cell? ⟨rb, ro + i * 2 + 1, none⟩ = some (.int .u32 ((pl sz i).2 : Int))) := by
          obtain ⟨b', o', c', e', _, h'⟩ := HMD.out.refAll (by omega)
          injection e' with e1 e2 e3
          injection e1 with e1
          injection e1 with e1 e4
          subst e1 e4
          exact h'
        have HCALL : Hid (Calls Tryd.prog 49 #[.agg #[.slice (some ⟨T.S, 0, none⟩) T.nf T.nf], .agg #[.int .u32 ((pl sz ai).1 : Int), .int .u32 ((pl sz ai).2 : Int)]] W.drew fun e w' => ∃ t, (t < sz.sum ∧ t = ((St.mk id (u0 us)).run (steps.take k)).g ai) ∧ e = .returned (.agg #[.int .u32 ((pl sz t).1 : Int), .int .u32 ((pl sz t).2 : Int)]) ∧ MS w T sz w1.heap.size (.slice (some ⟨rb, ro, none⟩) sz.sum rc) ((St.mk id (u0 us)).run (steps.take k)) w' ∧ w'.ownsRow (w1.heap.size + 1) 55 2 u13 k (plCells sz tl)) := by
          refine (follow_sym HF.out HMD.out.sym (HMD.out.inv HI.out) HI.out.size3 hai).mono ?_
          rintro e w' ⟨rfl, hs', hk⟩
          exact ⟨_, ⟨HGD.out.lt ai hai, rfl⟩, rfl, HMD.out.kp hk hs', own_keep HOD.out (fun g hg => hk.block g (HOD.out.lt g hg).2 (fun f hf e => by have := (HOD.out.lt g hg).1; have := HMD.out.ltB f hf; omega))⟩
        go_cut [13] (fun v wx => ∃ t : Nat, Hid (t < sz.sum ∧ t = ((St.mk id (u0 us)).run (steps.take k)).g ai) ∧ Hid (MS w T sz w1.heap.size (.slice (some ⟨rb, ro, none⟩) sz.sum rc) ((St.mk id (u0 us)).run (steps.take k)) wx) ∧ Hid (wx.ownsRow (w1.heap.size + 1) 55 2 v (k + 1) (plCells sz (tl ++ [t]))))
        case first =>
          refine wp_region_inv (by kernel_rfl) (by kernel_rfl) (fun L => IM8 w w1 wr W.drew T sz us steps tl k ai x2 A U n c m d b off q cq rb ro rc ahead u13 u48 u49 u50 u51 u52 u53 u54 u55 u56 u57 u58 u59 u60 u61 u62 u63 u64 (L 0) (L 1) (L 2) (L 3) (L 4) (L 5) (L 6) (L 7) (L 8) (L 9) (L 10) (L 11)) ?cong ?start ?step ?fin
          case cong =>
            intro L L' a w' h hI
            rw [h 0 (by decide), h 1 (by decide), h 2 (by decide), h 3 (by decide), h 4 (by decide), h 5 (by decide), h 6 (by decide), h 7 (by decide), h 8 (by decide), h 9 (by decide), h 10 (by decide), h 11 (by decide)] at hI
            exact hI
          case start =>
            exact ⟨0, u37, u38, u39, u40, u41, u42, u43, u44, u45, u46, u47, u13, rfl, fun _ => rfl, fun h => (by cases h), fun h => (by cases h), fun h => (by cases h), fun h => (by cases h), fun h => (by cases h), fun h => (by cases h), fun h => (by cases h), fun h => (by cases h), fun h => (by cases h), fun h => (by cases h), fun h => (by cases h), fun h => (by cases h), fun h => (by cases h), fun h => (by cases h), fun h => (by cases h), fun h => (by cases h), fun h => (by cases h), fun h => (by cases h), fun h => (by cases h), fun h => (by cases h), fun _ => rfl, fun h => (by cases h)⟩
          case step =>
            intro i op L a w' ho hL he hIn
            have hi : i < 12 := (Array.getElem?_eq_some_iff.1 ho).1
            have hcases : i = 0 ∨ i = 1 ∨ i = 2 ∨ i = 3 ∨ i = 4 ∨ i = 5 ∨ i = 6 ∨ i = 7 ∨ i = 8 ∨ i = 9 ∨ i = 10 ∨ i = 11 := by omega
            clear hi
            rcases hcases with rfl | rfl | rfl | rfl | rfl | rfl | rfl | rfl | rfl | rfl | rfl | rfl
            · -- operation 0
              obtain rfl := Option.some.inj ho
              clear he
              obtain ⟨t, s37, s38, s39, s40, s41, s42, s43, s44, s45, s46, s47, s13, rfl, hpre, p4, p5, p6, p7, p8, p9, p10, p11, e0, e1, e2, e3, e4, e5, e6, hc, ho, hp, hb, ha, hx, hy⟩ := hIn
              have fx : L 11 = false := by
                cases h : L 11 with
                | false => rfl
                | true => have h4 := (p10.out (p11.out h)).1; rw [h4] at hL; cases hL
              obtain rfl := hx.out fx
              go_wp2
              exact ⟨t, s13, s38, s39, s40, s41, s42, s43, s44, s45, s46, s47, s13, rfl, hpre, p4, p5, p6, p7, p8, p9, fun h => ⟨rfl, (p10.out h).2⟩, p11, fun _ => rfl, e1, e2, e3, e4, e5, e6, hc, ho, hp, hb, ha, fun _ => rfl, hy⟩
            · -- operation 1
              obtain rfl := Option.some.inj ho
              clear he
              obtain ⟨t, s37, s38, s39, s40, s41, s42, s43, s44, s45, s46, s47, s13, rfl, hpre, p4, p5, p6, p7, p8, p9, p10, p11, e0, e1, e2, e3, e4, e5, e6, hc, ho, hp, hb, ha, hx, hy⟩ := hIn
              have hc0 : L 7 = false := by
                cases h : L 7 with
                | false => rfl
                | true => have h4 := (p7.out h).1; rw [h4] at hL; cases hL
              obtain rfl := hpre.out hc0
              have c0 := HBOX.out
              clear hpre
              go_wp2
              exact ⟨t, s37, .agg #[.slice (some ⟨T.S, 0, none⟩) T.nf T.nf], s39, s40, s41, s42, s43, s44, s45, s46, s47, s13, rfl, fun _ => rfl, p4, p5, p6, fun h => ⟨rfl, (p7.out h).2⟩, p8, p9, p10, p11, e0, fun _ => rfl, e2, e3, e4, e5, e6, hc, ho, hp, hb, ha, hx, hy⟩
            · -- operation 2
              obtain rfl := Option.some.inj ho
              clear he
              obtain ⟨t, s37, s38, s39, s40, s41, s42, s43, s44, s45, s46, s47, s13, rfl, hpre, p4, p5, p6, p7, p8, p9, p10, p11, e0, e1, e2, e3, e4, e5, e6, hc, ho, hp, hb, ha, hx, hy⟩ := hIn
              go_wp2
              exact ⟨t, s37, s38, .slice (some ⟨rb, ro, none⟩) sz.sum rc, s40, s41, s42, s43, s44, s45, s46, s47, s13, rfl, hpre, p4, fun h => ⟨rfl, (p5.out h).2⟩, p6, p7, p8, p9, p10, p11, e0, e1, fun _ => rfl, e3, e4, e5, e6, hc, ho, hp, hb, ha, hx, hy⟩
            · -- operation 3
              obtain rfl := Option.some.inj ho
              clear he
              obtain ⟨t, s37, s38, s39, s40, s41, s42, s43, s44, s45, s46, s47, s13, rfl, hpre, p4, p5, p6, p7, p8, p9, p10, p11, e0, e1, e2, e3, e4, e5, e6, hc, ho, hp, hb, ha, hx, hy⟩ := hIn
              go_wp2
              exact ⟨t, s37, s38, s39, .pointer (some ⟨wr.heap.size, 0, none⟩), s41, s42, s43, s44, s45, s46, s47, s13, rfl, hpre, fun _ => rfl, p5, p6, p7, p8, p9, p10, p11, e0, e1, e2, fun _ => rfl, e4, e5, e6, hc, ho, hp, hb, ha, hx, hy⟩
            · -- operation 4
              obtain rfl := Option.some.inj ho
              have l0 : L 3 = true := he ⟨3, .data⟩ (by simp) rfl
              clear he
              obtain ⟨t, s37, s38, s39, s40, s41, s42, s43, s44, s45, s46, s47, s13, rfl, hpre, p4, p5, p6, p7, p8, p9, p10, p11, e0, e1, e2, e3, e4, e5, e6, hc, ho, hp, hb, ha, hx, hy⟩ := hIn
              obtain rfl := e3.out l0
              have hc0 : L 7 = false := by
                cases h : L 7 with
                | false => rfl
                | true => have h4 := (p5.out (p6.out (p7.out h).2)).2; rw [h4] at hL; cases hL
              obtain rfl := hpre.out hc0
              have c0 := HX0.out
              clear hpre
              go_wp2
              exact ⟨t, s37, s38, s39, .pointer (some ⟨wr.heap.size, 0, none⟩), .int .i64 (ai : Int), s42, s43, s44, s45, s46, s47, s13, rfl, fun _ => rfl, fun _ => l0, fun h => ⟨(p5.out h).1, rfl⟩, p6, p7, p8, p9, p10, p11, e0, e1, e2, fun _ => rfl, fun _ => rfl, e5, e6, hc, ho, hp, hb, ha, hx, hy⟩
            · -- operation 5
              obtain rfl := Option.some.inj ho
              have l0 : L 2 = true := he ⟨2, .data⟩ (by simp) rfl
              have l1 : L 4 = true := he ⟨4, .data⟩ (by simp) rfl
              clear he
              obtain ⟨t, s37, s38, s39, s40, s41, s42, s43, s44, s45, s46, s47, s13, rfl, hpre, p4, p5, p6, p7, p8, p9, p10, p11, e0, e1, e2, e3, e4, e5, e6, hc, ho, hp, hb, ha, hx, hy⟩ := hIn
              obtain rfl := e2.out l0
              obtain rfl := e4.out l1
              go_wp2
              exact ⟨t, s37, s38, .slice (some ⟨rb, ro, none⟩) sz.sum rc, s40, .int .i64 (ai : Int), .pointer (some ⟨rb, ro + ai * 2, none⟩), s43, s44, s45, s46, s47, s13, rfl, hpre, p4, fun _ => ⟨l0, l1⟩, fun _ => rfl, p7, p8, p9, p10, p11, e0, e1, fun _ => rfl, e3, fun _ => rfl, fun _ => rfl, e6, hc, ho, hp, hb, ha, hx, hy⟩
            · -- operation 6
              obtain rfl := Option.some.inj ho
              have l0 : L 5 = true := he ⟨5, .data⟩ (by simp) rfl
              clear he
              obtain ⟨t, s37, s38, s39, s40, s41, s42, s43, s44, s45, s46, s47, s13, rfl, hpre, p4, p5, p6, p7, p8, p9, p10, p11, e0, e1, e2, e3, e4, e5, e6, hc, ho, hp, hb, ha, hx, hy⟩ := hIn
              obtain rfl := e5.out l0
              have hc0 : L 7 = false := by
                cases h : L 7 with
                | false => rfl
                | true => have h4 := (p7.out h).2; rw [h4] at hL; cases hL
              obtain rfl := hpre.out hc0
              have c0 := (HRC.out ai hai).1
              have c1 := (HRC.out ai hai).2
              clear hpre
              go_wp2
              exact ⟨t, s37, s38, s39, s40, s41, .pointer (some ⟨rb, ro + ai * 2, none⟩), .agg #[.int .u32 ((pl sz ai).1 : Int), .int .u32 ((pl sz ai).2 : Int)], s44, s45, s46, s47, s13, rfl, fun _ => rfl, p4, p5, fun _ => l0, fun h => ⟨(p7.out h).1, rfl⟩, p8, p9, p10, p11, e0, e1, e2, e3, e4, fun _ => rfl, fun _ => rfl, hc, ho, hp, hb, ha, hx, hy⟩
            · -- operation 7
              obtain rfl := Option.some.inj ho
              have l0 : L 1 = true := he ⟨1, .data⟩ (by simp) rfl
              have l1 : L 6 = true := he ⟨6, .data⟩ (by simp) rfl
              clear he
              obtain ⟨t, s37, s38, s39, s40, s41, s42, s43, s44, s45, s46, s47, s13, rfl, hpre, p4, p5, p6, p7, p8, p9, p10, p11, e0, e1, e2, e3, e4, e5, e6, hc, ho, hp, hb, ha, hx, hy⟩ := hIn
              obtain rfl := e1.out l0
              obtain rfl := e6.out l1
              obtain rfl := hpre.out hL
              have f8 : L 8 = false := by
                cases h : L 8 with
                | false => rfl
                | true => have h4 := (p8.out h); rw [h4] at hL; cases hL
              have f9 : L 9 = false := by
                cases h : L 9 with
                | false => rfl
                | true => have h4 := (p8.out (p9.out h)); rw [h4] at hL; cases hL
              have f10 : L 10 = false := by
                cases h : L 10 with
                | false => rfl
                | true => have h4 := (p8.out (p9.out (p10.out h).2)); rw [h4] at hL; cases hL
              have f11 : L 11 = false := by
                cases h : L 11 with
                | false => rfl
                | true => have h4 := (p8.out (p9.out (p10.out (p11.out h)).2)); rw [h4] at hL; cases hL
              clear hpre hc ho hp hb ha
              go_wp2_with fail
              refine HCALL.out.mono ?_
              rintro e w2 ⟨t2, htp, rfl, hms2, hown2⟩
              have HM2 := Lib.hid hms2
              have HTP := Lib.hid htp
              have HO2 := Lib.hid hown2
              clear hms2 hown2 htp
              go_wp2
              exact ⟨t2, s37, .agg #[.slice (some ⟨T.S, 0, none⟩) T.nf T.nf], s39, s40, s41, s42, .agg #[.int .u32 ((pl sz ai).1 : Int), .int .u32 ((pl sz ai).2 : Int)], .agg #[.int .u32 ((pl sz t2).1 : Int), .int .u32 ((pl sz t2).2 : Int)], s45, s46, s47, s13, rfl, fun h => (by cases h), p4, p5, p6, fun _ => ⟨l0, l1⟩, fun _ => rfl, p9, p10, p11, e0, fun _ => rfl, e2, e3, e4, e5, fun _ => rfl, fun _ => ⟨HTP.out, rfl, HM2.out⟩, fun _ _ => HO2.out, fun h => (by have h' : L 8 = true := h; rw [f8] at h'; cases h'), fun h => (by have h' : L 9 = true := h; rw [f9] at h'; cases h'), fun h => (by have h' : L 10 = true := h; rw [f10] at h'; cases h'), hx, hy⟩
            · -- operation 8
              obtain rfl := Option.some.inj ho
              have l0 : L 7 = true := he ⟨7, .data⟩ (by simp) rfl
              clear he
              obtain ⟨t, s37, s38, s39, s40, s41, s42, s43, s44, s45, s46, s47, s13, rfl, hpre, p4, p5, p6, p7, p8, p9, p10, p11, e0, e1, e2, e3, e4, e5, e6, hc, ho, hp, hb, ha, hx, hy⟩ := hIn
              have f9 : L 9 = false := by
                cases h : L 9 with
                | false => rfl
                | true => have h4 := (p9.out h); rw [h4] at hL; cases hL
              have f10 : L 10 = false := by
                cases h : L 10 with
                | false => rfl
                | true => have h4 := (p9.out (p10.out h).2); rw [h4] at hL; cases hL
              have f11 : L 11 = false := by
                cases h : L 11 with
                | false => rfl
                | true => have h4 := (p9.out (p10.out (p11.out h)).2); rw [h4] at hL; cases hL
              obtain ⟨⟨htl, htp⟩, hsc, HM⟩ := hc.out l0
              obtain rfl := hsc
              have HTP := Lib.hid htp
              clear htp
              have HO3 := Lib.hid (ho.out l0 f10).out
              clear hpre hc ho hb ha
              go_wp2_with fail
              refine (impPlace_any (pl sz t) w' (HPS.out t htl).1 (HPS.out t htl).2).mono ?_
              rintro e w2 ⟨rfl, hb2⟩
              have HM2 := Lib.hid (HM.out.sub hb2)
              have HO2 := Lib.hid (own_below HO3.out hb2)
              clear hb2
              go_wp2
              exact ⟨t, s37, s38, s39, s40, s41, s42, s43, .agg #[.int .u32 ((pl sz t).1 : Int), .int .u32 ((pl sz t).2 : Int)], .agg #[.int .i64 ((pl sz t).1 : Int), .int .i64 ((pl sz t).2 : Int)], s46, s47, s13, rfl, fun h => (by have h' : L 7 = false := h; rw [l0] at h'; cases h'), p4, p5, p6, p7, fun _ => l0, fun _ => rfl, p10, p11, e0, e1, e2, e3, e4, e5, e6, fun _ => ⟨⟨htl, HTP.out⟩, rfl, HM2.out⟩, fun _ _ => HO2.out, fun _ => rfl, fun h => (by have h' : L 9 = true := h; rw [f9] at h'; cases h'), fun h => (by have h' : L 10 = true := h; rw [f10] at h'; cases h'), hx, hy⟩
            · -- operation 9
              obtain rfl := Option.some.inj ho
              have l0 : L 8 = true := he ⟨8, .data⟩ (by simp) rfl
              clear he
              obtain ⟨t, s37, s38, s39, s40, s41, s42, s43, s44, s45, s46, s47, s13, rfl, hpre, p4, p5, p6, p7, p8, p9, p10, p11, e0, e1, e2, e3, e4, e5, e6, hc, ho, hp, hb, ha, hx, hy⟩ := hIn
              have f10 : L 10 = false := by
                cases h : L 10 with
                | false => rfl
                | true => have h4 := (p10.out h).2; rw [h4] at hL; cases hL
              have f11 : L 11 = false := by
                cases h : L 11 with
                | false => rfl
                | true => have h4 := (p10.out (p11.out h)).2; rw [h4] at hL; cases hL
              obtain ⟨⟨htl, htp⟩, hsc, HM⟩ := hc.out (p8.out l0)
              obtain rfl := hsc
              have HTP := Lib.hid htp
              clear htp
              have HO3 := Lib.hid (ho.out (p8.out l0) f10).out
              obtain rfl := hp.out l0
              have HM2 := Lib.hid (HM.out.alloc (.cells #[.int .i64 ((pl sz t).1 : Int), .int .i64 ((pl sz t).2 : Int)] 55))
              have HO2 := Lib.hid (HO3.out.alloc (.cells #[.int .i64 ((pl sz t).1 : Int), .int .i64 ((pl sz t).2 : Int)] 55))
              have HR2 := Lib.hid (reads_new w' #[.int .i64 ((pl sz t).1 : Int), .int .i64 ((pl sz t).2 : Int)] 55 (b := w'.heap.size) rfl)
              clear hpre hc ho hb ha hp
              go_wp2
              exact ⟨t, s37, s38, s39, s40, s41, s42, s43, .agg #[.int .u32 ((pl sz t).1 : Int), .int .u32 ((pl sz t).2 : Int)], .agg #[.int .i64 ((pl sz t).1 : Int), .int .i64 ((pl sz t).2 : Int)], .slice (some ⟨w'.heap.size, 0, none⟩) 1 1, s47, s13, rfl, fun h => (by have h' : L 7 = false := h; rw [(p8.out l0)] at h'; cases h'), p4, p5, p6, p7, p8, fun _ => l0, fun h => ⟨(p10.out h).1, rfl⟩, p11, e0, e1, e2, e3, e4, e5, e6, fun _ => ⟨⟨htl, HTP.out⟩, rfl, HM2.out⟩, fun _ _ => HO2.out, fun _ => rfl, fun _ _ => ⟨_, rfl, HR2.out⟩, fun h => (by have h' : L 10 = true := h; rw [f10] at h'; cases h'), hx, hy⟩
            · -- operation 10
              obtain rfl := Option.some.inj ho
              have l0 : L 0 = true := he ⟨0, .data⟩ (by simp) rfl
              have l1 : L 9 = true := he ⟨9, .data⟩ (by simp) rfl
              clear he
              obtain ⟨t, s37, s38, s39, s40, s41, s42, s43, s44, s45, s46, s47, s13, rfl, hpre, p4, p5, p6, p7, p8, p9, p10, p11, e0, e1, e2, e3, e4, e5, e6, hc, ho, hp, hb, ha, hx, hy⟩ := hIn
              obtain rfl := e0.out l0
              have f11 : L 11 = false := by
                cases h : L 11 with
                | false => rfl
                | true => have h4 := (p11.out h); rw [h4] at hL; cases hL
              obtain ⟨⟨htl, htp⟩, hsc, HM⟩ := hc.out (p8.out (p9.out l1))
              obtain rfl := hsc
              have HTP := Lib.hid htp
              clear htp
              have HO3 := Lib.hid (ho.out (p8.out (p9.out l1)) hL).out
              obtain ⟨g, hg0, HRD⟩ := hb.out l1 hL
              obtain rfl := hg0
              have hbg := HM.out.big
              clear hpre hc ho hb ha
              refine wpList_append_any _ rfl _ _ 51 rfl (w1.heap.size + 1) 55 i0 _ 2 16 Tryd.underlying51 hi0 hz0 hz1 hz2 rfl (by decide) _ _ _ rfl HO3.out (g + 1) (some ⟨g, 0, none⟩) 1 1 [.int .i64 ((pl sz t).1 : Int), .int .i64 ((pl sz t).2 : Int)] rfl HRD.out ?c2 ?c3 ?c4 ?c5 ?_
              case c2 => intro u hu; simp at hu; rcases hu with rfl | rfl <;> rfl
              case c3 => unfold maxLen; omega
              case c4 => omega
              case c5 => omega
              intro v' w5 hown5 hg5 _
              have HO5 : Hid (w5.ownsRow (w1.heap.size + 1) 55 2 v' (k + 1) (plCells sz (tl ++ [t]))) := by rw [plCells_snoc]; exact hown5
              have HM5 := Lib.hid (HM.out.grown hg5 (fun g hgg => by have := (HO3.out.lt g hgg).1; omega))
              clear hown5 hg5
              go_wp2
              exact ⟨t, s37, s38, s39, s40, s41, s42, s43, .agg #[.int .u32 ((pl sz t).1 : Int), .int .u32 ((pl sz t).2 : Int)], s45, .slice (some ⟨g, 0, none⟩) 1 1, v', s13, rfl, fun h => (by have h' : L 7 = false := h; rw [(p8.out (p9.out l1))] at h'; cases h'), p4, p5, p6, p7, p8, p9, fun _ => ⟨l0, l1⟩, fun _ => rfl, fun _ => rfl, e1, e2, e3, e4, e5, e6, fun _ => ⟨⟨htl, HTP.out⟩, rfl, HM5.out⟩, fun _ h => (by cases h), hp, fun _ h => (by cases h), fun _ => HO5.out, hx, fun h => (by have h' : L 11 = true := h; rw [f11] at h'; cases h')⟩
            · -- operation 11
              obtain rfl := Option.some.inj ho
              have l0 : L 10 = true := he ⟨10, .data⟩ (by simp) rfl
              clear he
              obtain ⟨t, s37, s38, s39, s40, s41, s42, s43, s44, s45, s46, s47, s13, rfl, hpre, p4, p5, p6, p7, p8, p9, p10, p11, e0, e1, e2, e3, e4, e5, e6, hc, ho, hp, hb, ha, hx, hy⟩ := hIn
              go_wp2
              exact ⟨t, s37, s38, s39, s40, s41, s42, s43, s44, s45, s46, s47, s47, rfl, hpre, p4, p5, p6, p7, p8, p9, p10, fun _ => l0, e0, e1, e2, e3, e4, e5, e6, hc, ho, hp, hb, ha, fun h => (by cases h), fun _ => rfl⟩
          case fin =>
            rintro a w' ⟨t, s37, s38, s39, s40, s41, s42, s43, s44, s45, s46, s47, s13, rfl, hpre, p4, p5, p6, p7, p8, p9, p10, p11, e0, e1, e2, e3, e4, e5, e6, hc, ho, hp, hb, ha, hx, hy⟩
            obtain ⟨⟨htl, htp⟩, hsc, HM⟩ := hc.out rfl
            have HA := ha.out rfl
            obtain rfl := hy.out rfl
            have HTP := Lib.hid htp
            clear htp
            dsimp only [Exit.then]
            clear hpre p4 p5 p6 p7 p8 p9 p10 p11 e0 e1 e2 e3 e4 e5 e6 hc ho hp hb ha hx hy
            go_wp2_with fail
            go_meet
            exact ⟨t, ⟨htl, HTP.out⟩, HM.out, HA.out⟩
        case rest =>
          obtain ⟨t, HT, HM, HOn⟩ := hcut
          have HRUN : Hid ((St.mk id (u0 us)).run (steps.take (k + 1)) = (St.mk id (u0 us)).run (steps.take k)) := by
            rw [St.run_snoc _ _ _ hk2, HSK.out]
            unfold St.step
            rw [if_pos hneg]
            exact rfl
          have HTN : Hid (ToldOk sz.sum ⟨id, u0 us⟩ (steps.take (k + 1)) (tl ++ [t])) := HTL.out.snoc hk2 HT.out.1 (fun _ => by rw [HSK.out]; exact HT.out.2) (fun h => by rw [HSK.out] at h; exact absurd hneg h)
          go_wp2
          go_roundw
          case rel => exact ⟨k + 1, tl ++ [t], by omega, by go_num, by rw [HRUN.out]; exact HM.out, HOn.out, HTN.out⟩
          case measure => simp [intOf]; omega
      · obtain ⟨bi, hbi0⟩ : ∃ bi : Nat, x2 = (bi : Int) := ⟨x2.toNat, by omega⟩
        subst hbi0
        have hbi : bi < sz.sum := by omega
        go_wp2_with fail
        go_upto_region 9 with fail
        have HMW := Lib.hid (HMS.out.alloc (.cells #[.int .i64 (ai : Int), .int .i64 (bi : Int)] 50))
        have HOW := Lib.hid (HO.out.alloc (.cells #[.int .i64 (ai : Int), .int .i64 (bi : Int)] 50))
        have HX0 : Hid ((wr.alloc (.cells #[.int .i64 (ai : Int), .int .i64 (bi : Int)] 50)).drew.cell? ⟨wr.heap.size, 0, none⟩ = some (.int .i64 (ai : Int))) := (Lib.cell_of_heap (heap_alloc_new wr (.cells #[.int .i64 (ai : Int), .int .i64 (bi : Int)] 50)) _).trans rfl
        have HX1 : Hid ((wr.alloc (.cells #[.int .i64 (ai : Int), .int .i64 (bi : Int)] 50)).drew.cell? ⟨wr.heap.size, 1, none⟩ = some (.int .i64 (bi : Int))) := (Lib.cell_of_heap (heap_alloc_new wr (.cells #[.int .i64 (ai : Int), .int .i64 (bi : Int)] 50)) _).trans rfl
        generalize (wr.alloc (.cells #[.int .i64 (ai : Int), .int .i64 (bi : Int)] 50)) = W at *
        have HMD : Hid (MS w T sz w1.heap.size (.slice (some ⟨rb, ro, none⟩) sz.sum rc) ((St.mk id (u0 us)).run (steps.take k)) W.drew) := HMW.out.sub (below_drewN (Below.refl _ _) 1)
        have HOD : Hid (W.drew.ownsRow (w1.heap.size + 1) 55 2 u13 k (plCells sz tl)) := HOW.out
        have HBOX := Lib.hid HMD.out.box
        have HRC : Hid (∀ i, i < sz.sum → W.drew.cell? ⟨rb, ro + i * 2, none⟩ = some (.int .u32 ((pl sz i).1 : Int)) ∧ W.drew.cell? ⟨rb, ro + i * 2 + 1, none⟩ = some (.int .u32 ((pl sz i).2 : Int))) := by
          obtain ⟨b', o', c', e', _, h'⟩ := HMD.out.refAll (by omega)
          injection e' with e1 e2 e3
          injection e1 with e1
          injection e1 with e1 e4
          subst e1 e4
          exact h'
        have HCALL : Hid (Calls Tryd.prog 50 #[.agg #[.slice (some ⟨T.S, 0, none⟩) T.nf T.nf], .agg #[.int .u32 ((pl sz ai).1 : Int), .int .u32 ((pl sz ai).2 : Int)], .agg #[.int .u32 ((pl sz bi).1 : Int), .int .u32 ((pl sz bi).2 : Int)]] W.drew fun e w' => ∃ t, (t < sz.sum ∧ ((St.mk id (u0 us)).run (steps.take k)).g t = ((St.mk id (u0 us)).run (steps.take k)).g bi) ∧ e = .returned (.agg #[.int .u32 ((pl sz t).1 : Int), .int .u32 ((pl sz t).2 : Int)]) ∧ MS w T sz w1.heap.size (.slice (some ⟨rb, ro, none⟩) sz.sum rc) (((St.mk id (u0 us)).run (steps.take k)).merge ai bi) w' ∧ w'.ownsRow (w1.heap.size + 1) 55 2 u13 k (plCells sz tl)) := by
          refine (merge_sym HF.out HMD.out.sym (HMD.out.inv HI.out) HGD.out HU.out hs hai hbi).mono ?_
          rintro e w' ⟨t, ht, rfl, htg, hs', hk⟩
          exact ⟨t, ⟨ht, htg⟩, rfl, HMD.out.kp hk hs', own_keep HOD.out (fun g hg => hk.block g (HOD.out.lt g hg).2 (fun f hf e => by have := (HOD.out.lt g hg).1; have := HMD.out.ltB f hf; omega))⟩
        refine wp_region_inv (by kernel_rfl) (by kernel_rfl) (fun L => IM9 w w1 wr W.drew T sz us steps tl k ai bi A U n c m d b off q cq rb ro rc ahead u13 u37 u38 u39 u40 u41 u42 u43 u44 u45 u46 u47 u64 (L 0) (L 1) (L 2) (L 3) (L 4) (L 5) (L 6) (L 7) (L 8) (L 9) (L 10) (L 11) (L 12) (L 13) (L 14) (L 15) (L 16)) ?cong ?start ?step ?fin
        case cong =>
          intro L L' a w' h hI
          rw [h 0 (by decide), h 1 (by decide), h 2 (by decide), h 3 (by decide), h 4 (by decide), h 5 (by decide), h 6 (by decide), h 7 (by decide), h 8 (by decide), h 9 (by decide), h 10 (by decide), h 11 (by decide), h 12 (by decide), h 13 (by decide), h 14 (by decide), h 15 (by decide), h 16 (by decide)] at hI
          exact hI
        case start =>
          exact ⟨0, u48, u49, u50, u51, u52, u53, u54, u55, u56, u57, u58, u59, u60, u61, u62, u63, u13, rfl, fun _ => rfl, fun h => (by cases h), fun h => (by cases h), fun h => (by cases h), fun h => (by cases h), fun h => (by cases h), fun h => (by cases h), fun h => (by cases h), fun h => (by cases h), fun h => (by cases h), fun h => (by cases h), fun h => (by cases h), fun h => (by cases h), fun h => (by cases h), fun h => (by cases h), fun h => (by cases h), fun h => (by cases h), fun h => (by cases h), fun h => (by cases h), fun h => (by cases h), fun h => (by cases h), fun h => (by cases h), fun h => (by cases h), fun h => (by cases h), fun h => (by cases h), fun h => (by cases h), fun h => (by cases h), fun h => (by cases h), fun h => (by cases h), fun _ => rfl, fun h => (by cases h)⟩
        case step =>
          intro i op L a w' ho hL he hIn
          have hi : i < 17 := (Array.getElem?_eq_some_iff.1 ho).1
          have hcases : i = 0 ∨ i = 1 ∨ i = 2 ∨ i = 3 ∨ i = 4 ∨ i = 5 ∨ i = 6 ∨ i = 7 ∨ i = 8 ∨ i = 9 ∨ i = 10 ∨ i = 11 ∨ i = 12 ∨ i = 13 ∨ i = 14 ∨ i = 15 ∨ i = 16 := by omega
          clear hi
          rcases hcases with rfl | rfl | rfl | rfl | rfl | rfl | rfl | rfl | rfl | rfl | rfl | rfl | rfl | rfl | rfl | rfl | rfl
          · -- operation 0
            obtain rfl := Option.some.inj ho
            clear he
            obtain ⟨t, s48, s49, s50, s51, s52, s53, s54, s55, s56, s57, s58, s59, s60, s61, s62, s63, s13, rfl, hpre, p4, p5, p6, p9, p10, p11, p12, p13, p14, p15, p16, e0, e1, e2, e3, e4, e5, e6, e7, e8, e9, e10, e11, hc, ho, hp, hb, ha, hx, hy⟩ := hIn
            have fx : L 16 = false := by
              cases h : L 16 with
              | false => rfl
              | true => have h4 := (p15.out (p16.out h)).1; rw [h4] at hL; cases hL
            obtain rfl := hx.out fx
            go_wp2
            exact ⟨t, s13, s49, s50, s51, s52, s53, s54, s55, s56, s57, s58, s59, s60, s61, s62, s63, s13, rfl, hpre, p4, p5, p6, p9, p10, p11, p12, p13, p14, fun h => ⟨rfl, (p15.out h).2⟩, p16, fun _ => rfl, e1, e2, e3, e4, e5, e6, e7, e8, e9, e10, e11, hc, ho, hp, hb, ha, fun _ => rfl, hy⟩
          · -- operation 1
            obtain rfl := Option.some.inj ho
            clear he
            obtain ⟨t, s48, s49, s50, s51, s52, s53, s54, s55, s56, s57, s58, s59, s60, s61, s62, s63, s13, rfl, hpre, p4, p5, p6, p9, p10, p11, p12, p13, p14, p15, p16, e0, e1, e2, e3, e4, e5, e6, e7, e8, e9, e10, e11, hc, ho, hp, hb, ha, hx, hy⟩ := hIn
            have hc0 : L 12 = false := by
              cases h : L 12 with
              | false => rfl
              | true => have h4 := (p12.out h).1; rw [h4] at hL; cases hL
            obtain rfl := hpre.out hc0
            have c0 := HBOX.out
            clear hpre
            go_wp2
            exact ⟨t, s48, .agg #[.slice (some ⟨T.S, 0, none⟩) T.nf T.nf], s50, s51, s52, s53, s54, s55, s56, s57, s58, s59, s60, s61, s62, s63, s13, rfl, fun _ => rfl, p4, p5, p6, p9, p10, p11, fun h => ⟨rfl, (p12.out h).2.1, (p12.out h).2.2⟩, p13, p14, p15, p16, e0, fun _ => rfl, e2, e3, e4, e5, e6, e7, e8, e9, e10, e11, hc, ho, hp, hb, ha, hx, hy⟩
          · -- operation 2
            obtain rfl := Option.some.inj ho
            clear he
            obtain ⟨t, s48, s49, s50, s51, s52, s53, s54, s55, s56, s57, s58, s59, s60, s61, s62, s63, s13, rfl, hpre, p4, p5, p6, p9, p10, p11, p12, p13, p14, p15, p16, e0, e1, e2, e3, e4, e5, e6, e7, e8, e9, e10, e11, hc, ho, hp, hb, ha, hx, hy⟩ := hIn
            go_wp2
            exact ⟨t, s48, s49, .slice (some ⟨rb, ro, none⟩) sz.sum rc, s51, s52, s53, s54, s55, s56, s57, s58, s59, s60, s61, s62, s63, s13, rfl, hpre, p4, fun h => ⟨rfl, (p5.out h).2⟩, p6, p9, p10, p11, p12, p13, p14, p15, p16, e0, e1, fun _ => rfl, e3, e4, e5, e6, e7, e8, e9, e10, e11, hc, ho, hp, hb, ha, hx, hy⟩
          · -- operation 3
            obtain rfl := Option.some.inj ho
            clear he
            obtain ⟨t, s48, s49, s50, s51, s52, s53, s54, s55, s56, s57, s58, s59, s60, s61, s62, s63, s13, rfl, hpre, p4, p5, p6, p9, p10, p11, p12, p13, p14, p15, p16, e0, e1, e2, e3, e4, e5, e6, e7, e8, e9, e10, e11, hc, ho, hp, hb, ha, hx, hy⟩ := hIn
            go_wp2
            exact ⟨t, s48, s49, s50, .pointer (some ⟨wr.heap.size, 0, none⟩), s52, s53, s54, s55, s56, s57, s58, s59, s60, s61, s62, s63, s13, rfl, hpre, fun _ => rfl, p5, p6, p9, p10, p11, p12, p13, p14, p15, p16, e0, e1, e2, fun _ => rfl, e4, e5, e6, e7, e8, e9, e10, e11, hc, ho, hp, hb, ha, hx, hy⟩
          · -- operation 4
            obtain rfl := Option.some.inj ho
            have l0 : L 3 = true := he ⟨3, .data⟩ (by simp) rfl
            clear he
            obtain ⟨t, s48, s49, s50, s51, s52, s53, s54, s55, s56, s57, s58, s59, s60, s61, s62, s63, s13, rfl, hpre, p4, p5, p6, p9, p10, p11, p12, p13, p14, p15, p16, e0, e1, e2, e3, e4, e5, e6, e7, e8, e9, e10, e11, hc, ho, hp, hb, ha, hx, hy⟩ := hIn
            obtain rfl := e3.out l0
            have hc0 : L 12 = false := by
              cases h : L 12 with
              | false => rfl
              | true => have h4 := (p5.out (p6.out (p12.out h).2.1)).2; rw [h4] at hL; cases hL
            obtain rfl := hpre.out hc0
            have c0 := HX0.out
            clear hpre
            go_wp2
            exact ⟨t, s48, s49, s50, .pointer (some ⟨wr.heap.size, 0, none⟩), .int .i64 (ai : Int), s53, s54, s55, s56, s57, s58, s59, s60, s61, s62, s63, s13, rfl, fun _ => rfl, fun _ => l0, fun h => ⟨(p5.out h).1, rfl⟩, p6, p9, p10, p11, p12, p13, p14, p15, p16, e0, e1, e2, fun _ => rfl, fun _ => rfl, e5, e6, e7, e8, e9, e10, e11, hc, ho, hp, hb, ha, hx, hy⟩
          · -- operation 5
            obtain rfl := Option.some.inj ho
            have l0 : L 2 = true := he ⟨2, .data⟩ (by simp) rfl
            have l1 : L 4 = true := he ⟨4, .data⟩ (by simp) rfl
            clear he
            obtain ⟨t, s48, s49, s50, s51, s52, s53, s54, s55, s56, s57, s58, s59, s60, s61, s62, s63, s13, rfl, hpre, p4, p5, p6, p9, p10, p11, p12, p13, p14, p15, p16, e0, e1, e2, e3, e4, e5, e6, e7, e8, e9, e10, e11, hc, ho, hp, hb, ha, hx, hy⟩ := hIn
            obtain rfl := e2.out l0
            obtain rfl := e4.out l1
            go_wp2
            exact ⟨t, s48, s49, .slice (some ⟨rb, ro, none⟩) sz.sum rc, s51, .int .i64 (ai : Int), .pointer (some ⟨rb, ro + ai * 2, none⟩), s54, s55, s56, s57, s58, s59, s60, s61, s62, s63, s13, rfl, hpre, p4, fun _ => ⟨l0, l1⟩, fun _ => rfl, p9, p10, p11, p12, p13, p14, p15, p16, e0, e1, fun _ => rfl, e3, fun _ => rfl, fun _ => rfl, e6, e7, e8, e9, e10, e11, hc, ho, hp, hb, ha, hx, hy⟩
          · -- operation 6
            obtain rfl := Option.some.inj ho
            have l0 : L 5 = true := he ⟨5, .data⟩ (by simp) rfl
            clear he
            obtain ⟨t, s48, s49, s50, s51, s52, s53, s54, s55, s56, s57, s58, s59, s60, s61, s62, s63, s13, rfl, hpre, p4, p5, p6, p9, p10, p11, p12, p13, p14, p15, p16, e0, e1, e2, e3, e4, e5, e6, e7, e8, e9, e10, e11, hc, ho, hp, hb, ha, hx, hy⟩ := hIn
            obtain rfl := e5.out l0
            have hc0 : L 12 = false := by
              cases h : L 12 with
              | false => rfl
              | true => have h4 := (p12.out h).2.1; rw [h4] at hL; cases hL
            obtain rfl := hpre.out hc0
            have c0 := (HRC.out ai hai).1
            have c1 := (HRC.out ai hai).2
            clear hpre
            go_wp2
            exact ⟨t, s48, s49, s50, s51, s52, .pointer (some ⟨rb, ro + ai * 2, none⟩), .agg #[.int .u32 ((pl sz ai).1 : Int), .int .u32 ((pl sz ai).2 : Int)], s55, s56, s57, s58, s59, s60, s61, s62, s63, s13, rfl, fun _ => rfl, p4, p5, fun _ => l0, p9, p10, p11, fun h => ⟨(p12.out h).1, rfl, (p12.out h).2.2⟩, p13, p14, p15, p16, e0, e1, e2, e3, e4, fun _ => rfl, fun _ => rfl, e7, e8, e9, e10, e11, hc, ho, hp, hb, ha, hx, hy⟩
          · -- operation 7
            obtain rfl := Option.some.inj ho
            clear he
            obtain ⟨t, s48, s49, s50, s51, s52, s53, s54, s55, s56, s57, s58, s59, s60, s61, s62, s63, s13, rfl, hpre, p4, p5, p6, p9, p10, p11, p12, p13, p14, p15, p16, e0, e1, e2, e3, e4, e5, e6, e7, e8, e9, e10, e11, hc, ho, hp, hb, ha, hx, hy⟩ := hIn
            go_wp2
            exact ⟨t, s48, s49, s50, s51, s52, s53, s54, .slice (some ⟨rb, ro, none⟩) sz.sum rc, s56, s57, s58, s59, s60, s61, s62, s63, s13, rfl, hpre, p4, p5, p6, p9, fun h => ⟨rfl, (p10.out h).2⟩, p11, p12, p13, p14, p15, p16, e0, e1, e2, e3, e4, e5, e6, fun _ => rfl, e8, e9, e10, e11, hc, ho, hp, hb, ha, hx, hy⟩
          · -- operation 8
            obtain rfl := Option.some.inj ho
            clear he
            obtain ⟨t, s48, s49, s50, s51, s52, s53, s54, s55, s56, s57, s58, s59, s60, s61, s62, s63, s13, rfl, hpre, p4, p5, p6, p9, p10, p11, p12, p13, p14, p15, p16, e0, e1, e2, e3, e4, e5, e6, e7, e8, e9, e10, e11, hc, ho, hp, hb, ha, hx, hy⟩ := hIn
            go_wp2
            exact ⟨t, s48, s49, s50, s51, s52, s53, s54, s55, .pointer (some ⟨wr.heap.size, 1, none⟩), s57, s58, s59, s60, s61, s62, s63, s13, rfl, hpre, p4, p5, p6, fun _ => rfl, p10, p11, p12, p13, p14, p15, p16, e0, e1, e2, e3, e4, e5, e6, e7, fun _ => rfl, e9, e10, e11, hc, ho, hp, hb, ha, hx, hy⟩
          · -- operation 9
            obtain rfl := Option.some.inj ho
            have l0 : L 8 = true := he ⟨8, .data⟩ (by simp) rfl
            clear he
            obtain ⟨t, s48, s49, s50, s51, s52, s53, s54, s55, s56, s57, s58, s59, s60, s61, s62, s63, s13, rfl, hpre, p4, p5, p6, p9, p10, p11, p12, p13, p14, p15, p16, e0, e1, e2, e3, e4, e5, e6, e7, e8, e9, e10, e11, hc, ho, hp, hb, ha, hx, hy⟩ := hIn
            obtain rfl := e8.out l0
            have hc0 : L 12 = false := by
              cases h : L 12 with
              | false => rfl
              | true => have h4 := (p10.out (p11.out (p12.out h).2.2)).2; rw [h4] at hL; cases hL
            obtain rfl := hpre.out hc0
            have c0 := HX1.out
            clear hpre
            go_wp2
            exact ⟨t, s48, s49, s50, s51, s52, s53, s54, s55, .pointer (some ⟨wr.heap.size, 1, none⟩), .int .i64 (bi : Int), s58, s59, s60, s61, s62, s63, s13, rfl, fun _ => rfl, p4, p5, p6, fun _ => l0, fun h => ⟨(p10.out h).1, rfl⟩, p11, p12, p13, p14, p15, p16, e0, e1, e2, e3, e4, e5, e6, e7, fun _ => rfl, fun _ => rfl, e10, e11, hc, ho, hp, hb, ha, hx, hy⟩
          · -- operation 10
            obtain rfl := Option.some.inj ho
            have l0 : L 7 = true := he ⟨7, .data⟩ (by simp) rfl
            have l1 : L 9 = true := he ⟨9, .data⟩ (by simp) rfl
            clear he
            obtain ⟨t, s48, s49, s50, s51, s52, s53, s54, s55, s56, s57, s58, s59, s60, s61, s62, s63, s13, rfl, hpre, p4, p5, p6, p9, p10, p11, p12, p13, p14, p15, p16, e0, e1, e2, e3, e4, e5, e6, e7, e8, e9, e10, e11, hc, ho, hp, hb, ha, hx, hy⟩ := hIn
            obtain rfl := e7.out l0
            obtain rfl := e9.out l1
            go_wp2
            exact ⟨t, s48, s49, s50, s51, s52, s53, s54, .slice (some ⟨rb, ro, none⟩) sz.sum rc, s56, .int .i64 (bi : Int), .pointer (some ⟨rb, ro + bi * 2, none⟩), s59, s60, s61, s62, s63, s13, rfl, hpre, p4, p5, p6, p9, fun _ => ⟨l0, l1⟩, fun _ => rfl, p12, p13, p14, p15, p16, e0, e1, e2, e3, e4, e5, e6, fun _ => rfl, e8, fun _ => rfl, fun _ => rfl, e11, hc, ho, hp, hb, ha, hx, hy⟩
          · -- operation 11
            obtain rfl := Option.some.inj ho
            have l0 : L 10 = true := he ⟨10, .data⟩ (by simp) rfl
            clear he
            obtain ⟨t, s48, s49, s50, s51, s52, s53, s54, s55, s56, s57, s58, s59, s60, s61, s62, s63, s13, rfl, hpre, p4, p5, p6, p9, p10, p11, p12, p13, p14, p15, p16, e0, e1, e2, e3, e4, e5, e6, e7, e8, e9, e10, e11, hc, ho, hp, hb, ha, hx, hy⟩ := hIn
            obtain rfl := e10.out l0
            have hc0 : L 12 = false := by
              cases h : L 12 with
              | false => rfl
              | true => have h4 := (p12.out h).2.2; rw [h4] at hL; cases hL
            obtain rfl := hpre.out hc0
            have c0 := (HRC.out bi hbi).1
            have c1 := (HRC.out bi hbi).2
            clear hpre
            go_wp2
            exact ⟨t, s48, s49, s50, s51, s52, s53, s54, s55, s56, s57, .pointer (some ⟨rb, ro + bi * 2, none⟩), .agg #[.int .u32 ((pl sz bi).1 : Int), .int .u32 ((pl sz bi).2 : Int)], s60, s61, s62, s63, s13, rfl, fun _ => rfl, p4, p5, p6, p9, p10, fun _ => l0, fun h => ⟨(p12.out h).1, (p12.out h).2.1, rfl⟩, p13, p14, p15, p16, e0, e1, e2, e3, e4, e5, e6, e7, e8, e9, fun _ => rfl, fun _ => rfl, hc, ho, hp, hb, ha, hx, hy⟩
          · -- operation 12
            obtain rfl := Option.some.inj ho
            have l0 : L 1 = true := he ⟨1, .data⟩ (by simp) rfl
            have l1 : L 6 = true := he ⟨6, .data⟩ (by simp) rfl
            have l2 : L 11 = true := he ⟨11, .data⟩ (by simp) rfl
            clear he
            obtain ⟨t, s48, s49, s50, s51, s52, s53, s54, s55, s56, s57, s58, s59, s60, s61, s62, s63, s13, rfl, hpre, p4, p5, p6, p9, p10, p11, p12, p13, p14, p15, p16, e0, e1, e2, e3, e4, e5, e6, e7, e8, e9, e10, e11, hc, ho, hp, hb, ha, hx, hy⟩ := hIn
            obtain rfl := e1.out l0
            obtain rfl := e6.out l1
            obtain rfl := e11.out l2
            obtain rfl := hpre.out hL
            have f13 : L 13 = false := by
              cases h : L 13 with
              | false => rfl
              | true => have h4 := (p13.out h); rw [h4] at hL; cases hL
            have f14 : L 14 = false := by
              cases h : L 14 with
              | false => rfl
              | true => have h4 := (p13.out (p14.out h)); rw [h4] at hL; cases hL
            have f15 : L 15 = false := by
              cases h : L 15 with
              | false => rfl
              | true => have h4 := (p13.out (p14.out (p15.out h).2)); rw [h4] at hL; cases hL
            have f16 : L 16 = false := by
              cases h : L 16 with
              | false => rfl
              | true => have h4 := (p13.out (p14.out (p15.out (p16.out h)).2)); rw [h4] at hL; cases hL
            clear hpre hc ho hp hb ha
            go_wp2_with fail
            refine HCALL.out.mono ?_
            rintro e w2 ⟨t2, htp, rfl, hms2, hown2⟩
            have HM2 := Lib.hid hms2
            have HTP := Lib.hid htp
            have HO2 := Lib.hid hown2
            clear hms2 hown2 htp
            go_wp2
            exact ⟨t2, s48, .agg #[.slice (some ⟨T.S, 0, none⟩) T.nf T.nf], s50, s51, s52, s53, .agg #[.int .u32 ((pl sz ai).1 : Int), .int .u32 ((pl sz ai).2 : Int)], s55, s56, s57, s58, .agg #[.int .u32 ((pl sz bi).1 : Int), .int .u32 ((pl sz bi).2 : Int)], .agg #[.int .u32 ((pl sz t2).1 : Int), .int .u32 ((pl sz t2).2 : Int)], s61, s62, s63, s13, rfl, fun h => (by cases h), p4, p5, p6, p9, p10, p11, fun _ => ⟨l0, l1, l2⟩, fun _ => rfl, p14, p15, p16, e0, fun _ => rfl, e2, e3, e4, e5, fun _ => rfl, e7, e8, e9, e10, fun _ => rfl, fun _ => ⟨HTP.out, rfl, HM2.out⟩, fun _ _ => HO2.out, fun h => (by have h' : L 13 = true := h; rw [f13] at h'; cases h'), fun h => (by have h' : L 14 = true := h; rw [f14] at h'; cases h'), fun h => (by have h' : L 15 = true := h; rw [f15] at h'; cases h'), hx, hy⟩
          · -- operation 13
            obtain rfl := Option.some.inj ho
            have l0 : L 12 = true := he ⟨12, .data⟩ (by simp) rfl
            clear he
            obtain ⟨t, s48, s49, s50, s51, s52, s53, s54, s55, s56, s57, s58, s59, s60, s61, s62, s63, s13, rfl, hpre, p4, p5, p6, p9, p10, p11, p12, p13, p14, p15, p16, e0, e1, e2, e3, e4, e5, e6, e7, e8, e9, e10, e11, hc, ho, hp, hb, ha, hx, hy⟩ := hIn
            have f14 : L 14 = false := by
              cases h : L 14 with
              | false => rfl
              | true => have h4 := (p14.out h); rw [h4] at hL; cases hL
            have f15 : L 15 = false := by
              cases h : L 15 with
              | false => rfl
              | true => have h4 := (p14.out (p15.out h).2); rw [h4] at hL; cases hL
            have f16 : L 16 = false := by
              cases h : L 16 with
              | false => rfl
              | true => have h4 := (p14.out (p15.out (p16.out h)).2); rw [h4] at hL; cases hL
            obtain ⟨⟨htl, htp⟩, hsc, HM⟩ := hc.out l0
            obtain rfl := hsc
            have HTP := Lib.hid htp
            clear htp
            have HO3 := Lib.hid (ho.out l0 f15).out
            clear hpre hc ho hb ha
            go_wp2_with fail
            refine (impPlace_any (pl sz t) w' (HPS.out t htl).1 (HPS.out t htl).2).mono ?_
            rintro e w2 ⟨rfl, hb2⟩
            have HM2 := Lib.hid (HM.out.sub hb2)
            have HO2 := Lib.hid (own_below HO3.out hb2)
            clear hb2
            go_wp2
            exact ⟨t, s48, s49, s50, s51, s52, s53, s54, s55, s56, s57, s58, s59, .agg #[.int .u32 ((pl sz t).1 : Int), .int .u32 ((pl sz t).2 : Int)], .agg #[.int .i64 ((pl sz t).1 : Int), .int .i64 ((pl sz t).2 : Int)], s62, s63, s13, rfl, fun h => (by have h' : L 12 = false := h; rw [l0] at h'; cases h'), p4, p5, p6, p9, p10, p11, p12, fun _ => l0, fun _ => rfl, p15, p16, e0, e1, e2, e3, e4, e5, e6, e7, e8, e9, e10, e11, fun _ => ⟨⟨htl, HTP.out⟩, rfl, HM2.out⟩, fun _ _ => HO2.out, fun _ => rfl, fun h => (by have h' : L 14 = true := h; rw [f14] at h'; cases h'), fun h => (by have h' : L 15 = true := h; rw [f15] at h'; cases h'), hx, hy⟩
          · -- operation 14
            obtain rfl := Option.some.inj ho
            have l0 : L 13 = true := he ⟨13, .data⟩ (by simp) rfl
            clear he
            obtain ⟨t, s48, s49, s50, s51, s52, s53, s54, s55, s56, s57, s58, s59, s60, s61, s62, s63, s13, rfl, hpre, p4, p5, p6, p9, p10, p11, p12, p13, p14, p15, p16, e0, e1, e2, e3, e4, e5, e6, e7, e8, e9, e10, e11, hc, ho, hp, hb, ha, hx, hy⟩ := hIn
            have f15 : L 15 = false := by
              cases h : L 15 with
              | false => rfl
              | true => have h4 := (p15.out h).2; rw [h4] at hL; cases hL
            have f16 : L 16 = false := by
              cases h : L 16 with
              | false => rfl
              | true => have h4 := (p15.out (p16.out h)).2; rw [h4] at hL; cases hL
            obtain ⟨⟨htl, htp⟩, hsc, HM⟩ := hc.out (p13.out l0)
            obtain rfl := hsc
            have HTP := Lib.hid htp
            clear htp
            have HO3 := Lib.hid (ho.out (p13.out l0) f15).out
            obtain rfl := hp.out l0
            have HM2 := Lib.hid (HM.out.alloc (.cells #[.int .i64 ((pl sz t).1 : Int), .int .i64 ((pl sz t).2 : Int)] 55))
            have HO2 := Lib.hid (HO3.out.alloc (.cells #[.int .i64 ((pl sz t).1 : Int), .int .i64 ((pl sz t).2 : Int)] 55))
            have HR2 := Lib.hid (reads_new w' #[.int .i64 ((pl sz t).1 : Int), .int .i64 ((pl sz t).2 : Int)] 55 (b := w'.heap.size) rfl)
            clear hpre hc ho hb ha hp
            go_wp2
            exact ⟨t, s48, s49, s50, s51, s52, s53, s54, s55, s56, s57, s58, s59, .agg #[.int .u32 ((pl sz t).1 : Int), .int .u32 ((pl sz t).2 : Int)], .agg #[.int .i64 ((pl sz t).1 : Int), .int .i64 ((pl sz t).2 : Int)], .slice (some ⟨w'.heap.size, 0, none⟩) 1 1, s63, s13, rfl, fun h => (by have h' : L 12 = false := h; rw [(p13.out l0)] at h'; cases h'), p4, p5, p6, p9, p10, p11, p12, p13, fun _ => l0, fun h => ⟨(p15.out h).1, rfl⟩, p16, e0, e1, e2, e3, e4, e5, e6, e7, e8, e9, e10, e11, fun _ => ⟨⟨htl, HTP.out⟩, rfl, HM2.out⟩, fun _ _ => HO2.out, fun _ => rfl, fun _ _ => ⟨_, rfl, HR2.out⟩, fun h => (by have h' : L 15 = true := h; rw [f15] at h'; cases h'), hx, hy⟩
          · -- operation 15
            obtain rfl := Option.some.inj ho
            have l0 : L 0 = true := he ⟨0, .data⟩ (by simp) rfl
            have l1 : L 14 = true := he ⟨14, .data⟩ (by simp) rfl
            clear he
            obtain ⟨t, s48, s49, s50, s51, s52, s53, s54, s55, s56, s57, s58, s59, s60, s61, s62, s63, s13, rfl, hpre, p4, p5, p6, p9, p10, p11, p12, p13, p14, p15, p16, e0, e1, e2, e3, e4, e5, e6, e7, e8, e9, e10, e11, hc, ho, hp, hb, ha, hx, hy⟩ := hIn
            obtain rfl := e0.out l0
            have f16 : L 16 = false := by
              cases h : L 16 with
              | false => rfl
              | true => have h4 := (p16.out h); rw [h4] at hL; cases hL
            obtain ⟨⟨htl, htp⟩, hsc, HM⟩ := hc.out (p13.out (p14.out l1))
            obtain rfl := hsc
            have HTP := Lib.hid htp
            clear htp
            have HO3 := Lib.hid (ho.out (p13.out (p14.out l1)) hL).out
            obtain ⟨g, hg0, HRD⟩ := hb.out l1 hL
            obtain rfl := hg0
            have hbg := HM.out.big
            clear hpre hc ho hb ha
            refine wpList_append_any _ rfl _ _ 51 rfl (w1.heap.size + 1) 55 i0 _ 2 16 Tryd.underlying51 hi0 hz0 hz1 hz2 rfl (by decide) _ _ _ rfl HO3.out (g + 1) (some ⟨g, 0, none⟩) 1 1 [.int .i64 ((pl sz t).1 : Int), .int .i64 ((pl sz t).2 : Int)] rfl HRD.out ?c2 ?c3 ?c4 ?c5 ?_
            case c2 => intro u hu; simp at hu; rcases hu with rfl | rfl <;> rfl
            case c3 => unfold maxLen; omega
            case c4 => omega
            case c5 => omega
            intro v' w5 hown5 hg5 _
            have HO5 : Hid (w5.ownsRow (w1.heap.size + 1) 55 2 v' (k + 1) (plCells sz (tl ++ [t]))) := by rw [plCells_snoc]; exact hown5
            have HM5 := Lib.hid (HM.out.grown hg5 (fun g hgg => by have := (HO3.out.lt g hgg).1; omega))
            clear hown5 hg5
            go_wp2
            exact ⟨t, s48, s49, s50, s51, s52, s53, s54, s55, s56, s57, s58, s59, .agg #[.int .u32 ((pl sz t).1 : Int), .int .u32 ((pl sz t).2 : Int)], s61, .slice (some ⟨g, 0, none⟩) 1 1, v', s13, rfl, fun h => (by have h' : L 12 = false := h; rw [(p13.out (p14.out l1))] at h'; cases h'), p4, p5, p6, p9, p10, p11, p12, p13, p14, fun _ => ⟨l0, l1⟩, fun _ => rfl, fun _ => rfl, e1, e2, e3, e4, e5, e6, e7, e8, e9, e10, e11, fun _ => ⟨⟨htl, HTP.out⟩, rfl, HM5.out⟩, fun _ h => (by cases h), hp, fun _ h => (by cases h), fun _ => HO5.out, hx, fun h => (by have h' : L 16 = true := h; rw [f16] at h'; cases h')⟩
          · -- operation 16
            obtain rfl := Option.some.inj ho
            have l0 : L 15 = true := he ⟨15, .data⟩ (by simp) rfl
            clear he
            obtain ⟨t, s48, s49, s50, s51, s52, s53, s54, s55, s56, s57, s58, s59, s60, s61, s62, s63, s13, rfl, hpre, p4, p5, p6, p9, p10, p11, p12, p13, p14, p15, p16, e0, e1, e2, e3, e4, e5, e6, e7, e8, e9, e10, e11, hc, ho, hp, hb, ha, hx, hy⟩ := hIn
            go_wp2
            exact ⟨t, s48, s49, s50, s51, s52, s53, s54, s55, s56, s57, s58, s59, s60, s61, s62, s63, s63, rfl, hpre, p4, p5, p6, p9, p10, p11, p12, p13, p14, p15, fun _ => l0, e0, e1, e2, e3, e4, e5, e6, e7, e8, e9, e10, e11, hc, ho, hp, hb, ha, fun h => (by cases h), fun _ => rfl⟩
        case fin =>
          rintro a w' ⟨t, s48, s49, s50, s51, s52, s53, s54, s55, s56, s57, s58, s59, s60, s61, s62, s63, s13, rfl, hpre, p4, p5, p6, p9, p10, p11, p12, p13, p14, p15, p16, e0, e1, e2, e3, e4, e5, e6, e7, e8, e9, e10, e11, hc, ho, hp, hb, ha, hx, hy⟩
          obtain ⟨⟨htl, htp⟩, hsc, HM⟩ := hc.out rfl
          have HA := ha.out rfl
          obtain rfl := hy.out rfl
          have HTP := Lib.hid htp
          clear htp
          dsimp only [Exit.then]
          clear hpre p4 p5 p6 p9 p10 p11 p12 p13 p14 p15 p16 e0 e1 e2 e3 e4 e5 e6 e7 e8 e9 e10 e11 hc ho hp hb ha hx hy
          have HRUN : Hid ((St.mk id (u0 us)).run (steps.take (k + 1)) = ((St.mk id (u0 us)).run (steps.take k)).merge ai bi) := by
            rw [St.run_snoc _ _ _ hk2, HSK.out]
            unfold St.step
            rw [if_neg (Int.not_lt.2 hneg)]
            exact rfl
          have HTN : Hid (ToldOk sz.sum ⟨id, u0 us⟩ (steps.take (k + 1)) (tl ++ [t])) := HTL.out.snoc hk2 htl (fun h => by rw [HSK.out] at h; exact absurd h (Int.not_lt.2 hneg)) (fun _ => by rw [HSK.out]; exact HTP.out)
          go_wp2_with fail
          go_roundw
          case rel => exact ⟨k + 1, tl ++ [t], by omega, by go_num, by rw [HRUN.out]; exact HM.out, HA.out, HTN.out⟩
          case measure => simp [intOf]; omega
    · have hkq : k = q := by omega
      subst hkq
      have hst : steps.take k = steps := by rw [HQ.out]; exact List.take_length
      rw [hst] at HMS HTL
      have HGD : Hid (Good sz.sum (u0 us) ((St.mk id (u0 us)).run steps)) := (Good.start _ _).run HST.out
      have HSM : Hid (∀ i, i < sz.sum → ((St.mk id (u0 us)).run steps).u i ≤ 3000000000) := uses_small hs HU.out HST.out
      clear hst HST HU HQ hqq hlt hk HRS hm hmm
      generalize hrun : (St.mk id (u0 us)).run steps = st at *
      have HRUN := Lib.hid hrun
      clear hrun
      go_upto_if 65 with fail
      go_cut [] from 66 to 67 (fun wx => Hid (MS w T sz w1.heap.size vr st wx) ∧ Hid (wx.ownsRow (w1.heap.size + 1) 55 2 u13 k (plCells sz tl)))
      case first =>
        cases ahead
        · go_wp2_with fail
          go_meet
          exact ⟨HMS.out, HO.out⟩
        · have cb := HMS.out.box
          go_wp2_with fail
          refine (followAll_any T sz st w.heap.size wr HF.out HMS.out.sym (HMS.out.inv HI.out) HI.out.size3 HMS.out.few).mono ?_
          rintro e w2 ⟨rfl, hs2, hk2⟩
          have HM2 := Lib.hid (HMS.out.kp hk2 hs2)
          have HO2 := Lib.hid (own_kp HO.out hk2 (fun g hg f hf => by have := (HO.out.lt g hg).1; have := HMS.out.ltB f hf; omega))
          clear hs2 hk2 cb
          go_wp2_with fail
          go_meet
          exact ⟨HM2.out, HO2.out⟩
      case rest =>
        clear HMS HO
        obtain ⟨HMS, HO⟩ := hcut
        obtain ⟨AR, cR, hvr, hcR, _⟩ := own_slice HMS.out.refs
        subst hvr
        have HNB : Hid (w1.heap.size < wc.heap.size) := HMS.out.big
        have HTB : Hid (∀ g, Value.ownBlock u13 = some g → w1.heap.size < g ∧ g < wc.heap.size) := fun g hg => ⟨(HO.out.lt g hg).1, (HO.out.lt g hg).2⟩
        have HPS : Hid (∀ t, t < sz.sum → (pl sz t).1 ≤ 4294967295 ∧ (pl sz t).2 ≤ 4294967295) := fun t ht => by
          obtain ⟨s, htb, _⟩ := HMS.out.sym.tab
          exact pl_small HF.out htb ht
        go_wp2_with fail
        go_loopw [14, 70] (fun v x wr => ∃ (j : Nat), j ≤ sz.sum ∧ x = .int .i64 j ∧ Hid (MS w T sz w1.heap.size (.slice AR sz.sum cR) st wr) ∧ Hid (wr.ownsRow (w1.heap.size + 1) 55 2 u13 k (plCells sz tl)) ∧ Hid (wr.ownsRow wc.heap.size 55 2 v j (plCells sz ((List.range j).map st.g))) ∧ Hid (wc.heap.size ≤ wr.heap.size)) (fun _ x _ => sz.sum - (intOf x).toNat)
        case atStart => exact ⟨0, by omega, rfl, HMS.out, HO.out, World.ownsRow_nil _ _ _ _, Nat.le_refl wc.heap.size⟩
        case round =>
          clear HMS HO
          obtain ⟨j, hj, rfl, HMS, HO, HL, HGE⟩ := hrel
          by_cases hlt : j < sz.sum
          · obtain ⟨rb, ro, rc, e', _, c0, c1⟩ := HMS.out.ref hlt
            injection e' with e1 e2 e3
            subst e1 e3
            have hgl := HGD.out.lt j hlt
            go_upto_region 16 with fail
            have HMW := Lib.hid (HMS.out.alloc (.cells #[.int .u32 ((pl sz j).1 : Int), .int .u32 ((pl sz j).2 : Int)] 100))
            have HOW := Lib.hid (HO.out.alloc (.cells #[.int .u32 ((pl sz j).1 : Int), .int .u32 ((pl sz j).2 : Int)] 100))
            have HLW := Lib.hid (HL.out.alloc (.cells #[.int .u32 ((pl sz j).1 : Int), .int .u32 ((pl sz j).2 : Int)] 100))
            have HGW : Hid (wc.heap.size ≤ (wr.alloc (.cells #[.int .u32 ((pl sz j).1 : Int), .int .u32 ((pl sz j).2 : Int)] 100)).heap.size) := Nat.le_trans HGE.out ((Below.refl wr.heap.size wr).alloc (Nat.le_refl _) _).size
            have x0 : (wr.alloc (.cells #[.int .u32 ((pl sz j).1 : Int), .int .u32 ((pl sz j).2 : Int)] 100)).cell? ⟨wr.heap.size, 0, none⟩ = some (.int .u32 ((pl sz j).1 : Int)) := (Lib.cell_of_heap (heap_alloc_new wr _) _).trans rfl
            have x1 : (wr.alloc (.cells #[.int .u32 ((pl sz j).1 : Int), .int .u32 ((pl sz j).2 : Int)] 100)).cell? ⟨wr.heap.size, 1, none⟩ = some (.int .u32 ((pl sz j).2 : Int)) := (Lib.cell_of_heap (heap_alloc_new wr _) _).trans rfl
            generalize (wr.alloc (.cells #[.int .u32 ((pl sz j).1 : Int), .int .u32 ((pl sz j).2 : Int)] 100)) = W at *
            have cb := HMW.out.box
            clear c0 c1 HMS HO HL HGE
            go_wp2_with fail
            refine (follow_sym HF.out HMW.out.sym (HMW.out.inv HI.out) HI.out.size3 hlt).mono ?_
            rintro e w2 ⟨rfl, hs2, hk2⟩
            have HM2 := Lib.hid (HMW.out.kp hk2 hs2)
            have HO2 := Lib.hid (own_kp HOW.out hk2 (fun g hg f hf => by have := (HTB.out g hg).1; have := HMW.out.ltB f hf; omega))
            have HL2 := Lib.hid (own_kp HLW.out hk2 (fun g hg f hf => by have := (HLW.out.lt g hg).1; have := HNB.out; have := HMW.out.ltB f hf; omega))
            have HG2 := Lib.hid (Nat.le_trans HGW.out hk2.size)
            clear hs2 hk2 HMW HOW HLW HGW x0 x1 cb
            go_wp2_with fail
            refine (impPlace_any (pl sz (st.g j)) w2 (HPS.out _ hgl).1 (HPS.out _ hgl).2).mono ?_
            rintro e w3 ⟨rfl, hb3⟩
            have HM3 := Lib.hid ((HM2.out.sub hb3).alloc (.cells #[.int .i64 ((pl sz (st.g j)).1 : Int), .int .i64 ((pl sz (st.g j)).2 : Int)] 55))
            have HO3 := Lib.hid ((own_below HO2.out hb3).alloc (.cells #[.int .i64 ((pl sz (st.g j)).1 : Int), .int .i64 ((pl sz (st.g j)).2 : Int)] 55))
            have HL3 := Lib.hid ((own_below HL2.out hb3).alloc (.cells #[.int .i64 ((pl sz (st.g j)).1 : Int), .int .i64 ((pl sz (st.g j)).2 : Int)] 55))
            have HR3 := Lib.hid (reads_new w3 #[.int .i64 ((pl sz (st.g j)).1 : Int), .int .i64 ((pl sz (st.g j)).2 : Int)] 55 (b := w3.heap.size) rfl)
            have HG3 : Hid (wc.heap.size ≤ (w3.alloc (.cells #[.int .i64 ((pl sz (st.g j)).1 : Int), .int .i64 ((pl sz (st.g j)).2 : Int)] 55)).heap.size) := Nat.le_trans HG2.out (Nat.le_trans hb3.size ((Below.refl w3.heap.size w3).alloc (Nat.le_refl _) _).size)
            clear hb3 HM2 HO2 HL2 HG2
            go_wp2_with (at_builtin; refine wpList_append_any _ rfl _ _ 51 rfl wc.heap.size 55 i0 _ 2 16 Tryd.underlying51 hi0 hz0 hz1 hz2 rfl (by decide) _ _ _ rfl HL3.out (w3.heap.size + 1) (some ⟨w3.heap.size, 0, none⟩) 1 1 [.int .i64 ((pl sz (st.g j)).1 : Int), .int .i64 ((pl sz (st.g j)).2 : Int)] rfl HR3.out ?c2 ?c3 ?c4 ?c5 ?_)
            case c2 => intro u hu; simp at hu; rcases hu with rfl | rfl <;> rfl
            case c3 => unfold maxLen; omega
            case c4 => omega
            case c5 => exact HG3.out
            intro v' w5 hown5 hg5 _
            have HL5 : Hid (w5.ownsRow wc.heap.size 55 2 v' (j + 1) (plCells sz ((List.range (j + 1)).map st.g))) := by rw [map_range_snoc, plCells_snoc]; exact hown5
            have HM5 := Lib.hid (HM3.out.grown hg5 (fun g hgg => Nat.lt_of_lt_of_le HNB.out (HL3.out.lt g hgg).1))
            have HO5 := Lib.hid (own_apart HO3.out hg5 (fun g hg e => by have := (HTB.out g hg).2; have := (HL3.out.lt g e).1; omega))
            have HG5 := Lib.hid (Nat.le_trans HG3.out hg5.size)
            clear hown5 hg5 HM3 HO3 HL3 HR3 HG3
            go_wp2
            go_roundw
            case rel => exact ⟨j + 1, by omega, by go_num, HM5.out, HO5.out, HL5.out, HG5.out⟩
            case measure => simp [intOf]; omega
          · have hjn : j = sz.sum := by omega
            subst hjn
            have HNC : Hid (w1.heap.size < wr.heap.size) := Nat.lt_of_lt_of_le HNB.out HGE.out
            have HLB : Hid (∀ g, Value.ownBlock u14 = some g → w1.heap.size < g ∧ g < wr.heap.size) := fun g hg => ⟨Nat.lt_of_lt_of_le HNB.out (HL.out.lt g hg).1, (HL.out.lt g hg).2⟩
            have HTC : Hid (∀ g, Value.ownBlock u13 = some g → w1.heap.size < g ∧ g < wr.heap.size) := fun g hg => ⟨(HTB.out g hg).1, Nat.lt_of_lt_of_le (HTB.out g hg).2 HGE.out⟩
            generalize hW3 : wr = W3 at *
            clear HTB hlt hj HGE
            go_wp2_with fail
            go_loopw [15, 84] (fun v x wr => ∃ (j : Nat), j ≤ sz.sum ∧ x = .int .i64 j ∧ Hid (MS w T sz w1.heap.size (.slice AR sz.sum cR) st wr) ∧ Hid (wr.ownsRow (w1.heap.size + 1) 55 2 u13 k (plCells sz tl)) ∧ Hid (wr.ownsRow wc.heap.size 55 2 u14 sz.sum (plCells sz ((List.range sz.sum).map st.g))) ∧ Hid (wr.ownsRow W3.heap.size 3 1 v j (intCells ((List.range j).map fun i => (st.u i : Int)))) ∧ Hid (W3.heap.size ≤ wr.heap.size)) (fun _ x _ => sz.sum - (intOf x).toNat)
            case atStart => exact ⟨0, by omega, rfl, HMS.out, HO.out, HL.out, World.ownsRow_nil _ _ _ _, Nat.le_refl W3.heap.size⟩
            case round =>
              clear HMS HO HL
              obtain ⟨j, hj, rfl, HMS, HO, HL, HCT, HGE⟩ := hrel
              by_cases hlt : j < sz.sum
              · obtain ⟨rb, ro, rc, e', _, c0, c1⟩ := HMS.out.ref hlt
                injection e' with e1 e2 e3
                subst e1 e3
                go_upto_region 21 with fail
                have HMW := Lib.hid (HMS.out.alloc (.cells #[.int .u32 ((pl sz j).1 : Int), .int .u32 ((pl sz j).2 : Int)] 100))
                have HOW := Lib.hid (HO.out.alloc (.cells #[.int .u32 ((pl sz j).1 : Int), .int .u32 ((pl sz j).2 : Int)] 100))
                have HLW := Lib.hid (HL.out.alloc (.cells #[.int .u32 ((pl sz j).1 : Int), .int .u32 ((pl sz j).2 : Int)] 100))
                have HCW := Lib.hid (HCT.out.alloc (.cells #[.int .u32 ((pl sz j).1 : Int), .int .u32 ((pl sz j).2 : Int)] 100))
                have HGW : Hid (W3.heap.size ≤ (wr.alloc (.cells #[.int .u32 ((pl sz j).1 : Int), .int .u32 ((pl sz j).2 : Int)] 100)).heap.size) := Nat.le_trans HGE.out ((Below.refl wr.heap.size wr).alloc (Nat.le_refl _) _).size
                have x0 : (wr.alloc (.cells #[.int .u32 ((pl sz j).1 : Int), .int .u32 ((pl sz j).2 : Int)] 100)).cell? ⟨wr.heap.size, 0, none⟩ = some (.int .u32 ((pl sz j).1 : Int)) := (Lib.cell_of_heap (heap_alloc_new wr _) _).trans rfl
                have x1 : (wr.alloc (.cells #[.int .u32 ((pl sz j).1 : Int), .int .u32 ((pl sz j).2 : Int)] 100)).cell? ⟨wr.heap.size, 1, none⟩ = some (.int .u32 ((pl sz j).2 : Int)) := (Lib.cell_of_heap (heap_alloc_new wr _) _).trans rfl
                generalize (wr.alloc (.cells #[.int .u32 ((pl sz j).1 : Int), .int .u32 ((pl sz j).2 : Int)] 100)) = W at *
                have cb := HMW.out.box
                clear c0 c1 HMS HO HL HCT HGE
                go_wp2_with fail
                obtain ⟨s, htb, hus⟩ := HMW.out.sym.tab
                refine (get_any T w.heap.size s W (pl sz j) htb (HF.out.pl hlt)).mono ?_
                rintro e w3 ⟨rfl, hb3⟩
                have cu : w3.cell? ⟨T.B (pl sz j).1, (pl sz j).2 * 10 + 4, none⟩ = some (.int .u32 (st.u j)) := by
                  rw [(htb.sub hb3).useCell (HF.out.pl hlt), hus j hlt]
                have hsu := HSM.out j hlt
                have HM2 := Lib.hid (HMW.out.sub hb3)
                have HO2 := Lib.hid (own_below HOW.out hb3)
                have HL2 := Lib.hid (own_below HLW.out hb3)
                have HC2 := Lib.hid (own_below HCW.out hb3)
                have HG2 := Lib.hid (Nat.le_trans HGW.out hb3.size)
                clear hb3 htb hus HMW HOW HLW HGW HCW x0 x1 cb
                generalize hU1 : st.u j = U1 at *
                have HU1 := Lib.hid hU1
                clear hU1
                have HM3 := Lib.hid (HM2.out.alloc (.cells #[.int .i64 (U1 : Int)] 3))
                have HO3 := Lib.hid (HO2.out.alloc (.cells #[.int .i64 (U1 : Int)] 3))
                have HL3 := Lib.hid (HL2.out.alloc (.cells #[.int .i64 (U1 : Int)] 3))
                have HC3 := Lib.hid (HC2.out.alloc (.cells #[.int .i64 (U1 : Int)] 3))
                have HR3 := Lib.hid (reads_new w3 #[.int .i64 (U1 : Int)] 3 (b := w3.heap.size) rfl)
                have HG3 : Hid (W3.heap.size ≤ (w3.alloc (.cells #[.int .i64 (U1 : Int)] 3)).heap.size) := Nat.le_trans HG2.out ((Below.refl w3.heap.size w3).alloc (Nat.le_refl _) _).size
                clear HM2 HO2 HL2 HG2 HC2
                go_wp2_with (at_builtin; refine wpList_append_any _ rfl _ _ 40 rfl W3.heap.size 3 i1 _ 1 8 Tryd.underlying40 hj0 hy0 hy1 hy2 rfl (by decide) _ _ _ rfl HC3.out (w3.heap.size + 1) (some ⟨w3.heap.size, 0, none⟩) 1 1 [.int .i64 (U1 : Int)] rfl HR3.out ?c2 ?c3 ?c4 ?c5 ?_)
                case c2 => intro u hu; simp at hu; rcases hu with rfl; rfl
                case c3 => unfold maxLen; omega
                case c4 => omega
                case c5 => exact HG3.out
                intro v' w5 hown5 hg5 _
                have HC5 : Hid (w5.ownsRow W3.heap.size 3 1 v' (j + 1) (intCells ((List.range (j + 1)).map fun i => (st.u i : Int)))) := by rw [map_range_snoc, intCells_append, HU1.out]; exact hown5
                have HM5 := Lib.hid (HM3.out.grown hg5 (fun g hgg => Nat.lt_of_lt_of_le HNC.out (HC3.out.lt g hgg).1))
                have HO5 := Lib.hid (own_apart HO3.out hg5 (fun g hg e => by have := (HTC.out g hg).2; have := (HC3.out.lt g e).1; omega))
                have HL5 := Lib.hid (own_apart HL3.out hg5 (fun g hg e => by have := (HLB.out g hg).2; have := (HC3.out.lt g e).1; omega))
                have HG5 := Lib.hid (Nat.le_trans HG3.out hg5.size)
                clear hown5 hg5 HM3 HO3 HL3 HR3 HG3 HC3
                go_wp2
                go_roundw
                case rel => exact ⟨j + 1, by omega, by go_num, HM5.out, HO5.out, HL5.out, HC5.out, HG5.out⟩
                case measure => simp [intOf]; omega
              · have hjn : j = sz.sum := by omega
                subst hjn
                go_wp2
                have hB := HMS.out.base
                have hb1 := HNB.out
                have hb2 := HNC.out
                refine bodyPost_ret (v := .tuple #[u13, u14, u15]) (by simp [results, Tryd.results29, go_sem]) rfl ⟨u13, u14, u15, tl, rfl, HTL.out, own_lower HO.out (by omega), ?_, ?_, HMS.out.bel⟩
                · rw [HRUN.out]; exact own_lower HL.out (by omega)
                · rw [HRUN.out]; exact own_lower HCT.out (by omega)
end Go.Proofs.YtbkgbnejmgjiiaaDoor
