/- What impl.scanned returns: the counts of the signs of texts; Include adds counts. Conditions: the texts can be counted (each times between -1000 and 1000, at most 100000 bytes in all). -/
import Derived.Test.YtbkgbnejmgjiiaaDoorWScan
import Derived.Laws.Tables
import Derived.Laws.CopyOwn
namespace Go.Proofs.YtbkgbnejmgjiiaaDoor
open Go.RowKit Go.Deep

theorem spot_of_cell {w : World} {a : Addr} {v : Value} (h : w.cell? a = some v) : a.spot = none := by
  unfold World.cell? at h
  split at h
  · cases hs : a.spot with
    | none => rfl
    | some s => simp [hs] at h
  · cases h
theorem Reads.at_ {w : World} {B size n : Nat} {A : Option Addr} {xs : List Value} (h : Reads w B size A n xs) (hx : 0 < xs.length) :
    ∃ b off, A = some ⟨b, off, none⟩ ∧ b < B ∧ ∀ j u, xs[j]? = some u → w.cell? ⟨b, off + j, none⟩ = some u := by
  have hn : 0 < n := by
    rcases Nat.eq_zero_or_pos n with h0 | h0
    · have := h.1; rw [h0] at this; simp at this; rw [this] at hx; simp at hx
    · exact h0
  obtain ⟨ad, rfl, hb, hc⟩ := h.2 hn
  have h0 := hc 0 _ (List.getElem?_eq_getElem hx)
  have hadd0 : ad.add 0 = ad := by simp [Addr.add]
  rw [hadd0] at h0
  have hs := spot_of_cell h0
  obtain ⟨b, off, spot⟩ := ad
  simp only at hs
  subst hs
  refine ⟨b, off, rfl, hb, fun j u hu => ?_⟩
  have := hc j u hu
  have hadd : (⟨b, off, none⟩ : Addr).add j = ⟨b, off + j, none⟩ := by
    unfold Addr.add
    split <;> simp_all
  rw [hadd] at this
  exact this

/-- texts as cells -/
def txtCells (ts : List (ByteArray × Int)) : List Value := ts.flatMap fun t => [.string t.1, .int .i64 t.2]
theorem txtCells_length (ts : List (ByteArray × Int)) : (txtCells ts).length = ts.length * 2 := by
  induction ts with
  | nil => rfl
  | cons t ts ih => simp only [txtCells, List.flatMap_cons, List.length_append, List.length_cons, List.length_nil] at *; omega
theorem txtCells_at (ts : List (ByteArray × Int)) : ∀ (k : Nat) (h : k < ts.length), (txtCells ts)[k * 2]? = some (.string ts[k].1) ∧ (txtCells ts)[k * 2 + 1]? = some (.int .i64 ts[k].2) := by
  induction ts with
  | nil => intro k h; simp at h
  | cons t ts ih =>
    intro k h
    match k with
    | 0 => exact ⟨rfl, rfl⟩
    | k + 1 =>
      have := ih k (by simpa using h)
      have e1 : (k + 1) * 2 = k * 2 + 1 + 1 := by omega
      rw [e1]
      exact this
theorem txtCells_append (a b : List (ByteArray × Int)) : txtCells (a ++ b) = txtCells a ++ txtCells b := by simp [txtCells]
def plainT (ts : List (ByteArray × Int)) : List (List UInt8 × Int) := ts.map fun t => (t.1.data.toList, t.2)

/-- a row of n cells, written out -/
theorem rowIs_heap {w : World} {b : Nat} {t : TypeId} {n : Nat} {f : Nat → Value} (h : w.rowIs b t n f) : w.heap[b]? = some (.cells (Array.ofFn (n := n) fun i => f i) t (0, 0)) := by
  obtain ⟨c, hb, hn, hc⟩ := h
  rw [hb]
  congr 2
  apply Array.ext
  · simp [hn]
  · intro i h1 h2
    have := hc i (by omega)
    rw [Array.getElem?_eq_getElem h1] at this
    injection this with this
    simp [this]
theorem rowIs_of_heap {w : World} {b : Nat} {t : TypeId} {n : Nat} {f : Nat → Value} (h : w.heap[b]? = some (.cells (Array.ofFn (n := n) fun i => f i) t (0, 0))) : w.rowIs b t n f :=
  ⟨_, h, by simp, fun i hi => by simp [hi]⟩
/-- the value of a row of counts -/
def freqV (F : Nat → Int) : Array Value := Array.ofFn (n := 64) fun i => .int .i32 (F i)
theorem zeros64 (w : World) : (w.alloc (.cells (Array.replicate 64 (.int .i32 0)) 85)).rowIs w.heap.size 85 64 (fun _ => .int .i32 0) := by
  have := World.rowIs_alloc w (Array.replicate 64 (.int .i32 0)) 85 (fun _ => .int .i32 0) (fun i hi => by simp at hi; simp [hi])
  simpa using this
theorem info85 : (Tryd.prog.info? 85).map (·.size) = some 64 := by kernel_rfl
theorem info85' (F : Nat → Int) : (Tryd.prog.info? 85).map (·.size) = some (freqV F).size := by rw [info85]; simp [freqV]

theorem scan_all (b : Nat) (F : Nat → Int) (s : ByteArray) (d : Int) (w : World) (hrow : w.rowIs b 85 64 (fun i => .int .i32 (F i))) (hs : s.size ≤ 100000) (hd : -1000 ≤ d ∧ d ≤ 1000) (hF : ∀ i, -1000000000 ≤ F i ∧ F i ≤ 1000000000) :
    Calls Tryd.prog 57 #[.pointer (some ⟨b, 0, none⟩), .string s, .int .i32 d] w fun e w' => e = .returned (.tuple #[]) ∧ w'.rowIs b 85 64 (fun i => .int .i32 (F i + d * occ s.data.toList i)) ∧ w.grownBy w' (some b) := by
  by_cases h : d = 0
  · subst h; exact scan_zero b F s w hrow
  · exact scan_any b F s d w hrow hs hd (beq_eq_false_iff_ne.2 h) hF
theorem freqV_one (F : Nat → Int) : (freqV F).all (·.oneCell') = true := by
  rw [Array.all_eq_true_iff_forall_mem]
  intro v hv
  simp only [freqV, Array.mem_ofFn] at hv
  obtain ⟨i, rfl⟩ := hv
  rfl
theorem long_mem {l : List (List UInt8 × Int)} {t : List UInt8 × Int} (h : t ∈ l) : t.1.length ≤ long l := by
  induction l with
  | nil => cases h
  | cons x xs ih =>
    simp only [long]
    rcases List.mem_cons.1 h with rfl | h
    · omega
    · have := ih h; omega

set_option maxHeartbeats 1000000 in
set_option maxRecDepth 100000 in
theorem scanned_any (A : Option Addr) (n c : Nat) (ts : List (ByteArray × Int)) (w : World) (hr : Reads w w.heap.size 2 A n (txtCells ts)) (hn : n = ts.length) (hm : n ≤ 9223372036854775807) (ht : areTexts (plainT ts)) :
    Calls Tryd.prog 43 #[.slice A n c] w fun e w' => e = .returned (.agg (freqV (cnt (plainT ts)))) ∧ Below w.heap.size w w' := by
  have HR := Lib.hid hr
  have HN := Lib.hid hn
  have HT := Lib.hid ht
  clear hr hn ht
  go_enter Tryd.func43, Tryd.ntmps43
  go_wp2
  go_loopw [8] (fun v wr => ∃ k : Nat, k ≤ n ∧ v = .int .i64 k ∧ Hid (wr.rowIs w.heap.size 85 64 (fun _ => .int .i32 0)) ∧ Hid (wr.rowIs (w.heap.size + 1) 85 64 (fun j => .int .i32 (cnt ((plainT ts).take k) j))) ∧ Hid (Below w.heap.size w wr)) (fun v _ => n - (intOf v).toNat)
  case atStart =>
    refine ⟨0, by omega, rfl, (zeros64 w).alloc _, ?_, ((Below.refl _ _).alloc (Nat.le_refl _) _).alloc (by simp) _⟩
    have := zeros64 (w.alloc (.cells (Array.replicate 64 (.int .i32 0)) 85))
    rw [World.size_alloc] at this
    exact this
  case round =>
    obtain ⟨k, hk, rfl, HZ, HX, HW⟩ := hrel
    by_cases hlt : k < n
    · have hk2 : k < ts.length := by rw [← HN.out]; exact hlt
      obtain ⟨b, off, rfl, hbB, hcell⟩ := HR.out.at_ (by rw [txtCells_length, ← HN.out]; omega)
      have hcx := txtCells_at ts k hk2
      have c0 : wr.cell? ⟨b, off + k * 2, none⟩ = some (.string ts[k].1) := (HW.out.cell (p := ⟨b, _, none⟩) hbB).trans (hcell _ _ hcx.1)
      have c1 : wr.cell? ⟨b, off + k * 2 + 1, none⟩ = some (.int .i64 ts[k].2) := (HW.out.cell (p := ⟨b, _, none⟩) hbB).trans (hcell _ _ hcx.2)
      have htimes : -1000 ≤ ts[k].2 ∧ ts[k].2 ≤ 1000 := by
        have := HT.out.1 (ts[k].1.data.toList, ts[k].2) (List.mem_map.2 ⟨ts[k], List.getElem_mem _, rfl⟩)
        exact this
      clear hcell hcx
      have hsz : ts[k].1.size ≤ 100000 := by
        rw [Lib.size_eq]
        have h1 := HT.out.2
        have h2 := long_mem (l := plainT ts) (t := (ts[k].1.data.toList, ts[k].2)) (List.mem_map.2 ⟨ts[k], List.getElem_mem _, rfl⟩)
        simp only at h2
        omega
      have HF : Hid (∀ j, -1000000000 ≤ cnt ((plainT ts).take k) j ∧ cnt ((plainT ts).take k) j ≤ 1000000000) := by
        intro j
        have h1 := cnt_le _ (timesOk_take HT.out.1 k) j
        have h2 := long_take (plainT ts) k
        have h3 := HT.out.2
        omega
      go_wp2_with fail
      refine (scan_all _ _ _ _ _ (HX.out.alloc _) hsz htimes HF.out).mono ?_
      rintro e w1 ⟨rfl, hr1, hg1⟩
      have HX1 : Hid (w1.rowIs (w.heap.size + 1) 85 64 (fun j => .int .i32 (cnt ((plainT ts).take (k + 1)) j))) := by
        refine hr1.congr (fun j _ => ?_)
        rw [cnt_zero (plainT ts) k (by simpa [plainT] using hk2)]
        simp [plainT]
      have HZ1 : Hid (w1.rowIs w.heap.size 85 64 (fun _ => .int .i32 0)) := rowIs_only (HZ.out.alloc _) hg1 (by omega)
      have HW1 : Hid (Below w.heap.size w w1) := (HW.out.alloc HW.out.size _).trans (below_of_only hg1 (by have := HW.out.size; simp; omega) (by omega))
      clear hr1 hg1
      go_wp2
      go_roundw
      case rel => exact ⟨k + 1, by omega, by go_num, HZ1.out, HX1.out, HW1.out⟩
      case measure => simp [intOf]; omega
    · have ht : (plainT ts).take k = plainT ts := List.take_of_length_le (by simp [plainT]; have := HN.out; omega)
      rw [ht] at HX
      have hx := Lib.hid (rowIs_heap HX.out)
      have hz := Lib.hid (rowIs_heap HZ.out)
      clear ht
      go_wp2_with (first
        | (refine wpList_load_row rfl 85 _ rfl (w.heap.size + 1) rfl 85 (freqV (cnt (plainT ts))) (0, 0) _ hx.out Tryd.underlying85 rfl (info85' _) ?_)
        | (refine wpList_store_row rfl 85 _ _ rfl w.heap.size (freqV (cnt (plainT ts))) rfl rfl 85 _ hz.out (info85' _) (by simp [freqV]) (freqV_one _) ?_))
      refine bodyPost_ret (results_cell_row (fn := Tryd.f43) rfl _ _ w.heap.size 85 (freqV (cnt (plainT ts))) (0, 0) _ rfl (setRow_heap _ _ _ _ _ _ hz.out) Tryd.underlying85 rfl (info85' _)) rfl ⟨rfl, ?_⟩
      exact below_setRow HW.out (Nat.le_refl _) _
set_option maxHeartbeats 1000000 in
theorem include_any (a b : Nat) (F G : Nat → Int) (w : World) (hab : a ≠ b) (ha : w.rowIs a 85 64 (fun i => .int .i32 (F i))) (hb : w.rowIs b 85 64 (fun i => .int .i32 (G i))) (hF : ∀ i, -1000000000 ≤ F i ∧ F i ≤ 1000000000) (hG : ∀ i, -1000000000 ≤ G i ∧ G i ≤ 1000000000) :
    Calls Tryd.prog 44 #[.pointer (some ⟨a, 0, none⟩), .pointer (some ⟨b, 0, none⟩)] w fun e w' => e = .returned (.tuple #[]) ∧ w'.rowIs a 85 64 (fun i => .int .i32 (F i + G i)) ∧ w.grownBy w' (some a) := by
  have HA := Lib.hid ha
  have HB := Lib.hid hb
  have HF := Lib.hid hF
  have HG := Lib.hid hG
  clear ha hb hF hG
  go_enter Tryd.func44, Tryd.ntmps44
  go_wp2
  go_loopw [4] (fun v wr => ∃ k : Nat, k ≤ 64 ∧ v = .int .i64 k ∧ Hid (wr.rowIs a 85 64 (fun j => .int .i32 (if j < k then F j + G j else F j))) ∧ Hid (w.grownBy wr (some a))) (fun v _ => 64 - (intOf v).toNat)
  case atStart => exact ⟨0, by omega, rfl, HA.out.congr (fun j _ => by simp), World.grownBy.refl _ _⟩
  case round =>
    obtain ⟨k, hk, rfl, HX, HW⟩ := hrel
    by_cases hlt : k < 64
    · have cx : wr.cell? ⟨a, k, none⟩ = some (.int .i32 (F k)) := by
        have := HX.out.cell hlt
        simpa using this
      have cy : wr.cell? ⟨b, k, none⟩ = some (.int .i32 (G k)) := (rowIs_only HB.out HW.out (fun e => hab e.symm)).cell hlt
      have fx : wr.frozen? ⟨a, k, none⟩ = false := HX.out.frozen k
      have b1 := HF.out k
      have b2 := HG.out k
      go_wp2
      go_region
      all_goals
        go_wp2
        go_roundw
        case rel =>
          refine ⟨k + 1, by omega, by go_num, ?_, only_drew (only_setCell HW.out (.inl rfl) _)⟩
          refine (HX.out.set k _).congr (fun i hi => ?_)
          by_cases e : i = k
          · subst e; simp
          · rw [if_neg e]
            by_cases h' : i < k
            · rw [if_pos h', if_pos (by omega)]
            · rw [if_neg h', if_neg (by omega)]
        case measure => simp [intOf]; omega
    · go_wp2
      go_end0
      refine ⟨rfl, ?_, HW.out⟩
      exact HX.out.congr (fun i hi => by rw [if_pos (by omega)])
end Go.Proofs.YtbkgbnejmgjiiaaDoor
