/- What NewSymbolMap and impl.table make: a table of symbols without links, with their uses, and the list of all symbols. Conditions: at most 1048576 files, at most 3000 symbols in all, uses between 0 and 1000000. -/
import Derived.Test.YtbkgbnejmgjiiaaDoorWReady
namespace Go.Proofs.YtbkgbnejmgjiiaaDoor
open Go.RowKit Go.Deep

theorem info110 : (Tryd.prog.info? 110).map (fun i => (i.zero.map Value.cells, i.size, i.bytes)) = some (some #[.pointer none, .string ⟨#[]⟩, .int .u32 0, .int .u32 0, .int .u32 0, .int .u32 0, .int .u32 0, .int .u16 0, .int .u8 0, .int .u8 0], 10, 48) := by kernel_rfl
theorem info129 : (Tryd.prog.info? 129).map (fun i => (i.zero, i.size, i.bytes)) = some (some (.slice none 0 0), 1, 24) := by kernel_rfl
theorem info100 : (Tryd.prog.info? 100).map (fun i => (i.zero, i.size, i.bytes)) = some (some (.agg #[.int .u32 0, .int .u32 0]), 2, 8) := by kernel_rfl

def symZ (j : Nat) : Value :=
  if j % 10 = 0 then .pointer none else if j % 10 = 1 then .string ⟨#[]⟩ else if j % 10 = 2 then .int .u32 0 else if j % 10 = 3 then .int .u32 0
  else if j % 10 = 4 then .int .u32 0 else if j % 10 = 5 then .int .u32 0 else if j % 10 = 6 then .int .u32 0 else if j % 10 = 7 then .int .u16 0 else .int .u8 0
def symZs : Array Value := #[.pointer none, .string ⟨#[]⟩, .int .u32 0, .int .u32 0, .int .u32 0, .int .u32 0, .int .u32 0, .int .u16 0, .int .u8 0, .int .u8 0]
theorem symZs_at (j : Nat) : symZs[j % 10]! = symZ j := by
  have h : j % 10 = 0 ∨ j % 10 = 1 ∨ j % 10 = 2 ∨ j % 10 = 3 ∨ j % 10 = 4 ∨ j % 10 = 5 ∨ j % 10 = 6 ∨ j % 10 = 7 ∨ j % 10 = 8 ∨ j % 10 = 9 := by omega
  rcases h with h | h | h | h | h | h | h | h | h | h <;> (simp only [symZ, h]; rfl)
/-- make([]Symbol, n) -/
theorem make_syms (n : Nat) (hn : n ≤ 3000) (w : World) : ∃ cs, (Instr.makeSlice 129 (.int .i64 (n : Int)) (.int .i64 (n : Int))).run Tryd.prog w = .ok (.slice (some ⟨w.heap.size, 0, none⟩) n n) (w.alloc (.cells cs 110)) ∧ (w.alloc (.cells cs 110)).rowIs w.heap.size 110 (n * 10) symZ := by
  obtain ⟨i, hi, hz⟩ := Option.map_eq_some_iff.1 info110
  simp only [Prod.mk.injEq] at hz
  obtain ⟨hz, hs, hb⟩ := hz
  obtain ⟨z, hz1, hz2⟩ := Option.map_eq_some_iff.1 hz
  have hr := run_make (P := Tryd.prog) w 129 110 i z Tryd.underlying129 hi hz1 .i64 .i64 n n (by omega) (Int.le_refl _) (by rw [hb]; omega) (by omega)
  simp only [Int.toNat_natCast, hs] at hr
  refine ⟨_, hr, ?_⟩
  have hrow := World.rowIs_alloc w (madeCells z.cells (n * 10)) 110 symZ (fun j hj => by
    rw [size_madeCells] at hj
    rw [hz2]
    show (madeCells symZs (n * 10))[j]? = _
    simp only [madeCells, Array.getElem?_map, Array.getElem?_range, hj, if_true, Option.map_some]
    rw [show symZs.size = 10 from rfl, symZs_at])
  rw [size_madeCells] at hrow
  exact hrow

set_option maxHeartbeats 1000000 in
theorem newMap_any (n : Nat) (hn : n ≤ 1048576) (w : World) :
    Calls Tryd.prog 58 #[.int .i64 (n : Int)] w fun e w' => e = .returned (.agg #[.slice (some ⟨w.heap.size + 1, 0, none⟩) n n]) ∧ w'.rowIs (w.heap.size + 1) 129 n (fun _ => .slice none 0 0) ∧ w'.heap.size = w.heap.size + 1 + 1 ∧ Below w.heap.size w w' := by
  have hmk := run_make_row' (P := Tryd.prog) 92 129 (.slice none 0 0) 24 Tryd.underlying92 info129 rfl .i64 .i64 n (by omega) (by omega)
  go_enter Tryd.func58, Tryd.ntmps58
  go_wp2
  refine bodyPost_ret (v := .agg #[.slice (some ⟨w.heap.size + 1, 0, none⟩) n n]) (by simp [results, Tryd.results58, go_sem]) rfl ⟨rfl, ?_, by simp, ?_⟩
  · have := World.rowIs_made (w.alloc (.cells #[.slice (some ⟨w.heap.size + 1, 0, none⟩) n n] 94)) (.slice none 0 0) n 129
    rw [World.size_alloc] at this
    exact this
  · exact ((Below.refl _ _).alloc (Nat.le_refl _) _).alloc (by simp) _

/-- the state of a table that is being made -/
structure TU (S n : Nat) (sz : List Nat) (s : UF) (base k : Nat) (B : Nat → Nat) (w : World) : Prop where
  outer : w.rowIs S 129 n (fun f => if f < k then .slice (some ⟨B f, 0, none⟩) (sz.getD f 0) (sz.getD f 0) else .slice none 0 0)
  inner : ∀ f, f < k → w.rowIs (B f) 110 (sz.getD f 0 * 10) (symCell s f)
  inj : ∀ f g, f < k → g < k → B f = B g → f = g
  ne : ∀ f, f < k → B f ≠ S
  ge : ∀ f, f < k → base ≤ B f
theorem TU.keep {S n : Nat} {sz : List Nat} {s : UF} {base k : Nat} {B : Nat → Nat} {w w' : World} (h : TU S n sz s base k B w) (hS : w'.heap[S]? = w.heap[S]?) (hB : ∀ f, f < k → w'.heap[B f]? = w.heap[B f]?) : TU S n sz s base k B w' :=
  { h with outer := h.outer.of_block hS, inner := fun f hf => (h.inner f hf).of_block (hB f hf) }
theorem TU.next {S n : Nat} {sz : List Nat} {s : UF} {base k b : Nat} {B : Nat → Nat} {w : World} (h : TU S n sz s base k B w) (hb : w.rowIs b 110 (sz.getD k 0 * 10) (symCell s k)) (hbS : b ≠ S) (hbB : ∀ f, f < k → b ≠ B f) (hge : base ≤ b) :
    TU S n sz s base (k + 1) (fun f => if f = k then b else B f) (w.setCell ⟨S, k, none⟩ (.slice (some ⟨b, 0, none⟩) (sz.getD k 0) (sz.getD k 0))) := by
  constructor
  · refine (h.outer.set k _).congr (fun j _ => ?_)
    by_cases e : j = k
    · subst e; rw [if_pos rfl, if_pos (by omega), if_pos rfl]
    · rw [if_neg e, if_neg e]
      by_cases hj : j < k
      · rw [if_pos hj, if_pos (by omega)]
      · rw [if_neg hj, if_neg (by omega)]
  · intro f hf
    by_cases e : f = k
    · subst e; rw [if_pos rfl]; exact hb.setOther hbS _
    · rw [if_neg e]; exact (h.inner f (by omega)).setOther (h.ne f (by omega)) _
  · intro f g hf hg he
    by_cases e1 : f = k
    · by_cases e2 : g = k
      · omega
      · rw [if_pos e1, if_neg e2] at he; exact absurd he (hbB g (by omega))
    · by_cases e2 : g = k
      · rw [if_neg e1, if_pos e2] at he; exact absurd he.symm (hbB f (by omega))
      · rw [if_neg e1, if_neg e2] at he; exact h.inj f g (by omega) (by omega) he
  · intro f hf
    by_cases e : f = k
    · rw [if_pos e]; exact hbS
    · rw [if_neg e]; exact h.ne f (by omega)
  · intro f hf
    by_cases e : f = k
    · rw [if_pos e]; exact hge
    · rw [if_neg e]; exact h.ge f (by omega)
/-- a file's symbols, some of them made -/
def symPart (s : UF) (k i j : Nat) : Value := if j / 10 < i then symCell s k j else symZ j
theorem symPart_link {w : World} {s : UF} {b k i N : Nat} (h : w.rowIs b 110 (N * 10) (symPart s k i)) (hl : s.link (k, i) = none) :
    (((w.setCell ⟨b, i * 10 + 2, none⟩ (.int .u32 4294967295)).setCell ⟨b, i * 10 + 2 + 1, none⟩ (.int .u32 4294967295)).setCell ⟨b, i * 10 + 4, none⟩ (.int .u32 (s.uses (k, i)))).rowIs b 110 (N * 10) (symPart s k (i + 1)) := by
  refine (((h.set (i * 10 + 2) _).set (i * 10 + 2 + 1) _).set (i * 10 + 4) _).congr (fun j hj => ?_)
  have hj2 : j = j / 10 * 10 + j % 10 := by omega
  have hjm : j % 10 < 10 := Nat.mod_lt _ (by omega)
  by_cases e4 : j = i * 10 + 4
  · rw [if_pos e4, e4, symPart, if_pos (by omega), symCell_at _ _ _ _ (by omega)]; rfl
  · rw [if_neg e4]
    by_cases e3 : j = i * 10 + 2 + 1
    · rw [if_pos e3, e3, symPart, if_pos (by omega), show i * 10 + 2 + 1 = i * 10 + 3 from rfl, symCell_at _ _ _ _ (by omega)]; simp [linkB, hl]
    · rw [if_neg e3]
      by_cases e2 : j = i * 10 + 2
      · rw [if_pos e2, e2, symPart, if_pos (by omega), symCell_at _ _ _ _ (by omega)]; simp [linkA, hl]
      · rw [if_neg e2]
        unfold symPart
        by_cases h1 : j / 10 < i
        · rw [if_pos h1, if_pos (by omega)]
        · rw [if_neg h1]
          by_cases h2 : j / 10 < i + 1
          · rw [if_pos h2]
            have r2 : j % 10 ≠ 2 := by omega
            have r3 : j % 10 ≠ 3 := by omega
            have r4 : j % 10 ≠ 4 := by omega
            simp [symZ, symCell, r2, r3, r4]
          · rw [if_neg h2]
theorem symPart_none {w : World} {s : UF} {b k i N : Nat} (h : w.rowIs b 110 (N * 10) (symPart s k i)) (hl : s.link (k, i) = none) (hu : s.uses (k, i) = 0) :
    ((w.setCell ⟨b, i * 10 + 2, none⟩ (.int .u32 4294967295)).setCell ⟨b, i * 10 + 2 + 1, none⟩ (.int .u32 4294967295)).rowIs b 110 (N * 10) (symPart s k (i + 1)) := by
  refine ((h.set (i * 10 + 2) _).set (i * 10 + 2 + 1) _).congr (fun j hj => ?_)
  have hj2 : j = j / 10 * 10 + j % 10 := by omega
  have hjm : j % 10 < 10 := Nat.mod_lt _ (by omega)
  by_cases e3 : j = i * 10 + 2 + 1
  · rw [if_pos e3, e3, symPart, if_pos (by omega), show i * 10 + 2 + 1 = i * 10 + 3 from rfl, symCell_at _ _ _ _ (by omega)]; simp [linkB, hl]
  · rw [if_neg e3]
    by_cases e2 : j = i * 10 + 2
    · rw [if_pos e2, e2, symPart, if_pos (by omega), symCell_at _ _ _ _ (by omega)]; simp [linkA, hl]
    · rw [if_neg e2]
      unfold symPart
      by_cases h1 : j / 10 < i
      · rw [if_pos h1, if_pos (by omega)]
      · rw [if_neg h1]
        by_cases h2 : j / 10 < i + 1
        · rw [if_pos h2]
          have r2 : j % 10 ≠ 2 := by omega
          have r3 : j % 10 ≠ 3 := by omega
          have e : j / 10 = i := by omega
          simp [symZ, symCell, r2, r3, e, hu]
        · rw [if_neg h2]
theorem symPart_cells {w : World} {s : UF} {b k i N : Nat} (h : w.rowIs b 110 (N * 10) (symPart s k i)) (hi : i < N) : w.cell? ⟨b, i * 10 + 2, none⟩ = some (.int .u32 0) ∧ w.cell? ⟨b, i * 10 + 2 + 1, none⟩ = some (.int .u32 0) ∧ w.cell? ⟨b, i * 10 + 4, none⟩ = some (.int .u32 0) := by
  refine ⟨?_, ?_, ?_⟩
  · rw [h.cell (i := i * 10 + 2) (by omega), symPart, if_neg (by omega), symZ]
    simp [show (i * 10 + 2) % 10 = 2 by omega]
  · rw [h.cell (i := i * 10 + 2 + 1) (by omega), symPart, if_neg (by omega), symZ]
    simp [show (i * 10 + 2 + 1) % 10 = 3 by omega]
  · rw [h.cell (i := i * 10 + 4) (by omega), symPart, if_neg (by omega), symZ]
    simp [show (i * 10 + 4) % 10 = 4 by omega]

def rfCells (l : List (Nat × Nat)) : List Value := l.flatMap fun x => [.int .u32 (x.1 : Int), .int .u32 (x.2 : Int)]
def refsTo (sz : List Nat) (m : Nat) : List (Nat × Nat) := (List.range m).map (pl sz)
theorem refsTo_snoc (sz : List Nat) (m : Nat) : rfCells (refsTo sz (m + 1)) = rfCells (refsTo sz m) ++ [.int .u32 ((pl sz m).1 : Int), .int .u32 ((pl sz m).2 : Int)] := by
  simp [refsTo, rfCells, List.range_succ]
/-- uses by number -/
def u0 (us : List Int) (i : Nat) : Nat := (us.getD i 0).toNat
def uf0 (sz : List Nat) (us : List Int) : UF := ⟨fun _ => none, fun x => u0 us (numOf sz x)⟩
theorem u0_le {us : List Int} (h : okUses us) (i : Nat) : u0 us i ≤ 1000000 := by
  unfold u0
  by_cases hi : i < us.length
  · have := h us[i] (List.getElem_mem _)
    simp [List.getD, hi]
    omega
  · simp [List.getD, hi]
end Go.Proofs.YtbkgbnejmgjiiaaDoor
