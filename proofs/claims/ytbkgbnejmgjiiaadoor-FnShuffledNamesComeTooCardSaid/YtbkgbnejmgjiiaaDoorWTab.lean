/- The table of symbols in memory: what Get returns, what stores of links and uses do to it. Conditions: at most 1048576 files of at most 3000 symbols each. -/
import Derived.Test.YtbkgbnejmgjiiaaDoorWMem
import Derived.Test.YtbkgbnejmgjiiaaDoorWEql
import Derived.Test.YtbkgbnejmgjiiaaDoorWRegion
namespace Go.Proofs.YtbkgbnejmgjiiaaDoor
open Go.RowKit Go.Deep

/-- a table of symbols: its outer block, how many files, each file's block and size -/
structure Tbl where
  S : Nat
  nf : Nat
  B : Nat → Nat
  sz : Nat → Nat
def Tbl.V (T : Tbl) (x : Nat × Nat) : Prop := x.1 < T.nf ∧ x.2 < T.sz x.1
/-- links and uses -/
structure UF where
  link : Nat × Nat → Option (Nat × Nat)
  uses : Nat × Nat → Nat
def linkA (s : UF) (x : Nat × Nat) : Int := match s.link x with
  | some y => (y.1 : Int)
  | none => 4294967295
def linkB (s : UF) (x : Nat × Nat) : Int := match s.link x with
  | some y => (y.2 : Int)
  | none => 4294967295
def symCell (s : UF) (f j : Nat) : Value :=
  if j % 10 = 0 then .pointer none else if j % 10 = 1 then .string ⟨#[]⟩ else if j % 10 = 2 then .int .u32 (linkA s (f, j / 10)) else if j % 10 = 3 then .int .u32 (linkB s (f, j / 10))
  else if j % 10 = 4 then .int .u32 (s.uses (f, j / 10)) else if j % 10 = 5 then .int .u32 0 else if j % 10 = 6 then .int .u32 0 else if j % 10 = 7 then .int .u16 0 else .int .u8 0
structure Tab (T : Tbl) (base : Nat) (s : UF) (w : World) : Prop where
  outer : w.rowIs T.S 129 T.nf (fun f => .slice (some ⟨T.B f, 0, none⟩) (T.sz f) (T.sz f))
  inner : ∀ f, f < T.nf → w.rowIs (T.B f) 110 (T.sz f * 10) (symCell s f)
  inj : ∀ f g, f < T.nf → g < T.nf → T.B f = T.B g → f = g
  ne : ∀ f, f < T.nf → T.B f ≠ T.S
  geS : base ≤ T.S
  geB : ∀ f, f < T.nf → base ≤ T.B f
  few : T.nf ≤ 1048576
  small : ∀ f, f < T.nf → T.sz f ≤ 3000
def refV (x : Nat × Nat) : Value := .agg #[.int .u32 (x.1 : Int), .int .u32 (x.2 : Int)]
def mapV (T : Tbl) : Value := .agg #[.slice (some ⟨T.S, 0, none⟩) T.nf T.nf]

theorem Tab.sub {T : Tbl} {base : Nat} {s : UF} {w w' : World} (h : Tab T base s w) (hb : Below w.heap.size w w') : Tab T base s w' :=
  { h with outer := rowIs_below h.outer hb h.outer.lt, inner := fun f hf => rowIs_below (h.inner f hf) hb (h.inner f hf).lt }

set_option maxHeartbeats 1000000 in
theorem get_any (T : Tbl) (base : Nat) (s : UF) (w : World) (x : Nat × Nat) (h : Tab T base s w) (hx : T.V x) :
    Calls Tryd.prog 52 #[.agg #[.slice (some ⟨T.S, 0, none⟩) T.nf T.nf], .agg #[.int .u32 (x.1 : Int), .int .u32 (x.2 : Int)]] w fun e w' => e = .returned (.pointer (some ⟨T.B x.1, x.2 * 10, none⟩)) ∧ Below w.heap.size w w' := by
  have H := Lib.hid h
  have hS := h.outer.lt
  have hc := h.outer.cell hx.1
  have hx1 := hx.1
  have hx2 := hx.2
  have hf := h.few
  have hm := h.small _ hx.1
  clear h hx
  go_enter Tryd.func52, Tryd.ntmps52
  go_wp2
  go_quiet (fail)
  go_wp2
  go_ret
  exact ⟨rfl, below_drewN (((Below.refl _ _).alloc (Nat.le_refl _) _).alloc (by simp) _) nq⟩

/-- the blocks of symbols alone have turned -/
structure Kp (T : Tbl) (w w' : World) : Prop where
  os : w'.os = w.os
  tape : w'.tape = w.tape
  output : w'.output = w.output
  size : w.heap.size ≤ w'.heap.size
  block : ∀ k, k < w.heap.size → (∀ f, f < T.nf → k ≠ T.B f) → w'.heap[k]? = w.heap[k]?
theorem Kp.refl (T : Tbl) (w : World) : Kp T w w := ⟨rfl, rfl, rfl, Nat.le_refl _, fun _ _ _ => rfl⟩
theorem Kp.trans {T : Tbl} {a b c : World} (h : Kp T a b) (k : Kp T b c) : Kp T a c :=
  ⟨k.os.trans h.os, k.tape.trans h.tape, k.output.trans h.output, Nat.le_trans h.size k.size, fun i hi hn => (k.block i (Nat.lt_of_lt_of_le hi h.size) hn).trans (h.block i hi hn)⟩
theorem Kp.of_below {T : Tbl} {a b : World} (h : Below a.heap.size a b) : Kp T a b := ⟨h.os, h.tape, h.output, h.size, fun i hi _ => h.block i hi⟩
theorem Kp.below {T : Tbl} {base : Nat} {s : UF} {a b : World} (h : Kp T a b) (ht : Tab T base s a) : Below base a b :=
  ⟨h.os, h.tape, h.output, h.size, fun i hi => h.block i (by have := ht.outer.lt; have := ht.geS; omega) (fun f hf e => by have := ht.geB f hf; omega)⟩
theorem Kp.setCell {T : Tbl} {a b : World} (h : Kp T a b) {f : Nat} (hf : f < T.nf) (o : Nat) (v : Value) : Kp T a (b.setCell ⟨T.B f, o, none⟩ v) :=
  ⟨h.os, h.tape, h.output, by simpa [World.setCell] using h.size, fun i hi hn => (Below.heap_setCell b ⟨T.B f, o, none⟩ v i (hn f hf)).trans (h.block i hi hn)⟩
theorem Kp.cell {T : Tbl} {a b : World} (h : Kp T a b) {p : Addr} (hp : p.block < a.heap.size) (hn : ∀ f, f < T.nf → p.block ≠ T.B f) : b.cell? p = a.cell? p := World.cell?_of_block (w := a) (h.block p.block hp hn)
theorem Kp.frozen {T : Tbl} {a b : World} (h : Kp T a b) {p : Addr} (hp : p.block < a.heap.size) (hn : ∀ f, f < T.nf → p.block ≠ T.B f) : b.frozen? p = a.frozen? p := World.frozen?_of_block (w := a) (h.block p.block hp hn)
theorem Kp.rowIs {T : Tbl} {a b : World} (h : Kp T a b) {g : Nat} {t : TypeId} {n : Nat} {f : Nat → Value} (hr : a.rowIs g t n f) (hn : ∀ f, f < T.nf → g ≠ T.B f) : b.rowIs g t n f := hr.of_block (h.block g hr.lt hn)
/-- what is made behind the table is no block of it -/
theorem Tab.new {T : Tbl} {base : Nat} {s : UF} {w : World} (h : Tab T base s w) {g : Nat} (hg : w.heap.size ≤ g) : ∀ f, f < T.nf → g ≠ T.B f := fun f hf e => by
  have := (h.inner f hf).lt
  omega

def UF.setLink (s : UF) (x y : Nat × Nat) : UF := { s with link := fun z => if z = x then some y else s.link z }
def UF.setUses (s : UF) (x : Nat × Nat) (n : Nat) : UF := { s with uses := fun z => if z = x then n else s.uses z }

theorem symCell_at (s : UF) (f i r : Nat) (hr : r < 10) : symCell s f (i * 10 + r) =
    if r = 0 then .pointer none else if r = 1 then .string ⟨#[]⟩ else if r = 2 then .int .u32 (linkA s (f, i)) else if r = 3 then .int .u32 (linkB s (f, i))
    else if r = 4 then .int .u32 (s.uses (f, i)) else if r = 5 then .int .u32 0 else if r = 6 then .int .u32 0 else if r = 7 then .int .u16 0 else .int .u8 0 := by
  have h1 : (i * 10 + r) % 10 = r := by omega
  have h2 : (i * 10 + r) / 10 = i := by omega
  unfold symCell
  rw [h1, h2]

section
variable {T : Tbl} {base : Nat} {s : UF} {w : World} {x : Nat × Nat}
theorem Tab.linkCells (h : Tab T base s w) (hx : T.V x) : w.cell? ⟨T.B x.1, x.2 * 10 + 2, none⟩ = some (.int .u32 (linkA s x)) ∧ w.cell? ⟨T.B x.1, x.2 * 10 + 3, none⟩ = some (.int .u32 (linkB s x)) := by
  have hr := h.inner x.1 hx.1
  have hl := hx.2
  constructor
  · rw [hr.cell (i := x.2 * 10 + 2) (by omega), symCell_at _ _ _ _ (by omega)]; rfl
  · rw [hr.cell (i := x.2 * 10 + 3) (by omega), symCell_at _ _ _ _ (by omega)]; rfl
theorem Tab.useCell (h : Tab T base s w) (hx : T.V x) : w.cell? ⟨T.B x.1, x.2 * 10 + 4, none⟩ = some (.int .u32 (s.uses x)) := by
  have hl := hx.2
  rw [(h.inner x.1 hx.1).cell (i := x.2 * 10 + 4) (by omega), symCell_at _ _ _ _ (by omega)]; rfl
theorem Tab.flagCell (h : Tab T base s w) (hx : T.V x) : w.cell? ⟨T.B x.1, x.2 * 10 + 7, none⟩ = some (.int .u16 0) := by
  have hl := hx.2
  rw [(h.inner x.1 hx.1).cell (i := x.2 * 10 + 7) (by omega), symCell_at _ _ _ _ (by omega)]; rfl
theorem Tab.free (h : Tab T base s w) (hx : T.V x) (o : Nat) : w.frozen? ⟨T.B x.1, o, none⟩ = false := (h.inner x.1 hx.1).frozen o

theorem Tab.setLink (h : Tab T base s w) (hx : T.V x) (y : Nat × Nat) :
    Tab T base (s.setLink x y) ((w.setCell ⟨T.B x.1, x.2 * 10 + 2, none⟩ (.int .u32 (y.1 : Int))).setCell ⟨T.B x.1, x.2 * 10 + 3, none⟩ (.int .u32 (y.2 : Int))) := by
  refine { h with outer := ?_, inner := fun f hf => ?_ }
  · exact (h.outer.setOther (fun e => h.ne x.1 hx.1 e.symm) _).setOther (fun e => h.ne x.1 hx.1 e.symm) _
  · by_cases hfx : f = x.1
    · subst hfx
      refine (((h.inner x.1 hf).set (x.2 * 10 + 2) _).set (x.2 * 10 + 3) _).congr (fun j hj => ?_)
      have hj2 : j = j / 10 * 10 + j % 10 := by omega
      have hjm : j % 10 < 10 := Nat.mod_lt _ (by omega)
      by_cases e3 : j = x.2 * 10 + 3
      · rw [if_pos e3, e3, symCell_at _ _ _ _ (by omega)]
        simp [linkB, UF.setLink]
      · rw [if_neg e3]
        by_cases e2 : j = x.2 * 10 + 2
        · rw [if_pos e2, e2, symCell_at _ _ _ _ (by omega)]
          simp [linkA, UF.setLink]
        · rw [if_neg e2]
          rw [hj2, symCell_at _ _ _ _ hjm, symCell_at _ _ _ _ hjm]
          have hlA : ∀ z : Nat × Nat, z ≠ x → linkA (s.setLink x y) z = linkA s z := fun z hz => by simp [linkA, UF.setLink, hz]
          have hlB : ∀ z : Nat × Nat, z ≠ x → linkB (s.setLink x y) z = linkB s z := fun z hz => by simp [linkB, UF.setLink, hz]
          have hu : (s.setLink x y).uses = s.uses := rfl
          by_cases hd : j / 10 = x.2
          · have r2 : j % 10 ≠ 2 := fun e => e2 (by omega)
            have r3 : j % 10 ≠ 3 := fun e => e3 (by omega)
            rw [if_neg r2, if_neg r3, if_neg r2, if_neg r3, hu]
          · have hz : ((x.1, j / 10) : Nat × Nat) ≠ x := fun e => hd (by rw [← e])
            rw [hlA _ hz, hlB _ hz, hu]
    · have hb : T.B f ≠ T.B x.1 := fun e => hfx (h.inj _ _ hf hx.1 e)
      refine (((h.inner f hf).setOther hb _).setOther hb _).congr (fun j _ => ?_)
      have hz : ((f, j / 10) : Nat × Nat) ≠ x := fun e => hfx (by rw [← e])
      simp [symCell, linkA, linkB, UF.setLink, hz]
theorem Tab.setUses (h : Tab T base s w) (hx : T.V x) (n : Nat) :
    Tab T base (s.setUses x n) (w.setCell ⟨T.B x.1, x.2 * 10 + 4, none⟩ (.int .u32 (n : Int))) := by
  refine { h with outer := ?_, inner := fun f hf => ?_ }
  · exact h.outer.setOther (fun e => h.ne x.1 hx.1 e.symm) _
  · by_cases hfx : f = x.1
    · subst hfx
      refine ((h.inner x.1 hf).set (x.2 * 10 + 4) _).congr (fun j hj => ?_)
      have hj2 : j = j / 10 * 10 + j % 10 := by omega
      have hjm : j % 10 < 10 := Nat.mod_lt _ (by omega)
      have hlA : ∀ z, linkA (s.setUses x n) z = linkA s z := fun z => rfl
      have hlB : ∀ z, linkB (s.setUses x n) z = linkB s z := fun z => rfl
      by_cases e4 : j = x.2 * 10 + 4
      · rw [if_pos e4, e4, symCell_at _ _ _ _ (by omega)]
        simp [UF.setUses]
      · rw [if_neg e4]
        rw [hj2, symCell_at _ _ _ _ hjm, symCell_at _ _ _ _ hjm, hlA, hlB]
        by_cases hd : j / 10 = x.2
        · have r4 : j % 10 ≠ 4 := fun e => e4 (by omega)
          rw [if_neg r4, if_neg r4]
        · have hz : ((x.1, j / 10) : Nat × Nat) ≠ x := fun e => hd (by rw [← e])
          have hu : (s.setUses x n).uses (x.1, j / 10) = s.uses (x.1, j / 10) := by simp [UF.setUses, hz]
          rw [hu]
    · have hb : T.B f ≠ T.B x.1 := fun e => hfx (h.inj _ _ hf hx.1 e)
      refine ((h.inner f hf).setOther hb _).congr (fun j _ => ?_)
      have hz : ((f, j / 10) : Nat × Nat) ≠ x := fun e => hfx (by rw [← e])
      simp [symCell, linkA, linkB, UF.setUses, hz]
end
end Go.Proofs.YtbkgbnejmgjiiaaDoor
