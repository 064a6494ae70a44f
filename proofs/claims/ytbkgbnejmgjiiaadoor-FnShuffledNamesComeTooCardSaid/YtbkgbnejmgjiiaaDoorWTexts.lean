/- What laws.texts and spec.AreTexts compute over a slice of texts. Conditions: the slice takes at most 2^47 bytes; each text is shorter than 2^63 - 100000 bytes. -/
import Derived.Test.YtbkgbnejmgjiiaaDoorWScanned
namespace Go.Proofs.YtbkgbnejmgjiiaaDoor
open Go.RowKit Go.Deep

theorem info83 : (Tryd.prog.info? 83).map (fun i => (i.zero, i.size, i.bytes)) = some (some (.agg #[.string ⟨#[]⟩, .int .i64 0]), 2, 24) := by kernel_rfl

theorem txtCells_snoc (ts : List (ByteArray × Int)) (k : Nat) (h : k < ts.length) : txtCells (ts.take (k + 1)) = txtCells (ts.take k) ++ [.string ts[k].1, .int .i64 ts[k].2] := by
  rw [List.take_succ_eq_append_getElem h, txtCells_append]
  rfl

set_option maxHeartbeats 1000000 in
set_option maxRecDepth 100000 in
theorem texts_any (A : Option Addr) (n c : Nat) (ts : List (ByteArray × Int)) (w : World) (hr : Reads w w.heap.size 2 A n (txtCells ts)) (hn : n = ts.length) (hm : n * 24 ≤ 140737488355328) :
    Calls Tryd.prog 23 #[.slice A n c] w fun e w' => ∃ v, e = .returned v ∧ w'.ownsRow w.heap.size 83 2 v n (txtCells ts) ∧ Below w.heap.size w w' := by
  have HR := Lib.hid hr
  have HN := Lib.hid hn
  clear hr hn
  obtain ⟨i0, hi, hz0, hz1, hz2⟩ := info_parts info83
  go_enter Tryd.func23, Tryd.ntmps23
  go_wp2
  go_loopw [3, 8] (fun v x wr => ∃ k : Nat, k ≤ n ∧ x = .int .i64 k ∧ Hid (wr.ownsRow w.heap.size 83 2 v k (txtCells (ts.take k))) ∧ Hid (Below w.heap.size w wr)) (fun _ x _ => n - (intOf x).toNat)
  case atStart => exact ⟨0, by omega, rfl, World.ownsRow_nil _ _ _ _, Below.refl _ _⟩
  case round =>
    obtain ⟨k, hk, rfl, HO, HW⟩ := hrel
    have hws := HW.out.size
    by_cases hlt : k < n
    · have hk2 : k < ts.length := by rw [← HN.out]; exact hlt
      obtain ⟨b, off, rfl, hbB, hcell⟩ := HR.out.at_ (by rw [txtCells_length, ← HN.out]; omega)
      have hcx := txtCells_at ts k hk2
      have c0 : wr.cell? ⟨b, off + k * 2, none⟩ = some (.string ts[k].1) := (HW.out.cell (p := ⟨b, _, none⟩) hbB).trans (hcell _ _ hcx.1)
      have c1 : wr.cell? ⟨b, off + k * 2 + 1, none⟩ = some (.int .i64 ts[k].2) := (HW.out.cell (p := ⟨b, _, none⟩) hbB).trans (hcell _ _ hcx.2)
      clear hcell hcx
      have HS := Lib.hid (txtCells_snoc ts k hk2)
      go_wp2_with (at_builtin; refine wpList_append_own _ rfl _ _ 37 rfl w.heap.size 83 i0 _ 2 24 Tryd.underlying37 hi hz0 hz1 hz2 rfl (by decide) _ _ _ rfl ((HO.out.alloc _).alloc _) ⟨wr.heap.size + 1, 0, none⟩ 1 1 [.string ts[k].1, .int .i64 ts[k].2] rfl rfl ?c1 ?c2 ?c3 ?c4 ?c5 ?_)
      case c1 =>
        intro j u hu
        match j, hu with
        | 0, hu => simp at hu; subst hu; simp [Addr.add]
        | 1, hu => simp at hu; subst hu; simp [Addr.add]
      case c2 => intro u hu; simp at hu; rcases hu with rfl | rfl <;> rfl
      case c3 => unfold maxLen; omega
      case c4 => omega
      case c5 => simp; omega
      intro v' w1 hown1 hg1 _
      have HO1 : Hid (w1.ownsRow w.heap.size 83 2 v' (k + 1) (txtCells (ts.take (k + 1)))) := by rw [HS.out]; exact hown1
      have HW1 : Hid (Below w.heap.size w w1) := ((HW.out.alloc hws _).alloc (by simp; omega) _).grown hg1 (by simp; omega) (fun g hgg => (HO.out.lt g hgg).1)
      clear hown1 hg1
      go_wp2
      go_roundw
      case rel => exact ⟨k + 1, by omega, by go_num, HO1.out, HW1.out⟩
      case measure => simp [intOf]; omega
    · have ht : ts.take k = ts := List.take_of_length_le (by have := HN.out; omega)
      have HK := Lib.hid (show k = n by omega)
      rw [ht] at HO
      clear ht
      go_wp2
      go_ret
      exact ⟨u3, rfl, by rw [← HK.out]; exact HO.out, HW.out⟩
theorem long_snoc (ts : List (ByteArray × Int)) (k : Nat) (h : k < ts.length) : long (plainT (ts.take (k + 1))) = long (plainT (ts.take k)) + ts[k].1.size := by
  rw [List.take_succ_eq_append_getElem h, plainT, List.map_append, long_append, Lib.size_eq]
  simp [plainT, long]
theorem long_take' (ts : List (ByteArray × Int)) (k : Nat) : long (plainT (ts.take k)) ≤ long (plainT ts) := by
  have := long_take (plainT ts) k
  simpa [plainT] using this

set_option maxHeartbeats 1000000 in
set_option maxRecDepth 100000 in
theorem areTexts_any (A : Option Addr) (n c : Nat) (ts : List (ByteArray × Int)) (w : World) (hr : Reads w w.heap.size 2 A n (txtCells ts)) (hn : n = ts.length) (hm : n ≤ 9223372036854775807) (hsz : ∀ t ∈ ts, t.1.size ≤ 9223372036854675807) (r : Bool) (hb : r = true ↔ areTexts (plainT ts)) :
    Calls Tryd.prog 24 #[.slice A n c] w fun e w' => e = .returned (.bool r) ∧ Below w.heap.size w w' := by
  have HR := Lib.hid hr
  have HN := Lib.hid hn
  have HSZ := Lib.hid hsz
  have HB := Lib.hid hb
  clear hr hn hsz hb
  have HF : Hid (¬ areTexts (plainT ts) → r = false) := fun h => by
    cases r with
    | false => rfl
    | true => exact absurd (HB.out.1 rfl) h
  go_enter Tryd.func24, Tryd.ntmps24
  go_wp2
  go_loopw [3, 8] (fun v x wr => ∃ k s : Nat, k ≤ n ∧ x = .int .i64 k ∧ v = .int .i64 s ∧ s ≤ 100000 ∧ Hid (s = long (plainT (ts.take k))) ∧ Hid (timesOk (plainT (ts.take k))) ∧ Hid (Below w.heap.size w wr)) (fun _ x _ => n - (intOf x).toNat)
  case atStart => exact ⟨0, 0, by omega, rfl, rfl, by omega, rfl, fun t ht => by simp [plainT] at ht, Below.refl _ _⟩
  case round =>
    obtain ⟨k, s, hk, rfl, rfl, hs, HS, HT, HW⟩ := hrel
    have hws := HW.out.size
    by_cases hlt : k < n
    · have hk2 : k < ts.length := by rw [← HN.out]; exact hlt
      obtain ⟨b, off, rfl, hbB, hcell⟩ := HR.out.at_ (by rw [txtCells_length, ← HN.out]; omega)
      have hcx := txtCells_at ts k hk2
      have c0 : wr.cell? ⟨b, off + k * 2, none⟩ = some (.string ts[k].1) := (HW.out.cell (p := ⟨b, _, none⟩) hbB).trans (hcell _ _ hcx.1)
      have c1 : wr.cell? ⟨b, off + k * 2 + 1, none⟩ = some (.int .i64 ts[k].2) := (HW.out.cell (p := ⟨b, _, none⟩) hbB).trans (hcell _ _ hcx.2)
      clear hcell hcx
      have hbig := HSZ.out ts[k] (List.getElem_mem _)
      have HL := Lib.hid (long_snoc ts k hk2)
      have HLT := Lib.hid (long_take' ts (k + 1))
      have HM : Hid ((ts[k].1.data.toList, ts[k].2) ∈ plainT ts) := List.mem_map.2 ⟨ts[k], List.getElem_mem _, rfl⟩
      have hW1 : Hid (∀ o, Below w.heap.size w (wr.alloc o)) := fun o => HW.out.alloc hws o
      by_cases h1 : ts[k].2 < -1000
      · go_wp2
        go_ret
        rw [HF.out (fun h => by have := (h.1 _ HM.out).1; simp only at this; omega)]
        exact ⟨rfl, hW1.out _⟩
      · by_cases h2 : 1000 < ts[k].2
        · go_wp2
          go_ret
          rw [HF.out (fun h => by have := (h.1 _ HM.out).2; simp only at this; omega)]
          exact ⟨rfl, hW1.out _⟩
        · by_cases h3 : 100000 < ts[k].1.size
          · go_wp2
            go_ret
            rw [HF.out (fun h => by
              have a1 := h.2
              have a2 := HLT.out
              have a3 := HL.out
              omega)]
            exact ⟨rfl, hW1.out _⟩
          · by_cases h4 : 100000 < s + ts[k].1.size
            · go_wp2
              go_ret
              rw [HF.out (fun h => by
                have a1 := h.2
                have a2 := HLT.out
                have a3 := HL.out
                have a4 := HS.out
                omega)]
              exact ⟨rfl, hW1.out _⟩
            · go_wp2
              go_roundw
              case rel =>
                refine ⟨k + 1, s + ts[k].1.size, by omega, by go_num, by go_num, by omega, ?_, ?_, hW1.out _⟩
                · rw [HL.out, HS.out]; rfl
                · intro t ht
                  rw [List.take_succ_eq_append_getElem hk2, plainT, List.map_append] at ht
                  rcases List.mem_append.1 ht with ht | ht
                  · exact HT.out t ht
                  · simp at ht
                    subst ht
                    exact ⟨by simp only; omega, by simp only; omega⟩
              case measure => simp [intOf]; omega
    · have ht : ts.take k = ts := List.take_of_length_le (by have := HN.out; omega)
      rw [ht] at HS HT
      clear ht
      go_wp2
      go_ret
      rw [HB.out.2 ⟨HT.out, by rw [← HS.out]; exact hs⟩]
      exact ⟨rfl, HW.out⟩
end Go.Proofs.YtbkgbnejmgjiiaaDoor
