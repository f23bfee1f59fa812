/-
  'hold' and 'set' of the clock, at a clock that the law has just made.
-/
import Derived.Test.YbulkkygNy
import Derived.Test.YbulkkygMem
namespace Go.Proofs.Ybulkkyg.Ny
open Go.RowKit
set_option linter.unusedVariables false

theorem size2 : (Yba.prog.info? 2).map (·.size) = some 1 := by kernel_rfl
theorem size9 : (Yba.prog.info? 9).map (·.size) = some 1 := by kernel_rfl
theorem zero9 : ∀ w, (zeroValue 9).run Yba.prog w = .ok (.string ⟨#[]⟩) w := fun _ => by kernel_rfl

/-- a column of names, of times -/
def col (k : Nat) : List Value := (List.range k).map fun j => Value.string (nm j)
def tcol (k : Nat) (tt : Nat → Int) : List Value := (List.range k).map fun j => Value.int .i64 (tt j)
theorem col_length (k : Nat) : (col k).length = k := by simp [col]
theorem tcol_length (k : Nat) (tt : Nat → Int) : (tcol k tt).length = k := by simp [tcol]
theorem col_at (k j : Nat) (h : j < k) : (col k)[j]? = some (.string (nm j)) := by simp [col, h]
theorem tcol_at (k j : Nat) (tt : Nat → Int) (h : j < k) : (tcol k tt)[j]? = some (.int .i64 (tt j)) := by simp [tcol, h]
theorem col_one (k : Nat) : ∀ v ∈ col k, v.oneCell' = true := by intro v hv; simp only [col, List.mem_map] at hv; obtain ⟨_, _, rfl⟩ := hv; rfl
theorem tcol_one (k : Nat) (tt : Nat → Int) : ∀ v ∈ tcol k tt, v.oneCell' = true := by intro v hv; simp only [tcol, List.mem_map] at hv; obtain ⟨_, _, rfl⟩ := hv; rfl

/-- the clock behind 'hold', its entries within itself -/
structure Inl (w : World) (cb k : Nat) (tt : Nat → Int) : Prop where
  row : ∃ cur, w.heap[cb]? = some (.cells cur 31 (0, 0)) ∧ cur.size = 21 ∧ cur[2]? = some (.int .i64 k) ∧ cur[20]? = some (.pointer none) ∧ (∀ j, j < k → cur[4 + j]? = some (.string (nm j))) ∧ ∀ j, j < k → cur[12 + j]? = some (.int .i64 (tt j))

theorem strs_cells {W : World} {gn k : Nat} (hN : ∀ j, j < k → W.cell? ⟨gn, j, none⟩ = some (.string (nm j))) :
    ∀ j v, (col k)[j]? = some v → W.cell? ((⟨gn, 0, none⟩ : Addr).add j) = some v := by
  intro j v hj
  have hlt := (List.getElem?_eq_some_iff.1 hj).1
  rw [col_length] at hlt
  rw [col_at k j hlt] at hj
  cases hj
  rw [Addr.add_lit, Nat.zero_add]; exact hN j hlt

theorem nums_cells {W : World} {gt k : Nat} {tt : Nat → Int} (hT : ∀ j, j < k → W.cell? ⟨gt, j, none⟩ = some (.int .i64 (tt j))) :
    ∀ j v, (tcol k tt)[j]? = some v → W.cell? ((⟨gt, 0, none⟩ : Addr).add j) = some v := by
  intro j v hj
  have hlt := (List.getElem?_eq_some_iff.1 hj).1
  rw [tcol_length] at hlt
  rw [tcol_at k j tt hlt] at hj
  cases hj
  rw [Addr.add_lit, Nat.zero_add]; exact hT j hlt

theorem cell_kept {W W2 : World} {g b o : Nat} {v : Value} (hg : W.grownBy W2 (some g)) (hne : b ≠ g) (h : W.cell? ⟨b, o, none⟩ = some v) : W2.cell? ⟨b, o, none⟩ = some v :=
  hg.cell h (by intro e; cases e; exact hne rfl)

theorem fin_inl {W4 : World} {cb k : Nat} {tt : Nat → Int} {L1 c2 c3 c4 : Array Value} (hk8 : k ≤ 8) (hs1 : L1.size = 21) (hl2 : L1[2]? = some (.int .i64 k)) (hl20 : L1[20]? = some (.pointer none))
    (hs2 : c2.size = L1.size) (hin2 : ∀ j, j < k → c2[12 + j]? = (tcol k tt)[j]?) (hout2 : ∀ j, j < 12 ∨ 12 + k ≤ j → c2[j]? = L1[j]?)
    (hs3 : c3.size = c2.size) (hin3 : ∀ j, j < k → c3[4 + j]? = (col k)[j]?) (hout3 : ∀ j, j < 4 ∨ 4 + k ≤ j → c3[j]? = c2[j]?)
    (hg4 : W4.heap[cb]? = some (.cells c4 31 (0, 0))) (hs4 : c4.size = c3.size) (hout4 : ∀ j, j < 4 + k ∨ 12 ≤ j → c4[j]? = c3[j]?) : Inl W4 cb k tt := by
  refine ⟨c4, hg4, by omega, ?_, ?_, fun j hj => ?_, fun j hj => ?_⟩
  · rw [hout4 2 (by omega), hout3 2 (by omega), hout2 2 (by omega), hl2]
  · rw [hout4 20 (by omega), hout3 20 (by omega), hout2 20 (by omega), hl20]
  · rw [hout4 (4 + j) (by omega), hin3 j hj, col_at k j hj]
  · rw [hout4 (12 + j) (by omega), hout3 (12 + j) (by omega), hin2 j hj, tcol_at k j tt hj]

set_option maxHeartbeats 1600000 in
theorem set_small (p : ByteArray) (gn gt k cn ct : Nat) (tt : Nat → Int) (w : World) (hk1 : 1 ≤ k) (hk8 : k ≤ 8) (hcn : k ≤ cn) (hct : k ≤ ct)
    (hN : ∀ j, j < k → w.cell? ⟨gn, j, none⟩ = some (.string (nm j))) (hT : ∀ j, j < k → w.cell? ⟨gt, j, none⟩ = some (.int .i64 (tt j))) :
    Calls Yba.prog 9 #[.pointer (some ⟨w.heap.size, 0, none⟩), .slice (some ⟨gn, 0, none⟩) k cn, .slice (some ⟨gt, 0, none⟩) k ct]
      (w.alloc (.cells #[.string p, .int .i64 0, .int .i64 1, .int .i64 0, .string p, .string ⟨#[]⟩, .string ⟨#[]⟩, .string ⟨#[]⟩, .string ⟨#[]⟩, .string ⟨#[]⟩, .string ⟨#[]⟩, .string ⟨#[]⟩,
        .int .i64 0, .int .i64 0, .int .i64 0, .int .i64 0, .int .i64 0, .int .i64 0, .int .i64 0, .int .i64 0, .pointer none] 31)) fun e w' => e = .returned (.tuple #[]) ∧ Inl w' w.heap.size k tt ∧ Below w.heap.size w w' := by
  have hk8i : ¬ (8 : Int) < (k : Int) := by omega
  have hgn : gn < w.heap.size := World.block_lt_of_cell? w ⟨gn, 0, none⟩ (hN 0 (by omega))
  have hgt : gt < w.heap.size := World.block_lt_of_cell? w ⟨gt, 0, none⟩ (hT 0 (by omega))
  go_enter Yba.func9, Yba.ntmps9
  go_wp2_with fail
  refine (search gn k cn nm p _ (by omega) hcn (fun j hj => ?_)).mono ?_
  · exact Lib.cell?_alloc_some _ (hN j hj)
  rintro e w' ⟨⟨j, b, rfl⟩, rfl⟩
  go_wp2
  obtain ⟨L1, hL1⟩ : ∃ L1, L1 = #[Value.string p, .int .i64 0, .int .i64 k, .int .i64 j, .string p, .string ⟨#[]⟩, .string ⟨#[]⟩, .string ⟨#[]⟩, .string ⟨#[]⟩, .string ⟨#[]⟩, .string ⟨#[]⟩, .string ⟨#[]⟩,
        .int .i64 0, .int .i64 0, .int .i64 0, .int .i64 0, .int .i64 0, .int .i64 0, .int .i64 0, .int .i64 0, .pointer none] := ⟨_, rfl⟩
  rw [← hL1]
  have hs1 : L1.size = 21 := by rw [hL1]; rfl
  have hl2 : L1[2]? = some (.int .i64 k) := by rw [hL1]; rfl
  have hl20 : L1[20]? = some (.pointer none) := by rw [hL1]; rfl
  clear hL1
  have hNa : ∀ j, j < k → (w.alloc (.cells L1 31)).cell? ⟨gn, j, none⟩ = some (.string (nm j)) := fun j hj => Lib.cell?_alloc_some _ (hN j hj)
  have hTa : ∀ j, j < k → (w.alloc (.cells L1 31)).cell? ⟨gt, j, none⟩ = some (.int .i64 (tt j)) := fun j hj => Lib.cell?_alloc_some _ (hT j hj)
  have hb1 : Below w.heap.size w (w.alloc (.cells L1 31)) := (Below.refl _ _).alloc (Nat.le_refl _) _
  obtain ⟨W2, c2, hrun2, hg2, hs2, hin2, hout2, hgr2⟩ := Mem.copy_into (P := Yba.prog) (w.alloc (.cells L1 31)) 22 22 3 2 w.heap.size 12 8 8 ⟨gt, 0, none⟩ k ct L1 31 (tcol k tt) Yba.underlying22 size2 (heap_alloc_new w _) (by rw [tcol_length]; exact (Nat.min_eq_left hk8).symm) (nums_cells hTa) (by rw [tcol_length]; omega) (tcol_one k tt)
  rw [hrun2]
  rw [tcol_length] at hin2 hout2
  have hN2 : ∀ j, j < k → W2.cell? ⟨gn, j, none⟩ = some (.string (nm j)) := fun j hj => cell_kept hgr2 (by omega) (hNa j hj)
  have hb2 : Below w.heap.size w W2 := hb1.grown hgr2 (by simp) (fun k hk => by cases hk; exact Nat.le_refl _)
  clear hrun2 hgr2 hNa hTa hb1
  go_wp2
  obtain ⟨W3, c3, hrun3, hg3, hs3, hin3, hout3, hgr3⟩ := Mem.copy_into (P := Yba.prog) W2 24 24 3 9 w.heap.size 4 8 8 ⟨gn, 0, none⟩ k cn c2 31 (col k) Yba.underlying24 size9 hg2 (by rw [col_length]; exact (Nat.min_eq_left hk8).symm) (strs_cells hN2) (by rw [col_length]; omega) (col_one k)
  rw [hrun3]
  rw [col_length] at hin3 hout3
  have hb3 : Below w.heap.size w W3 := hb2.grown hgr3 hb2.size (fun k hk => by cases hk; exact Nat.le_refl _)
  clear hrun3 hgr3 hN2 hb2 hg2
  by_cases h8 : k = 8
  · subst h8
    go_wp2
    rw [Mem.run_clear_none (P := Yba.prog) W3 24 9 0 Yba.underlying24 _ _]
    go_wp2
    go_end0
    exact ⟨rfl, fin_inl (by omega) hs1 hl2 hl20 hs2 hin2 hout2 hs3 hin3 hout3 hg3 rfl (fun _ _ => rfl), hb3⟩
  · have h8' : k < 8 := by omega
    have h8i : (k : Int) < 8 := by omega
    clear h8
    go_wp2
    obtain ⟨W4, c4, hrun4, hg4, hs4, _, hout4, hgr4⟩ := Mem.clear_part (P := Yba.prog) W3 24 9 0 (.string ⟨#[]⟩) Yba.underlying24 zero9 rfl rfl w.heap.size (4 + k) (8 - k) (8 - k) _ (fun _ => rfl) c3 31 hg3 (by omega)
    rw [hrun4]
    have hb4 : Below w.heap.size w W4 := hb3.grown hgr4 hb3.size (fun k hk => by cases hk; exact Nat.le_refl _)
    clear hrun4 hgr4 hb3 hg3
    go_wp2
    go_end0
    exact ⟨rfl, fin_inl hk8 hs1 hl2 hl20 hs2 hin2 hout2 hs3 hin3 hout3 hg4 hs4 (fun j hj => hout4 j (by omega)), hb4⟩

set_option maxHeartbeats 1600000 in
theorem hold_small (p : ByteArray) (gn gt k cn ct : Nat) (tt : Nat → Int) (w : World) (hk1 : 1 ≤ k) (hk8 : k ≤ 8) (hcn : k ≤ cn) (hct : k ≤ ct)
    (hN : ∀ j, j < k → w.cell? ⟨gn, j, none⟩ = some (.string (nm j))) (hT : ∀ j, j < k → w.cell? ⟨gt, j, none⟩ = some (.int .i64 (tt j))) :
    Calls Yba.prog 5 #[.pointer (some ⟨w.heap.size, 0, none⟩), .slice (some ⟨gn, 0, none⟩) k cn, .slice (some ⟨gt, 0, none⟩) k ct]
      (w.alloc (.cells #[.string p, .int .i64 0, .int .i64 1, .int .i64 0, .string p, .string ⟨#[]⟩, .string ⟨#[]⟩, .string ⟨#[]⟩, .string ⟨#[]⟩, .string ⟨#[]⟩, .string ⟨#[]⟩, .string ⟨#[]⟩,
        .int .i64 0, .int .i64 0, .int .i64 0, .int .i64 0, .int .i64 0, .int .i64 0, .int .i64 0, .int .i64 0, .pointer none] 31)) fun e w' => e = .returned (.tuple #[]) ∧ Inl w' w.heap.size k tt ∧ Below w.heap.size w w' := by
  have hk8i : (k : Int) ≤ 8 := by omega
  go_enter Yba.func5, Yba.ntmps5
  go_wp2_with fail
  refine (set_small p gn gt k cn ct tt w hk1 hk8 hcn hct hN hT).mono ?_
  rintro e w' ⟨rfl, hI, hb⟩
  go_wp2
  refine bodyPost_ret (results_none rfl _ _ _) rfl ?_
  exact ⟨rfl, hI, hb⟩

/-- the clock behind 'hold', its entries spilled -/
structure Spl (w : World) (cb sb k : Nat) (vn vt : Value) : Prop where
  row : ∃ cur, w.heap[cb]? = some (.cells cur 31 (0, 0)) ∧ cur.size = 21 ∧ cur[2]? = some (.int .i64 k) ∧ cur[20]? = some (.pointer (some ⟨sb, 0, none⟩))
  names : w.cell? ⟨sb, 0, none⟩ = some vn
  times : w.cell? ⟨sb, 1, none⟩ = some vt

set_option maxHeartbeats 1600000 in
theorem hold_big (p : ByteArray) (gn gt k cn ct : Nat) (tt : Nat → Int) (w : World) (hk1 : 8 < k) (hk8 : k ≤ 676) (hcn : k ≤ cn) (hct : k ≤ ct)
    (hN : ∀ j, j < k → w.cell? ⟨gn, j, none⟩ = some (.string (nm j))) (hT : ∀ j, j < k → w.cell? ⟨gt, j, none⟩ = some (.int .i64 (tt j))) :
    Calls Yba.prog 5 #[.pointer (some ⟨w.heap.size, 0, none⟩), .slice (some ⟨gn, 0, none⟩) k cn, .slice (some ⟨gt, 0, none⟩) k ct]
      (w.alloc (.cells #[.string p, .int .i64 0, .int .i64 1, .int .i64 0, .string p, .string ⟨#[]⟩, .string ⟨#[]⟩, .string ⟨#[]⟩, .string ⟨#[]⟩, .string ⟨#[]⟩, .string ⟨#[]⟩, .string ⟨#[]⟩,
        .int .i64 0, .int .i64 0, .int .i64 0, .int .i64 0, .int .i64 0, .int .i64 0, .int .i64 0, .int .i64 0, .pointer none] 31)) fun e w' => e = .returned (.tuple #[]) ∧ Spl w' w.heap.size (w.heap.size + 1) k (.slice (some ⟨gn, 0, none⟩) k cn) (.slice (some ⟨gt, 0, none⟩) k ct) ∧ Below w.heap.size w w' := by
  have hk8i : ¬ (k : Int) ≤ 8 := by omega
  have hgn : gn < w.heap.size := World.block_lt_of_cell? w ⟨gn, 0, none⟩ (hN 0 (by omega))
  go_enter Yba.func5, Yba.ntmps5
  go_wp2_with fail
  refine (search gn k cn nm p _ (by omega) hcn (fun j hj => ?_)).mono ?_
  · exact Lib.cell?_alloc_some _ (hN j hj)
  rintro e w' ⟨⟨j, b, rfl⟩, rfl⟩
  clear hN hT
  go_wp2
  obtain ⟨L1, hL1⟩ : ∃ L1, L1 = #[Value.string p, .int .i64 0, .int .i64 k, .int .i64 j, .string p, .string ⟨#[]⟩, .string ⟨#[]⟩, .string ⟨#[]⟩, .string ⟨#[]⟩, .string ⟨#[]⟩, .string ⟨#[]⟩, .string ⟨#[]⟩,
        .int .i64 0, .int .i64 0, .int .i64 0, .int .i64 0, .int .i64 0, .int .i64 0, .int .i64 0, .int .i64 0, .pointer (some ⟨w.heap.size + 1, 0, none⟩)] := ⟨_, rfl⟩
  rw [← hL1]
  have hs1 : L1.size = 21 := by rw [hL1]; rfl
  have hl2 : L1[2]? = some (.int .i64 k) := by rw [hL1]; rfl
  have hl20 : L1[20]? = some (.pointer (some ⟨w.heap.size + 1, 0, none⟩)) := by rw [hL1]; rfl
  clear hL1
  obtain ⟨W1, hW1⟩ : ∃ W1, W1 = (w.alloc (.cells L1 31)).alloc (.cells #[.slice (some ⟨gn, 0, none⟩) k cn, .slice (some ⟨gt, 0, none⟩) k ct] 44) := ⟨_, rfl⟩
  rw [← hW1]
  have hg1 : W1.heap[w.heap.size]? = some (.cells L1 31 (0, 0)) := by rw [hW1]; exact heap_alloc2_old w _ _
  have hc0 : W1.cell? ⟨w.heap.size + 1, 0, none⟩ = some (.slice (some ⟨gn, 0, none⟩) k cn) := by rw [hW1]; simp
  have hc1 : W1.cell? ⟨w.heap.size + 1, 1, none⟩ = some (.slice (some ⟨gt, 0, none⟩) k ct) := by rw [hW1]; simp
  have hb1 : Below w.heap.size w W1 := by rw [hW1]; exact ((Below.refl _ _).alloc (Nat.le_refl _) _).alloc (by simp) _
  clear hW1
  obtain ⟨W4, c4, hrun4, hg4, hs4, _, hout4, hgr4⟩ := Mem.clear_part (P := Yba.prog) W1 24 9 0 (.string ⟨#[]⟩) Yba.underlying24 zero9 rfl rfl w.heap.size 4 8 8 _ (fun _ => rfl) L1 31 hg1 (by omega)
  rw [hrun4]
  have hb4 : Below w.heap.size w W4 := hb1.grown hgr4 hb1.size (fun k hk => by cases hk; exact Nat.le_refl _)
  have hd0 := cell_kept hgr4 (by omega) hc0
  have hd1 := cell_kept hgr4 (by omega) hc1
  clear hrun4 hgr4 hb1 hg1 hc0 hc1
  go_wp2
  go_end0
  exact ⟨rfl, ⟨⟨c4, hg4, by omega, by rw [hout4 2 (by omega), hl2], by rw [hout4 20 (by omega), hl20]⟩, hd0, hd1⟩, hb4⟩
end Go.Proofs.Ybulkkyg.Ny
