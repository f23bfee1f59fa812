/-
  'Len' (6), 'All' (7) and the first loop of 'LawS0578BYields' (3).
-/
import Derived.Test.YbulkkygIter
namespace Go.Proofs.Ybulkkyg.Ny
open Go.RowKit
set_option linter.unusedVariables false

theorem len6 (k : Nat) (cur : Array Value) (w : World) (hs : cur.size = 21) (h2 : cur[2]? = some (.int .i64 k)) :
    Calls Yba.prog 6 #[.agg cur] w fun e w' => e = .returned (.int .i64 k) ∧ w' = w.alloc (.cells cur 31) := by
  have c2 : (w.alloc (.cells cur 31)).cell? ⟨w.heap.size, 2, none⟩ = some (.int .i64 k) := by simp [h2]
  go_enter Yba.func6, Yba.ntmps6
  go_wp2
  go_ret
  exact ⟨rfl, rfl⟩

theorem all7 (cur : Array Value) (w : World) (hs : cur.size = 21) :
    Calls Yba.prog 7 #[.agg cur] w fun e w' => e = .returned (.func (.func 11) #[] #[.pointer (some ⟨w.heap.size, 0, none⟩)]) ∧ w' = w.alloc (.cells cur 31) := by
  go_enter Yba.func7, Yba.ntmps7
  go_wp2
  go_ret
  exact ⟨rfl, rfl⟩

/-- the two columns behind i rounds of the first loop -/
structure Cols (w : World) (N M k i : Nat) (tt : Nat → Int) : Prop where
  ne : N ≠ M
  n : ∃ c, w.heap[N]? = some (.cells c 9 (0, 0)) ∧ c.size = k ∧ ∀ j, j < i → c[j]? = some (.string (nm j))
  t : ∃ c, w.heap[M]? = some (.cells c 2 (0, 0)) ∧ c.size = k ∧ (∀ j, j < i → c[j]? = some (.int .i64 (tt j))) ∧ ∀ j, i ≤ j → j < k → c[j]? = some (.int .i64 0)

theorem Cols.alloc {w : World} {N M k i : Nat} {tt : Nat → Int} (h : Cols w N M k i tt) (o : Obj) : Cols (w.alloc o) N M k i tt := by
  obtain ⟨ne, ⟨c, h1, r⟩, ⟨d, k1, s⟩⟩ := h
  exact ⟨ne, ⟨c, by rw [Below.heap_alloc w o _ (Array.getElem?_eq_some_iff.1 h1).1]; exact h1, r⟩, ⟨d, by rw [Below.heap_alloc w o _ (Array.getElem?_eq_some_iff.1 k1).1]; exact k1, s⟩⟩

/-- a round: the name is stored, and the time where there is one -/
theorem Cols.step {w : World} {N M k i : Nat} {tt : Nat → Int} (h : Cols w N M k i tt) (hi : i < k) :
    Cols ((w.setCell ⟨N, i, none⟩ (.string (nm i))).setCell ⟨M, i, none⟩ (.int .i64 (tt i))) N M k (i + 1) tt := by
  obtain ⟨ne, ⟨c, h1, h2, h3⟩, ⟨d, k1, k2, k3, k4⟩⟩ := h
  refine ⟨ne, ⟨c.setIfInBounds i (.string (nm i)), ?_, by simpa using h2, fun j hj => ?_⟩, ⟨d.setIfInBounds i (.int .i64 (tt i)), ?_, by simpa using k2, fun j hj => ?_, fun j hj hk => ?_⟩⟩
  · rw [heap_setCell_other _ ⟨M, i, none⟩ N _ ne]; exact heap_setCell_same w N i c 9 _ h1
  · by_cases e : i = j
    · subst e; rw [Array.getElem?_setIfInBounds_self, if_pos (by omega)]
    · rw [Array.getElem?_setIfInBounds_ne e]; exact h3 j (by omega)
  · exact heap_setCell_same _ (M) i d 2 _ (by rw [heap_setCell_other _ ⟨N, i, none⟩ M _ ne.symm]; exact k1)
  · by_cases e : i = j
    · subst e; rw [Array.getElem?_setIfInBounds_self, if_pos (by omega)]
    · rw [Array.getElem?_setIfInBounds_ne e]; exact k3 j (by omega)
  · rw [Array.getElem?_setIfInBounds_ne (by omega)]; exact k4 j (by omega) hk

theorem Cols.step0 {w : World} {N M k i : Nat} {tt : Nat → Int} (h : Cols w N M k i tt) (hi : i < k) (h0 : tt i = 0) : Cols (w.setCell ⟨N, i, none⟩ (.string (nm i))) N M k (i + 1) tt := by
  obtain ⟨ne, ⟨c, h1, h2, h3⟩, ⟨d, k1, k2, k3, k4⟩⟩ := h
  refine ⟨ne, ⟨c.setIfInBounds i (.string (nm i)), heap_setCell_same w N i c 9 _ h1, by simpa using h2, fun j hj => ?_⟩, ⟨d, by rw [heap_setCell_other _ ⟨N, i, none⟩ M _ ne.symm]; exact k1, k2, fun j hj => ?_, fun j hj hk => k4 j (by omega) hk⟩⟩
  · by_cases e : i = j
    · subst e; rw [Array.getElem?_setIfInBounds_self, if_pos (by omega)]
    · rw [Array.getElem?_setIfInBounds_ne e]; exact h3 j (by omega)
  · by_cases e : i = j
    · subst e; rw [h0]; exact k4 i (by omega) hi
    · exact k3 j (by omega)

theorem Cols.cellN {w : World} {N M k i : Nat} {tt : Nat → Int} (h : Cols w N M k i tt) (j : Nat) (hj : j < k) : (∃ v, w.cell? ⟨N, j, none⟩ = some v) ∧ w.frozen? ⟨N, j, none⟩ = false := by
  obtain ⟨_, ⟨c, h1, h2, h3⟩, _⟩ := h
  exact ⟨⟨c[j]'(by omega), by rw [cell_of_row w N j c 9 (0, 0) h1, Array.getElem?_eq_getElem (by omega)]⟩, frozen_of_row w N j c 9 h1⟩
theorem Cols.cellT {w : World} {N M k i : Nat} {tt : Nat → Int} (h : Cols w N M k i tt) (j : Nat) (hj : j < k) : (∃ v, w.cell? ⟨M, j, none⟩ = some v) ∧ w.frozen? ⟨M, j, none⟩ = false := by
  obtain ⟨_, _, ⟨c, h1, h2, h3⟩⟩ := h
  exact ⟨⟨c[j]'(by omega), by rw [cell_of_row w (M) j c 2 (0, 0) h1, Array.getElem?_eq_getElem (by omega)]⟩, frozen_of_row w (M) j c 2 h1⟩
theorem Cols.name {w : World} {N M k i : Nat} {tt : Nat → Int} (h : Cols w N M k i tt) (j : Nat) (hj : j < i) : w.cell? ⟨N, j, none⟩ = some (.string (nm j)) := by
  obtain ⟨_, ⟨c, h1, h2, h3⟩, _⟩ := h
  rw [cell_of_row w N j c 9 (0, 0) h1]; exact h3 j hj
theorem Cols.time {w : World} {N M k i : Nat} {tt : Nat → Int} (h : Cols w N M k i tt) (j : Nat) (hj : j < i) : w.cell? ⟨M, j, none⟩ = some (.int .i64 (tt j)) := by
  obtain ⟨_, _, ⟨c, h1, h2, h3, h4⟩⟩ := h
  rw [cell_of_row w (M) j c 2 (0, 0) h1]; exact h3 j hj

/-- the columns as 'make' lays them -/
theorem cols_made {w w1 w2 : World} {k : Nat} (tt : Nat → Int) (h1 : w1.ownsRow w.heap.size 9 1 (.slice (some ⟨w.heap.size, 0, none⟩) k k) k (madeCells (Value.string ⟨#[]⟩).cells (k * 1)).toList) (g1 : w.grownBy w1 none)
    (h2 : w2.ownsRow w.heap.size 2 1 (.slice (some ⟨w1.heap.size, 0, none⟩) k k) k (madeCells (Value.int .i64 0).cells (k * 1)).toList) (g2 : w1.grownBy w2 none) (hs : w.heap.size < w1.heap.size) : Cols w2 w.heap.size w1.heap.size k 0 tt := by
  have h1' := h1.kept g2 (by simp [Value.ownBlock])
  refine ⟨Nat.ne_of_lt hs, ?_, ?_⟩
  · rcases h1'.2 with ⟨h', _⟩ | ⟨g', cap', cur, h', _, hg, _, _, hcs, _⟩
    · simp at h'
    · simp only [Value.slice.injEq, Option.some.injEq, Addr.mk.injEq, and_true, true_and] at h'
      obtain ⟨rfl, rfl⟩ := h'
      exact ⟨cur, hg, by omega, fun j hj => absurd hj (Nat.not_lt_zero j)⟩
  · rcases h2.2 with ⟨h', _⟩ | ⟨g', cap', cur, h', _, hg, _, _, hcs, htk⟩
    · simp at h'
    · simp only [Value.slice.injEq, Option.some.injEq, Addr.mk.injEq, and_true, true_and] at h'
      obtain ⟨rfl, rfl⟩ := h'
      refine ⟨cur, hg, by omega, fun j hj => absurd hj (Nat.not_lt_zero j), fun j _ hj => ?_⟩
      have e : (madeCells (Value.int .i64 0).cells (k * 1)).toList = List.replicate k (.int .i64 0) := by rw [Nat.mul_one]; exact toList_madeCells_one _ _
      rw [e, Nat.mul_one, List.take_of_length_le (by simp; omega)] at htk
      have : cur[j]? = cur.toList[j]? := by simp
      rw [this, htk]; simp [hj]

end Go.Proofs.Ybulkkyg.Ny
