/-
  'hold' at every size, and the iterator over what it left.
-/
import Derived.Test.YbulkkygClock
namespace Go.Proofs.Ybulkkyg.Ny
open Go.RowKit
set_option linter.unusedVariables false

/-- the clock behind 'hold' -/
structure Held (w : World) (cb k N M : Nat) (tt : Nat → Int) (cur : Array Value) : Prop where
  row : w.heap[cb]? = some (.cells cur 31 (0, 0))
  size : cur.size = 21
  two : cur[2]? = some (.int .i64 k)
  src : (k ≤ 8 ∧ cur[20]? = some (.pointer none) ∧ (∀ j, j < k → cur[4 + j]? = some (.string (nm j))) ∧ ∀ j, j < k → cur[12 + j]? = some (.int .i64 (tt j))) ∨
    (∃ sb, cur[20]? = some (.pointer (some ⟨sb, 0, none⟩)) ∧ w.cell? ⟨sb, 0, none⟩ = some (.slice (some ⟨N, 0, none⟩) k k) ∧ w.cell? ⟨sb, 1, none⟩ = some (.slice (some ⟨M, 0, none⟩) k k) ∧
      (∀ j, j < k → w.cell? ⟨N, j, none⟩ = some (.string (nm j))) ∧ ∀ j, j < k → w.cell? ⟨M, j, none⟩ = some (.int .i64 (tt j)))

theorem Held.alloc {w : World} {cb k N M : Nat} {tt : Nat → Int} {cur : Array Value} (h : Held w cb k N M tt cur) (o : Obj) : Held (w.alloc o) cb k N M tt cur := by
  refine ⟨by rw [Below.heap_alloc w o _ (Array.getElem?_eq_some_iff.1 h.row).1]; exact h.row, h.size, h.two, ?_⟩
  rcases h.src with h | ⟨sb, h1, h2, h3, h4, h5⟩
  · exact Or.inl h
  · exact Or.inr ⟨sb, h1, Lib.cell?_alloc_some _ h2, Lib.cell?_alloc_some _ h3, fun j hj => Lib.cell?_alloc_some _ (h4 j hj), fun j hj => Lib.cell?_alloc_some _ (h5 j hj)⟩

theorem hold_any (p : ByteArray) (gn gt k : Nat) (tt : Nat → Int) (w : World) (hk1 : 1 ≤ k) (hk8 : k ≤ 676)
    (hN : ∀ j, j < k → w.cell? ⟨gn, j, none⟩ = some (.string (nm j))) (hT : ∀ j, j < k → w.cell? ⟨gt, j, none⟩ = some (.int .i64 (tt j))) :
    Calls Yba.prog 5 #[.pointer (some ⟨w.heap.size, 0, none⟩), .slice (some ⟨gn, 0, none⟩) k k, .slice (some ⟨gt, 0, none⟩) k k]
      (w.alloc (.cells #[.string p, .int .i64 0, .int .i64 1, .int .i64 0, .string p, .string ⟨#[]⟩, .string ⟨#[]⟩, .string ⟨#[]⟩, .string ⟨#[]⟩, .string ⟨#[]⟩, .string ⟨#[]⟩, .string ⟨#[]⟩,
        .int .i64 0, .int .i64 0, .int .i64 0, .int .i64 0, .int .i64 0, .int .i64 0, .int .i64 0, .int .i64 0, .pointer none] 31)) fun e w' => e = .returned (.tuple #[]) ∧ (∃ cur, Held w' w.heap.size k gn gt tt cur) ∧ Below w.heap.size w w' := by
  by_cases h8 : k ≤ 8
  · refine (hold_small p gn gt k k k tt w hk1 h8 (Nat.le_refl _) (Nat.le_refl _) hN hT).mono ?_
    rintro e w' ⟨rfl, ⟨cur, h1, h2, h3, h4, h5, h6⟩, hb⟩
    exact ⟨rfl, ⟨cur, h1, h2, h3, Or.inl ⟨h8, h4, h5, h6⟩⟩, hb⟩
  · refine (hold_big p gn gt k k k tt w (by omega) hk8 (Nat.le_refl _) (Nat.le_refl _) hN hT).mono ?_
    rintro e w' ⟨rfl, ⟨⟨cur, h1, h2, h3, h4⟩, h5, h6⟩, hb⟩
    have hgn : gn < w.heap.size := World.block_lt_of_cell? w ⟨gn, 0, none⟩ (hN 0 (by omega))
    have hgt : gt < w.heap.size := World.block_lt_of_cell? w ⟨gt, 0, none⟩ (hT 0 (by omega))
    exact ⟨rfl, ⟨cur, h1, h2, h3, Or.inr ⟨_, h4, h5, h6, fun j hj => by rw [hb.cell (p := ⟨gn, j, none⟩) hgn]; exact hN j hj, fun j hj => by rw [hb.cell (p := ⟨gt, j, none⟩) hgt]; exact hT j hj⟩⟩, hb⟩

theorem below_cell {B : Nat} {w W : World} {b o : Nat} {v : Value} (hb : Below B w W) (hB : w.heap.size ≤ B) (h : w.cell? ⟨b, o, none⟩ = some v) : W.cell? ⟨b, o, none⟩ = some v := by
  have hlt : b < w.heap.size := World.block_lt_of_cell? w ⟨b, o, none⟩ h
  rw [hb.cell (p := ⟨b, o, none⟩) (show b < B by omega)]; exact h

theorem iter_any (B bl bn bt xb cb k N M : Nat) (cur : Array Value) (lim : Int) (tt : Nat → Int) (vN vT : Value) (w0 w : World) (hH : Held w0 cb k N M tt cur) (hb0 : Below B w0 w) (hB0 : w0.heap.size ≤ B)
    (hG : Got w B bl bn bt xb cur lim 0 0 tt vN vT) (hk1 : 1 ≤ k) (hk : k ≤ 676) (hbn : B ≤ bn) (hbt : B ≤ bt) :
    Calls Yba.prog 11 #[.func (.func 8) #[] #[.pointer (some ⟨bn, 0, none⟩), .pointer (some ⟨bt, 0, none⟩), .pointer (some ⟨bl, 0, none⟩)], .pointer (some ⟨xb, 0, none⟩)] w fun e w' =>
      e = .returned (.tuple #[]) ∧ (∃ vN' vT', Got w' B bl bn bt xb cur lim (want k lim) (want k lim) tt vN' vT') ∧ Below B w w' := by
  rcases hH.src with ⟨h8, h20, hn, ht⟩ | ⟨sb, h20, hc0, hc1, hn, ht⟩
  · refine iter B bl bn bt xb k xb 4 8 xb 12 8 cur lim tt vN vT w hG hk1 hk hbn hbt h8 h8 (entries_inl xb k cur w h8 hG.hx hH.two h20) (fun W hx _ i hi => ?_)
    exact ⟨by rw [cell_of_row W xb (4 + i) cur 31 (0, 0) hx]; exact hn i hi, by rw [cell_of_row W xb (12 + i) cur 31 (0, 0) hx]; exact ht i hi⟩
  · refine iter B bl bn bt xb k N 0 k M 0 k cur lim tt vN vT w hG hk1 hk hbn hbt (Nat.le_refl _) (Nat.le_refl _) (entries_spl xb sb k cur (.slice none 0 0) (.slice none 0 0) w hG.hx h20 N k M k (below_cell hb0 hB0 hc0) (below_cell hb0 hB0 hc1)) (fun W hx hb i hi => ?_)
    rw [Nat.zero_add]
    exact ⟨below_cell (hb0.trans hb) hB0 (hn i hi), below_cell (hb0.trans hb) hB0 (ht i hi)⟩
end Go.Proofs.Ybulkkyg.Ny
