/-
  Copying into the middle of a row, clearing a part of it: what is left of the row and of the world. Of no program.
-/
import Derived.WalkKit
import Derived.Laws.CopyOwn
import Derived.Lib.SliceRun
namespace Go.Proofs.Ybulkkyg.Mem
open Go.RowKit

theorem copy_into {P : Program} (W : World) (dT sT ty elem : TypeId) (g o dLen dCap : Nat) (a : Addr) (sLen sCap : Nat) (cur : Array Value) (t : TypeId) (cs : List Value)
    (hu : P.underlying dT = some (.slice elem)) (hs : (P.info? elem).map (·.size) = some 1) (hg : W.heap[g]? = some (.cells cur t (0, 0))) (hn : cs.length = Nat.min sLen dLen)
    (hsrc : ∀ j v, cs[j]? = some v → W.cell? (a.add j) = some v) (hfit : o + cs.length ≤ cur.size) (h1 : ∀ v ∈ cs, v.oneCell' = true) :
    ∃ W2 cur2, (Builtin.copy_ #[dT, sT] ty #[.slice (some ⟨g, o, none⟩) dLen dCap, .slice (some a) sLen sCap]).run P W = .ok (goInt cs.length) W2 ∧ W2.heap[g]? = some (.cells cur2 t (0, 0)) ∧ cur2.size = cur.size ∧
      (∀ j, j < cs.length → cur2[o + j]? = cs[j]?) ∧ (∀ j, j < o ∨ o + cs.length ≤ j → cur2[j]? = cur[j]?) ∧ W.grownBy W2 (some g) := by
  refine ⟨_, _, run_copy_row (P := P) W dT sT ty elem g o dLen dCap a sLen sCap cur t cs hu hs hg hn hsrc hfit h1, setRow_heap W g cur _ t _ hg, by simp; omega, ?_, ?_, ⟨rfl, rfl, rfl, by simp, fun k _ hk => setRow_other W g k _ (fun e => hk (by rw [e]))⟩⟩
  · intro j hj
    have h2 : (List.take o cur.toList).length = o := by simp; omega
    simp only [List.getElem?_toArray]
    rw [List.append_assoc, List.getElem?_append_right (by omega), h2, Nat.add_sub_cancel_left, List.getElem?_append_left hj]
  · intro j hj
    have h2 : (List.take o cur.toList).length = o := by simp; omega
    simp only [List.getElem?_toArray]
    rcases hj with hj | hj
    · rw [List.append_assoc, List.getElem?_append_left (by omega), List.getElem?_take, if_pos hj]; simp
    · rw [List.getElem?_append_right (by rw [List.length_append]; omega), List.length_append, h2, List.getElem?_drop]
      rw [show o + cs.length + (j - (o + cs.length)) = j by omega]; simp

/-- what a run of stores leaves of a row -/
theorem setCells_row {b : Nat} {t : TypeId} : ∀ (vs : List Value) (o : Nat) (w : World) (cur : Array Value), w.heap[b]? = some (.cells cur t (0, 0)) →
    ∃ cur', (w.setCells b o vs).heap[b]? = some (.cells cur' t (0, 0)) ∧ cur'.size = cur.size ∧ (∀ j, (j < o ∨ o + vs.length ≤ j) → cur'[j]? = cur[j]?) ∧ (∀ j, j < vs.length → o + j < cur.size → cur'[o + j]? = vs[j]?)
  | [], o, w, cur, h => ⟨cur, h, rfl, fun _ _ => rfl, fun j hj => absurd hj (Nat.not_lt_zero j)⟩
  | v :: vs, o, w, cur, h => by
    obtain ⟨cur', h1, h2, h3, h4⟩ := setCells_row vs (o + 1) (w.setCell ⟨b, o, none⟩ v) (cur.setIfInBounds o v) (heap_setCell_same w b o cur t v h)
    refine ⟨cur', h1, by simpa using h2, fun j hj => ?_, fun j hj hlt => ?_⟩
    · rw [h3 j (by simp only [List.length_cons] at hj; omega), Array.getElem?_setIfInBounds_ne (by simp only [List.length_cons] at hj; omega)]
    · cases j with
      | zero =>
        rw [h3 (o + 0) (by omega)]
        simp only [Nat.add_zero, List.getElem?_cons_zero]
        rw [Array.getElem?_setIfInBounds_self, if_pos (by omega)]
      | succ j =>
        rw [show o + (j + 1) = o + 1 + j by omega, h4 j (by simp only [List.length_cons] at hj; omega) (by simp; omega)]
        simp

theorem grown_setCells {b : Nat} : ∀ (vs : List Value) (o : Nat) (a w : World), a.grownBy w (some b) → a.grownBy (w.setCells b o vs) (some b)
  | [], _, _, _, h => h
  | v :: vs, o, a, w, h => grown_setCells vs (o + 1) a _ ⟨h.os, h.tape, h.output, by simpa [World.setCell] using h.size, fun k hk hne => (heap_setCell_other w ⟨b, o, none⟩ k v (fun e => hne (by rw [e]))).trans (h.block k hk hne)⟩

theorem run_clear_none {P : Program} (w : World) (t e ty : TypeId) (ht : P.underlying t = some (.slice e)) (a : Option Addr) (c : Nat) :
    (Builtin.clear_ #[t] ty #[.slice a 0 c]).run P w = .ok (.tuple #[]) w := by
  cases a <;> simp [Builtin.clear_, run_underlying ht]

theorem clear_part {P : Program} (W : World) (t e ty : TypeId) (z : Value) (ht : P.underlying t = some (.slice e)) (hv : ∀ w, (zeroValue e).run P w = .ok z w) (hz : z.cells = #[z]) (h1 : z.oneCell' = true)
    (g o n c : Nat) (a : Option Addr) (ha : 0 < n → a = some ⟨g, o, none⟩) (cur : Array Value) (τ : TypeId) (hg : W.heap[g]? = some (.cells cur τ (0, 0))) (hfit : o + n ≤ cur.size) :
    ∃ W2 cur2, (Builtin.clear_ #[t] ty #[.slice a n c]).run P W = .ok (.tuple #[]) W2 ∧ W2.heap[g]? = some (.cells cur2 τ (0, 0)) ∧ cur2.size = cur.size ∧
      (∀ j, j < n → cur2[o + j]? = some z) ∧ (∀ j, j < o ∨ o + n ≤ j → cur2[j]? = cur[j]?) ∧ W.grownBy W2 (some g) := by
  by_cases hn : n = 0
  · subst hn
    exact ⟨W, cur, run_clear_none W t e ty ht a c, hg, rfl, fun j hj => absurd hj (Nat.not_lt_zero j), fun _ _ => rfl, World.grownBy.refl _ _⟩
  · rw [ha (by omega)]
    obtain ⟨cur2, h2, h3, h4, h5⟩ := setCells_row (List.replicate n z) o W cur hg
    simp only [List.length_replicate] at h4 h5
    refine ⟨_, cur2, Lib.run_clear_slice W t e ty z ht hv hz h1 g o n c (by omega) (fun j hj => ?_) (fun j hj => frozen_of_row W g _ cur τ hg), h2, h3, fun j hj => ?_, h4, grown_setCells _ _ _ _ (World.grownBy.refl _ _)⟩
    · rw [cell_of_row W g (o + j) cur τ (0, 0) hg, Array.getElem?_eq_getElem (by omega)]; rfl
    · rw [h5 j hj (by omega)]; simp [hj]

end Go.Proofs.Ybulkkyg.Mem
