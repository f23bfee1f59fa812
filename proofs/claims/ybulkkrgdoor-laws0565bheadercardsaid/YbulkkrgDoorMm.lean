/-
  A piece of a block: numbers between other cells. Reading, storing.
-/
import Derived.Test.YbulkkrgDoorSrtMem
import Derived.Laws.CopyOwn
import Derived.Lib.SliceRun
namespace Go.Proofs.YbulkkrgDoor.Mm
open Go.RowKit Go.Proofs.YbulkkrgDoor.Srt
set_option linter.unusedVariables false

/-- block b holds: the cells pre, the numbers l, the cells post -/
structure Seg (w : World) (b : Nat) (τ : TypeId) (k : IntKind) (pre : List Value) (l : List Int) (post : List Value) : Prop where
  at_ : w.heap[b]? = some (.cells (pre ++ (l.map (Value.int k) ++ post)).toArray τ (0, 0))

theorem Seg.cell {w : World} {b : Nat} {τ : TypeId} {k : IntKind} {pre post : List Value} {l : List Int} (h : Seg w b τ k pre l post) (o j : Nat) (ho : o = pre.length) (hj : j < l.length) :
    w.cell? ⟨b, o + j, none⟩ = some (.int k (gt l j)) := by
  rw [cell_of_row w b (o + j) _ τ (0, 0) h.at_]
  subst ho
  rw [List.getElem?_toArray, List.getElem?_append_right (by omega), Nat.add_sub_cancel_left, List.getElem?_append_left (by simpa using hj), List.getElem?_map, gt_get l j hj]
  rfl
theorem Seg.free {w : World} {b : Nat} {τ : TypeId} {k : IntKind} {pre post : List Value} {l : List Int} (h : Seg w b τ k pre l post) (j : Nat) : w.frozen? ⟨b, j, none⟩ = false := by
  unfold World.frozen?
  simp [h.at_]
theorem Seg.lt {w : World} {b : Nat} {τ : TypeId} {k : IntKind} {pre post : List Value} {l : List Int} (h : Seg w b τ k pre l post) : b < w.heap.size := (Array.getElem?_eq_some_iff.1 h.at_).1
theorem Seg.set {w : World} {b : Nat} {τ : TypeId} {k : IntKind} {pre post : List Value} {l : List Int} (h : Seg w b τ k pre l post) (o j : Nat) (ho : o = pre.length) (hj : j < l.length) (x : Int) :
    Seg (w.setCell ⟨b, o + j, none⟩ (.int k x)) b τ k pre (l.set j x) post := by
  refine ⟨?_⟩
  have h1 := heap_setCell_same w b (o + j) _ τ (.int k x) h.at_
  rw [h1]
  congr 1
  subst ho
  simp [List.map_set, hj]
/-- what a run of stores leaves of a row -/
theorem setCells_row {b : Nat} {t : TypeId} : ∀ (vs : List Value) (o : Nat) (w : World) (cur : Array Value), w.heap[b]? = some (.cells cur t (0, 0)) →
    ∃ cur', (w.setCells b o vs).heap[b]? = some (.cells cur' t (0, 0)) ∧ cur'.size = cur.size ∧ (∀ j, (j < o ∨ o + vs.length ≤ j) → cur'[j]? = cur[j]?) ∧ (∀ j, j < vs.length → o + j < cur.size → cur'[o + j]? = vs[j]?)
  | [], o, w, cur, h => ⟨cur, h, rfl, fun _ _ => rfl, fun j hj => absurd hj (Nat.not_lt_zero j)⟩
  | v :: vs, o, w, cur, h => by
    obtain ⟨cur', h1, h2, h3, h4⟩ := setCells_row vs (o + 1) (w.setCell ⟨b, o, none⟩ v) (cur.setIfInBounds o v) (heap_setCell_same w b o cur t v h)
    refine ⟨cur', h1, by simpa using h2, fun j hj => ?_, fun j hj hlt => ?_⟩
    · rw [h3 j (by simp only [List.length_cons] at hj; omega), Array.getElem?_setIfInBounds_ne (by simp only [List.length_cons] at hj; omega)]
    · cases j with
      | zero =>
        rw [h3 (o + 0) (by omega)]
        simp only [Nat.add_zero, List.getElem?_cons_zero]
        rw [Array.getElem?_setIfInBounds_self, if_pos (by omega)]
      | succ j =>
        rw [show o + (j + 1) = o + 1 + j by omega, h4 j (by simp only [List.length_cons] at hj; omega) (by simp; omega)]
        simp

theorem grown_setCells {b : Nat} : ∀ (vs : List Value) (o : Nat) (a w : World), a.grownBy w (some b) → a.grownBy (w.setCells b o vs) (some b)
  | [], _, _, _, h => h
  | v :: vs, o, a, w, h => grown_setCells vs (o + 1) a _ ⟨h.os, h.tape, h.output, by simpa [World.setCell] using h.size, fun k hk hne => (heap_setCell_other w ⟨b, o, none⟩ k v (fun e => hne (by rw [e]))).trans (h.block k hk hne)⟩

theorem run_clear_none {P : Program} (w : World) (t e ty : TypeId) (ht : P.underlying t = some (.slice e)) (a : Option Addr) (c : Nat) :
    (Builtin.clear_ #[t] ty #[.slice a 0 c]).run P w = .ok (.tuple #[]) w := by
  cases a <;> simp [Builtin.clear_, run_underlying ht]

theorem clear_part {P : Program} (W : World) (t e ty : TypeId) (z : Value) (ht : P.underlying t = some (.slice e)) (hv : ∀ w, (zeroValue e).run P w = .ok z w) (hz : z.cells = #[z]) (h1 : z.oneCell' = true)
    (g o n c : Nat) (a : Option Addr) (ha : 0 < n → a = some ⟨g, o, none⟩) (cur : Array Value) (τ : TypeId) (hg : W.heap[g]? = some (.cells cur τ (0, 0))) (hfit : o + n ≤ cur.size) :
    ∃ W2 cur2, (Builtin.clear_ #[t] ty #[.slice a n c]).run P W = .ok (.tuple #[]) W2 ∧ W2.heap[g]? = some (.cells cur2 τ (0, 0)) ∧ cur2.size = cur.size ∧
      (∀ j, j < n → cur2[o + j]? = some z) ∧ (∀ j, j < o ∨ o + n ≤ j → cur2[j]? = cur[j]?) ∧ W.grownBy W2 (some g) := by
  by_cases hn : n = 0
  · subst hn
    exact ⟨W, cur, run_clear_none W t e ty ht a c, hg, rfl, fun j hj => absurd hj (Nat.not_lt_zero j), fun _ _ => rfl, World.grownBy.refl _ _⟩
  · rw [ha (by omega)]
    obtain ⟨cur2, h2, h3, h4, h5⟩ := setCells_row (List.replicate n z) o W cur hg
    simp only [List.length_replicate] at h4 h5
    refine ⟨_, cur2, Lib.run_clear_slice W t e ty z ht hv hz h1 g o n c (by omega) (fun j hj => ?_) (fun j hj => frozen_of_row W g _ cur τ hg), h2, h3, fun j hj => ?_, h4, grown_setCells _ _ _ _ (World.grownBy.refl _ _)⟩
    · rw [cell_of_row W g (o + j) cur τ (0, 0) hg, Array.getElem?_eq_getElem (by omega)]; rfl
    · rw [h5 j hj (by omega)]; simp [hj]


theorem zero5 : ∀ w : World, (zeroValue 5).run Ybad.prog w = .ok (.int .u8 0) w := fun w => by kernel_rfl

/-- the piece cleared -/
theorem Seg.clear {W : World} {b : Nat} {τ : TypeId} {pre post : List Value} {l : List Int} (h : Seg W b τ .u8 pre l post) (o N c ty : Nat) (ho : o = pre.length) (hN : N = l.length) :
    ∃ W2, (Builtin.clear_ #[35] ty #[.slice (some ⟨b, o, none⟩) N c]).run Ybad.prog W = .ok (.tuple #[]) W2 ∧ Seg W2 b τ .u8 pre (List.replicate N 0) post ∧ W.grownBy W2 (some b) := by
  obtain ⟨W2, c2, hrun, hg, hs, hin, hout, hgr⟩ := clear_part (P := Ybad.prog) W 35 5 ty (.int .u8 0) Ybad.underlying35 zero5 rfl rfl b o N c _ (fun _ => rfl) _ τ h.at_ (by simp; omega)
  refine ⟨W2, hrun, ⟨?_⟩, hgr⟩
  rw [hg]
  congr 2
  subst ho hN
  apply Array.ext_getElem?
  intro j
  by_cases h1 : j < pre.length
  · rw [hout j (.inl h1), List.getElem?_toArray, List.getElem?_toArray, List.getElem?_append_left h1, List.getElem?_append_left h1]
  · by_cases h2 : j < pre.length + l.length
    · obtain ⟨q, rfl⟩ : ∃ q, j = pre.length + q := ⟨j - pre.length, by omega⟩
      rw [hin q (by omega), List.getElem?_toArray, List.getElem?_append_right (by omega), Nat.add_sub_cancel_left, List.getElem?_append_left (by simp; omega), List.map_replicate, List.getElem?_replicate, if_pos (by omega)]
    · have e1 : (l.map (Value.int .u8)).length = l.length := by simp
      have e2 : ((List.replicate l.length 0).map (Value.int .u8)).length = l.length := by simp
      rw [hout j (.inr (by omega)), List.getElem?_toArray, List.getElem?_toArray, List.getElem?_append_right (by omega), List.getElem?_append_right (by omega), List.getElem?_append_right (by omega), List.getElem?_append_right (by omega), e1, e2]
/-! ### what other stores, new blocks and draws leave -/
theorem Seg.other {w : World} {b : Nat} {τ : TypeId} {k : IntKind} {pre post : List Value} {l : List Int} (h : Seg w b τ k pre l post) (a : Addr) (v : Value) (ha : b ≠ a.block) : Seg (w.setCell a v) b τ k pre l post :=
  ⟨by rw [heap_setCell_other w a b v ha]; exact h.at_⟩
theorem Seg.alloc {w : World} {b : Nat} {τ : TypeId} {k : IntKind} {pre post : List Value} {l : List Int} (h : Seg w b τ k pre l post) (o : Obj) : Seg (w.alloc o) b τ k pre l post :=
  ⟨by rw [Below.heap_alloc w o b h.lt]; exact h.at_⟩
theorem Seg.drewN {w : World} {b : Nat} {τ : TypeId} {k : IntKind} {pre post : List Value} {l : List Int} (h : Seg w b τ k pre l post) (n : Nat) : Seg (w.drewN n) b τ k pre l post := ⟨h.at_⟩
theorem Seg.kept {w w' : World} {b r : Nat} {τ : TypeId} {k : IntKind} {pre post : List Value} {l : List Int} (h : Seg w b τ k pre l post) (hg : w.grownBy w' (some r)) (hr : b ≠ r) : Seg w' b τ k pre l post :=
  ⟨by rw [hg.block b h.lt (by simpa using hr)]; exact h.at_⟩
theorem Seg.kept0 {w w' : World} {b : Nat} {τ : TypeId} {k : IntKind} {pre post : List Value} {l : List Int} (h : Seg w b τ k pre l post) (hg : w.grownBy w' none) : Seg w' b τ k pre l post :=
  ⟨by rw [hg.block b h.lt (by simp)]; exact h.at_⟩

/-- a block whole -/
structure At (w : World) (b : Nat) (τ : TypeId) (cs : List Value) : Prop where
  at_ : w.heap[b]? = some (.cells cs.toArray τ (0, 0))
theorem At.lt {w : World} {b : Nat} {τ : TypeId} {cs : List Value} (h : At w b τ cs) : b < w.heap.size := (Array.getElem?_eq_some_iff.1 h.at_).1
theorem At.cell {w : World} {b : Nat} {τ : TypeId} {cs : List Value} (h : At w b τ cs) (j : Nat) (v : Value) (hv : cs[j]? = some v) : w.cell? ⟨b, j, none⟩ = some v := by
  rw [cell_of_row w b j _ τ (0, 0) h.at_, List.getElem?_toArray]; exact hv
theorem At.free {w : World} {b : Nat} {τ : TypeId} {cs : List Value} (h : At w b τ cs) (j : Nat) : w.frozen? ⟨b, j, none⟩ = false := by
  unfold World.frozen?; simp [h.at_]
theorem At.set {w : World} {b : Nat} {τ : TypeId} {cs : List Value} (h : At w b τ cs) (j : Nat) (v : Value) : At (w.setCell ⟨b, j, none⟩ v) b τ (cs.set j v) := by
  refine ⟨?_⟩
  rw [heap_setCell_same w b j _ τ v h.at_]
  simp
theorem At.other {w : World} {b : Nat} {τ : TypeId} {cs : List Value} (h : At w b τ cs) (a : Addr) (v : Value) (ha : b ≠ a.block) : At (w.setCell a v) b τ cs := ⟨by rw [heap_setCell_other w a b v ha]; exact h.at_⟩
theorem At.alloc {w : World} {b : Nat} {τ : TypeId} {cs : List Value} (h : At w b τ cs) (o : Obj) : At (w.alloc o) b τ cs := ⟨by rw [Below.heap_alloc w o b h.lt]; exact h.at_⟩
theorem At.new (w : World) (τ : TypeId) (cs : List Value) : At (w.alloc (.cells cs.toArray τ)) w.heap.size τ cs := ⟨heap_alloc_new w _⟩
theorem At.drewN {w : World} {b : Nat} {τ : TypeId} {cs : List Value} (h : At w b τ cs) (n : Nat) : At (w.drewN n) b τ cs := ⟨h.at_⟩
theorem At.kept {w w' : World} {b r : Nat} {τ : TypeId} {cs : List Value} (h : At w b τ cs) (hg : w.grownBy w' (some r)) (hr : b ≠ r) : At w' b τ cs := ⟨by rw [hg.block b h.lt (by simpa using hr)]; exact h.at_⟩
theorem At.kept0 {w w' : World} {b : Nat} {τ : TypeId} {cs : List Value} (h : At w b τ cs) (hg : w.grownBy w' none) : At w' b τ cs := ⟨by rw [hg.block b h.lt (by simp)]; exact h.at_⟩

/-- the world w grown, only block r of its old ones written -/
theorem grown_set {w0 w : World} {r : Nat} (h : w0.grownBy w (some r)) (a : Addr) (v : Value) (ha : w0.heap.size ≤ a.block ∨ a.block = r) : w0.grownBy (w.setCell a v) (some r) :=
  ⟨h.os, h.tape, h.output, by simpa [World.setCell] using h.size, fun k hk hne => (heap_setCell_other w a k v (fun e => by rcases ha with h | h; omega; exact hne (by rw [e, h]))).trans (h.block k hk hne)⟩
theorem grown_alloc {w0 w : World} {r : Option Nat} (h : w0.grownBy w r) (o : Obj) : w0.grownBy (w.alloc o) r :=
  ⟨h.os, h.tape, h.output, Nat.le_trans h.size (by show _ ≤ (w.heap.push o).size; rw [Array.size_push]; omega), fun k hk hne => (Below.heap_alloc w o k (Nat.lt_of_lt_of_le hk h.size)).trans (h.block k hk hne)⟩
theorem grown_drewN {w0 w : World} {r : Option Nat} (h : w0.grownBy w r) (n : Nat) : w0.grownBy (w.drewN n) r := ⟨h.os, h.tape, h.output, h.size, h.block⟩
theorem grown_own {w0 w w' : World} {r : Nat} {row : Option Nat} (h : w0.grownBy w (some r)) (hg : w.grownBy w' row) (hr : ∀ k, row = some k → w0.heap.size ≤ k ∨ k = r) : w0.grownBy w' (some r) :=
  ⟨hg.os.trans h.os, hg.tape.trans h.tape, hg.output.trans h.output, Nat.le_trans h.size hg.size, fun k hk hne => (hg.block k (Nat.lt_of_lt_of_le hk h.size) (fun e => by rcases hr k e.symm with h' | h'; omega; exact hne (by rw [h']))).trans (h.block k hk hne)⟩
theorem grown_cell {w0 w : World} {r : Nat} (h : w0.grownBy w (some r)) {p : Addr} {v : Value} (hc : w0.cell? p = some v) (hp : p.block ≠ r) : w.cell? p = some v := by
  have hb := World.block_lt_of_cell? _ _ hc
  have := h.block p.block hb (by simpa using hp)
  unfold World.cell? at hc ⊢
  rw [this]; exact hc
end Go.Proofs.YbulkkrgDoor.Mm
