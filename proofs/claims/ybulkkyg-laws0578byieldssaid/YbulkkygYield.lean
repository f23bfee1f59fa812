/-
  'entries' (12), the yield (8) and the iterator (11) of 'LawS0578BYields'.
-/
import Derived.Test.YbulkkygHold
import Derived.Deep.QuietTactic
import Derived.BigQuiet
import Derived.WalkSmall
namespace Go.Proofs.Ybulkkyg.Ny
open Go.RowKit
set_option linter.unusedVariables false

theorem entries_inl (cb k : Nat) (cur : Array Value) (w : World) (hk : k ≤ 8) (hg : w.heap[cb]? = some (.cells cur 31 (0, 0))) (h2 : cur[2]? = some (.int .i64 k)) (h20 : cur[20]? = some (.pointer none)) :
    Calls Yba.prog 12 #[.pointer (some ⟨cb, 0, none⟩)] w fun e w' => e = .returned (.tuple #[.slice (some ⟨cb, 4, none⟩) k 8, .slice (some ⟨cb, 12, none⟩) k 8]) ∧ ∃ n, w' = w.drewN n := by
  have c2 : w.cell? ⟨cb, 2, none⟩ = some (.int .i64 k) := by rw [cell_of_row w cb 2 cur 31 (0, 0) hg]; exact h2
  have c20 : w.cell? ⟨cb, 20, none⟩ = some (.pointer none) := by rw [cell_of_row w cb 20 cur 31 (0, 0) hg]; exact h20
  clear hg h2 h20
  have hki : (k : Int) ≤ 8 := by omega
  go_enter Yba.func12, Yba.ntmps12
  go_wp2
  go_quiet (fail)
  go_wp2
  go_ret2
  exact ⟨rfl, _, rfl⟩

theorem entries_spl (cb sb k : Nat) (cur : Array Value) (vn vt : Value) (w : World) (hg : w.heap[cb]? = some (.cells cur 31 (0, 0))) (h20 : cur[20]? = some (.pointer (some ⟨sb, 0, none⟩)))
    (gn cn gt ct : Nat) (hn : w.cell? ⟨sb, 0, none⟩ = some (.slice (some ⟨gn, 0, none⟩) k cn)) (ht : w.cell? ⟨sb, 1, none⟩ = some (.slice (some ⟨gt, 0, none⟩) k ct)) :
    Calls Yba.prog 12 #[.pointer (some ⟨cb, 0, none⟩)] w fun e w' => e = .returned (.tuple #[.slice (some ⟨gn, 0, none⟩) k cn, .slice (some ⟨gt, 0, none⟩) k ct]) ∧ ∃ n, w' = w.drewN n := by
  have c20 : w.cell? ⟨cb, 20, none⟩ = some (.pointer (some ⟨sb, 0, none⟩)) := by rw [cell_of_row w cb 20 cur 31 (0, 0) hg]; exact h20
  clear hg h20
  go_enter Yba.func12, Yba.ntmps12
  go_wp2
  go_quiet (fail)
  go_wp2
  go_ret2
  exact ⟨rfl, _, rfl⟩

theorem info2 : (Yba.prog.info? 2).map (fun i => (i.zero, i.size, i.bytes)) = some (some (.int .i64 0), 1, 8) := by kernel_rfl
theorem info9 : (Yba.prog.info? 9).map (fun i => (i.zero, i.size, i.bytes)) = some (some (.string ⟨#[]⟩), 1, 16) := by kernel_rfl

theorem own_ne {w : World} {B e G n : Nat} {t : TypeId} {v : Value} {xs : List Value} {c : Array Value} (h : w.ownsRow B e 1 v n xs) (hG : w.heap[G]? = some (.cells c t (0, 0))) (hne : e ≠ t) : some G ≠ v.ownBlock := by
  intro q
  rcases h.2 with ⟨rfl, _⟩ | ⟨g, cap, cur, rfl, _, hg, _⟩
  · cases q
  · simp only [Value.ownBlock, Option.some.injEq] at q
    subst q
    rw [hG] at hg
    cases hg
    exact hne rfl

/-- two owned rows of two types are two blocks -/
theorem own_apart {w : World} {B e f n m : Nat} {v u : Value} {xs ys : List Value} (h : w.ownsRow B e 1 v n xs) (k : w.ownsRow B f 1 u m ys) (hne : e ≠ f) : v.ownBlock = none ∨ v.ownBlock ≠ u.ownBlock := by
  rcases h.2 with ⟨rfl, _⟩ | ⟨g, cap, cur, rfl, _, hg, _⟩
  · exact Or.inl rfl
  · exact Or.inr (own_ne k hg (Ne.symm hne))

/-- what the yield has gathered: B: from here on the blocks are its own -/
structure Got (w : World) (B bl bn bt xb : Nat) (cur : Array Value) (lim : Int) (i j : Nat) (tt : Nat → Int) (vN vT : Value) : Prop where
  hl : w.heap[bl]? = some (.cells #[.int .i64 lim] 3 (0, 0))
  hn : w.heap[bn]? = some (.cells #[vN] 24 (0, 0))
  ht : w.heap[bt]? = some (.cells #[vT] 22 (0, 0))
  hx : w.heap[xb]? = some (.cells cur 31 (0, 0))
  on : w.ownsRow B 9 1 vN i (col i)
  ot : w.ownsRow B 2 1 vT j (tcol j tt)
  hB : B ≤ w.heap.size

theorem Got.drewN {w : World} {B bl bn bt xb i j : Nat} {cur : Array Value} {lim : Int} {tt : Nat → Int} {vN vT : Value} (h : Got w B bl bn bt xb cur lim i j tt vN vT) (n : Nat) : Got (w.drewN n) B bl bn bt xb cur lim i j tt vN vT :=
  ⟨h.hl, h.hn, h.ht, h.hx, h.on, h.ot, h.hB⟩

theorem Got.alloc {w : World} {B bl bn bt xb i j : Nat} {cur : Array Value} {lim : Int} {tt : Nat → Int} {vN vT : Value} (h : Got w B bl bn bt xb cur lim i j tt vN vT) (o : Obj) : Got (w.alloc o) B bl bn bt xb cur lim i j tt vN vT := by
  have al : ∀ {g : Nat} {x : Obj}, w.heap[g]? = some x → (w.alloc o).heap[g]? = some x := fun {g x} hg => by
    rw [Below.heap_alloc w o g (Array.getElem?_eq_some_iff.1 hg).1]; exact hg
  exact ⟨al h.hl, al h.hn, al h.ht, al h.hx, h.on.alloc o, h.ot.alloc o, by have := h.hB; simp; omega⟩

theorem col_succ (k : Nat) : col (k + 1) = col k ++ [.string (nm k)] := by simp [col, List.range_succ]
theorem tcol_succ (k : Nat) (tt : Nat → Int) : tcol (k + 1) tt = tcol k tt ++ [.int .i64 (tt k)] := by simp [tcol, List.range_succ]

theorem ne_of_tags {w : World} {a b : Nat} {c d : Array Value} {s t : TypeId} (h : w.heap[a]? = some (.cells c s (0, 0))) (k : w.heap[b]? = some (.cells d t (0, 0))) (hne : s ≠ t) : a ≠ b := by
  intro e; subst e; rw [h] at k; cases k; exact hne rfl

/-- one name more, its slice stored back -/
theorem Got.stepN {w w1 : World} {B bl bn bt xb i j : Nat} {cur : Array Value} {lim : Int} {tt : Nat → Int} {vN vT v' : Value} (h : Got w B bl bn bt xb cur lim i j tt vN vT) (hbn : B ≤ bn)
    (hg : w.grownBy w1 vN.ownBlock) (ho : w1.ownsRow B 9 1 v' (i + 1) (col i ++ [.string (nm i)])) :
    Got (w1.setCell ⟨bn, 0, none⟩ v') B bl bn bt xb cur lim (i + 1) j tt v' vT ∧ Below B w (w1.setCell ⟨bn, 0, none⟩ v') := by
  have kp : ∀ {g : Nat} {c : Array Value} {t : TypeId}, w.heap[g]? = some (.cells c t (0, 0)) → 9 ≠ t → w1.heap[g]? = some (.cells c t (0, 0)) := fun {g c t} hh hne => by
    rw [hg.block g (Array.getElem?_eq_some_iff.1 hh).1 (own_ne h.on hh hne)]; exact hh
  have st : ∀ {g : Nat} {x : Obj}, w1.heap[g]? = some x → g ≠ bn → (w1.setCell ⟨bn, 0, none⟩ v').heap[g]? = some x := fun {g x} hh hne => by
    rw [heap_setCell_other w1 ⟨bn, 0, none⟩ g v' hne]; exact hh
  have hn1 := kp h.hn (by decide)
  refine ⟨⟨st (kp h.hl (by decide)) (ne_of_tags h.hl h.hn (by decide)), one_setCell hn1, st (kp h.ht (by decide)) (ne_of_tags h.ht h.hn (by decide)), st (kp h.hx (by decide)) (ne_of_tags h.hx h.hn (by decide)), ?_, ?_, ?_⟩, ?_⟩
  · rw [col_succ]; exact ownsRow_setCell_other ho (by exact (own_ne ho hn1 (by decide)).symm) _
  · have ot1 := h.ot.kept hg (own_apart h.ot h.on (by decide))
    exact ownsRow_setCell_other ot1 (by exact (own_ne ot1 hn1 (by decide)).symm) _
  · have := h.hB; have := hg.size; simp [World.setCell]; omega
  · exact ((Below.refl B w).grown hg h.hB (fun k hk => (h.on.lt k hk).1)).setCell hbn _

theorem Got.stepT {w w1 : World} {B bl bn bt xb i j : Nat} {cur : Array Value} {lim : Int} {tt : Nat → Int} {vN vT v' : Value} (h : Got w B bl bn bt xb cur lim i j tt vN vT) (hbt : B ≤ bt)
    (hg : w.grownBy w1 vT.ownBlock) (ho : w1.ownsRow B 2 1 v' (j + 1) (tcol j tt ++ [.int .i64 (tt j)])) :
    Got (w1.setCell ⟨bt, 0, none⟩ v') B bl bn bt xb cur lim i (j + 1) tt vN v' ∧ Below B w (w1.setCell ⟨bt, 0, none⟩ v') := by
  have kp : ∀ {g : Nat} {c : Array Value} {t : TypeId}, w.heap[g]? = some (.cells c t (0, 0)) → 2 ≠ t → w1.heap[g]? = some (.cells c t (0, 0)) := fun {g c t} hh hne => by
    rw [hg.block g (Array.getElem?_eq_some_iff.1 hh).1 (own_ne h.ot hh hne)]; exact hh
  have st : ∀ {g : Nat} {x : Obj}, w1.heap[g]? = some x → g ≠ bt → (w1.setCell ⟨bt, 0, none⟩ v').heap[g]? = some x := fun {g x} hh hne => by
    rw [heap_setCell_other w1 ⟨bt, 0, none⟩ g v' hne]; exact hh
  have ht1 := kp h.ht (by decide)
  refine ⟨⟨st (kp h.hl (by decide)) (ne_of_tags h.hl h.ht (by decide)), st (kp h.hn (by decide)) (ne_of_tags h.hn h.ht (by decide)), one_setCell ht1, st (kp h.hx (by decide)) (ne_of_tags h.hx h.ht (by decide)), ?_, ?_, ?_⟩, ?_⟩
  · have on1 := h.on.kept hg (own_apart h.on h.ot (by decide))
    exact ownsRow_setCell_other on1 (by exact (own_ne on1 ht1 (by decide)).symm) _
  · rw [tcol_succ]; exact ownsRow_setCell_other ho (by exact (own_ne ho ht1 (by decide)).symm) _
  · have := h.hB; have := hg.size; simp [World.setCell]; omega
  · exact ((Below.refl B w).grown hg h.hB (fun k hk => (h.ot.lt k hk).1)).setCell hbt _

theorem own_shape {w : World} {B : Nat} {e : TypeId} {v : Value} {n : Nat} {xs : List Value} (h : w.ownsRow B e 1 v n xs) (hn : 0 < n) : ∃ g cap, v = .slice (some ⟨g, 0, none⟩) n cap ∧ B ≤ g ∧ n ≤ cap := by
  rcases h.2 with ⟨_, h0⟩ | ⟨g, cap, cur, hv, hb, _, hc, _⟩
  · omega
  · exact ⟨g, cap, hv, hb, hc⟩

set_option maxHeartbeats 1600000 in
theorem yield (B bl bn bt xb i : Nat) (cur : Array Value) (lim : Int) (tt : Nat → Int) (vN vT : Value) (w : World) (hG : Got w B bl bn bt xb cur lim i i tt vN vT) (hi : i ≤ 700) (hbn : B ≤ bn) (hbt : B ≤ bt) :
    Calls Yba.prog 8 #[.string (nm i), .int .i64 (tt i), .pointer (some ⟨bn, 0, none⟩), .pointer (some ⟨bt, 0, none⟩), .pointer (some ⟨bl, 0, none⟩)] w fun e w' =>
      e = .returned (.bool (decide ((i : Int) + 1 < lim))) ∧ (∃ vN' vT', Got w' B bl bn bt xb cur lim (i + 1) (i + 1) tt vN' vT') ∧ Below B w w' := by
  obtain ⟨i2, hi2, hz20, hz21, hz22⟩ := info_parts info2
  obtain ⟨i9, hi9, hz90, hz91, hz92⟩ := info_parts info9
  have cN := cell_of_one hG.hn
  have hsz := hG.hB
  go_enter Yba.func8, Yba.ntmps8
  go_wp2_with (at_builtin; refine wpList_append_own _ rfl _ _ 24 rfl B 9 i9 (.string ⟨#[]⟩) 1 16 Yba.underlying24 hi9 hz90 hz91 hz92 rfl (by decide) _ _ _ rfl (hG.on.alloc _) ⟨w.heap.size, 0, none⟩ 1 1 [Value.string (nm i)] rfl rfl ?c1 ?c2 ?c3 ?c4 ?c5 ?_)
  case c1 =>
    intro j u' hj
    match j, hj with
    | 0, hj => simp at hj; subst hj; simp [Addr.add]
  case c2 => intro u' hu'; simp at hu'; subst hu'; rfl
  case c3 => unfold maxLen; omega
  case c4 => omega
  case c5 => simp; omega
  intro v1 w1 ho1 hg1 _
  obtain ⟨hG1, hb1⟩ := (hG.alloc _).stepN hbn hg1 ho1
  obtain ⟨g1, k1, hv1, _, _⟩ := own_shape ho1 (by omega)
  have hb1' : Below B w (w1.setCell ⟨bn, 0, none⟩ v1) := ((Below.refl B w).alloc hsz _).trans hb1
  have hn1 : w1.heap[bn]? = some (.cells #[vN] 24 (0, 0)) := by
    have h0 := (hG.alloc (.cells #[Value.string (nm i)] 9)).hn
    rw [hg1.block bn (Array.getElem?_eq_some_iff.1 h0).1 (own_ne (hG.alloc _).on h0 (by decide))]; exact h0
  have c1N := cell_of_one hn1
  have f1N := free_of_one hn1
  rw [hv1] at hG1 hb1' ⊢
  have cT1 := cell_of_one hG1.ht
  have hsz1 := hG1.hB
  clear hn1 ho1 hg1 hb1 hG cN hsz hv1
  go_wp2_with (at_builtin; refine wpList_append_own _ rfl _ _ 22 rfl B 2 i2 (.int .i64 0) 1 8 Yba.underlying22 hi2 hz20 hz21 hz22 rfl (by decide) _ _ _ rfl (hG1.ot.alloc _) ⟨_, 0, none⟩ 1 1 [Value.int .i64 (tt i)] rfl rfl ?d1 ?d2 ?d3 ?d4 ?d5 ?_)
  case d1 =>
    intro j u' hj
    match j, hj with
    | 0, hj =>
      simp at hj; subst hj
      rw [Addr.add_lit, World.cell?_alloc_at (w := w1.setCell ⟨bn, 0, none⟩ (.slice (some ⟨g1, 0, none⟩) (i + 1) k1)) _ _ _ _ (by simp [World.setCell])]; rfl
  case d2 => intro u' hu'; simp at hu'; subst hu'; rfl
  case d3 => unfold maxLen; omega
  case d4 => omega
  case d5 => simp; simp [World.setCell] at hsz1; omega
  intro v2 w2 ho2 hg2 _
  obtain ⟨hG2, hb2⟩ := (hG1.alloc _).stepT hbt hg2 ho2
  obtain ⟨g2, k2, hv2, _, _⟩ := own_shape ho2 (by omega)
  have hb2' : Below B w (w2.setCell ⟨bt, 0, none⟩ v2) := (hb1'.alloc hsz1 _).trans hb2
  have ht2 : w2.heap[bt]? = some (.cells #[vT] 22 (0, 0)) := by
    have h0 := (hG1.alloc (.cells #[Value.int .i64 (tt i)] 2)).ht
    rw [hg2.block bt (Array.getElem?_eq_some_iff.1 h0).1 (own_ne (hG1.alloc _).ot h0 (by decide))]; exact h0
  have c2T := cell_of_one ht2
  have f2T := free_of_one ht2
  rw [hv2] at hG2 hb2' ⊢
  have cN2 := cell_of_one hG2.hn
  have cL2 := cell_of_one hG2.hl
  clear ht2 ho2 hg2 hb2 hG1 cT1 hsz1 hv2 hb1' c1N f1N
  go_wp2
  go_ret
  exact ⟨rfl, ⟨_, _, hG2⟩, hb2'⟩
end Go.Proofs.Ybulkkyg.Ny
