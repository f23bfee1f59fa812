/-
  The walk of 'describe' (11).
-/
import Derived.Test.YbulkkrgDoorFit
import Derived.Test.YbulkkrgDoorDePlain
import Derived.Deep.RegionLawGrows
namespace Go.Proofs.YbulkkrgDoor.De
open Go.RowKit Go.Proofs.YbulkkrgDoor.Srt Go.Proofs.YbulkkrgDoor.Mm Go.Proofs.YbulkkrgDoor.Hu Go.Proofs.YbulkkrgDoor.Co Go.Proofs.YbulkkrgDoor.Fb
set_option linter.unusedVariables false

/-- an append onto a row of the call's own, as one step of a region that draws -/
theorem step_append_own {P : Program} {ops : Array Oper} {o : Oper} {a : Act} {w : World} {K : Act → World → Prop} {Q : Exit → Act → World → Prop} {E : Prop}
    (hg : o.guard = none) (s x : Operand) (t : TypeId) (hop : o.op = Op.call { callee := Callee.builtin Builtin.append, args := #[s, x], argTypes := #[t, t] })
    (base : Nat) (e : TypeId) (i : TypeInfo) (z : Value) (size bytes : Nat) (h1 : P.underlying t = some (.slice e)) (h2 : P.info? e = some i) (h3 : i.zero = some z) (h4 : i.size = size) (h5 : i.bytes = bytes) (h6 : z.cells.size = size) (h7 : 0 < size)
    (v : Value) (n : Nat) (xs : List Value) (hs : a.eval s = v) (hown : w.ownsRow base e size v n xs)
    (ad : Addr) (m c : Nat) (news : List Value) (hx : a.eval x = .slice (some ad) m c) (hn : news.length = m * size) (hc : ∀ j u, news[j]? = some u → w.cell? (ad.add j) = some u) (h1c : ∀ u ∈ news, u.oneCell' = true)
    (b1 : n + m ≤ maxLen) (b2 : (n + m) * bytes ≤ 140737488355328) (hb : base ≤ w.heap.size)
    (hK : ∀ v' w', w'.ownsRow base e size v' (n + m) (xs ++ news) → w.grownBy w' v.ownBlock → K (a.put o.dst v') w') :
    if Region.wanted o (yielded ops a.tmps) = true then Oper.wp P o a w K Q else E := by
  have hw : Region.wanted o (yielded ops a.tmps) = true := by simp [Region.wanted, hg]
  rw [if_pos hw]
  obtain ⟨v', w', hrun, r1, r2, _⟩ := run_append_own (P := P) w base t o.type e i z size bytes h1 h2 h3 h4 h5 h6 h7 v n xs hown ad m c news hn hc h1c b1 b2 hb
  unfold Oper.wp
  simp [execOp, hop, resolve, invoke, builtin, hs, hx, hrun, Result.andThen]
  exact hK v' w' r1 r2

/-- the memory of 'describe' -/
structure Md (hb cb s : Nat) (a d ca cd : List Int) (w0 wx : World) (L D C : Int) (cl cc : List Int) (rv lv : Value) : Prop where
  hH : Hb wx hb L D C cl cc rv lv
  hC : Cb wx cb a d ca cd
  hG : w0.grownBy wx (some hb)
  ord : hb < s ∧ cb < s ∧ hb ≠ cb ∧ w0.heap.size = s

variable {hb cb s : Nat} {a d ca cd : List Int} {w0 wx : World} {L D C : Int} {cl cc : List Int} {rv lv : Value}
theorem Cb.other {w : World} {cb : Nat} {a d ca cd : List Int} (h : Cb w cb a d ca cd) (p : Addr) (v : Value) (hp : cb ≠ p.block) : Cb (w.setCell p v) cb a d ca cd := ⟨(h.segA.other p v hp).at_, h.la, h.ld, h.lca, h.lcd⟩
theorem Cb.alloc {w : World} {cb : Nat} {a d ca cd : List Int} (h : Cb w cb a d ca cd) (o : Obj) : Cb (w.alloc o) cb a d ca cd := ⟨(h.segA.alloc o).at_, h.la, h.ld, h.lca, h.lcd⟩
theorem Md.set0 (h : Md hb cb s a d ca cd w0 wx L D C cl cc rv lv) (x : Int) : Md hb cb s a d ca cd w0 (wx.setCell ⟨hb, 0, none⟩ (.int .i64 x)) x D C cl cc rv lv := ⟨h.hH.set0 x, Cb.other h.hC _ _ (Ne.symm h.ord.2.2.1), grown_set h.hG _ _ (.inr rfl), h.ord⟩
theorem Md.set1 (h : Md hb cb s a d ca cd w0 wx L D C cl cc rv lv) (x : Int) : Md hb cb s a d ca cd w0 (wx.setCell ⟨hb, 1, none⟩ (.int .i64 x)) L x C cl cc rv lv := ⟨h.hH.set1 x, Cb.other h.hC _ _ (Ne.symm h.ord.2.2.1), grown_set h.hG _ _ (.inr rfl), h.ord⟩
theorem Md.set2 (h : Md hb cb s a d ca cd w0 wx L D C cl cc rv lv) (x : Int) : Md hb cb s a d ca cd w0 (wx.setCell ⟨hb, 2, none⟩ (.int .i64 x)) L D x cl cc rv lv := ⟨h.hH.set2 x, Cb.other h.hC _ _ (Ne.symm h.ord.2.2.1), grown_set h.hG _ _ (.inr rfl), h.ord⟩
theorem Md.set41 (h : Md hb cb s a d ca cd w0 wx L D C cl cc rv lv) (x : Value) : Md hb cb s a d ca cd w0 (wx.setCell ⟨hb, 41, none⟩ x) L D C cl cc x lv := ⟨h.hH.set41 x, Cb.other h.hC _ _ (Ne.symm h.ord.2.2.1), grown_set h.hG _ _ (.inr rfl), h.ord⟩
theorem Md.set42 (h : Md hb cb s a d ca cd w0 wx L D C cl cc rv lv) (x : Value) : Md hb cb s a d ca cd w0 (wx.setCell ⟨hb, 42, none⟩ x) L D C cl cc rv x := ⟨h.hH.set42 x, Cb.other h.hC _ _ (Ne.symm h.ord.2.2.1), grown_set h.hG _ _ (.inr rfl), h.ord⟩
theorem Md.alloc (h : Md hb cb s a d ca cd w0 wx L D C cl cc rv lv) (o : Obj) : Md hb cb s a d ca cd w0 (wx.alloc o) L D C cl cc rv lv := ⟨h.hH.alloc o, Cb.alloc h.hC o, grown_alloc h.hG o, h.ord⟩
theorem Md.drewN (h : Md hb cb s a d ca cd w0 wx L D C cl cc rv lv) (n : Nat) : Md hb cb s a d ca cd w0 (wx.drewN n) L D C cl cc rv lv := ⟨h.hH.drewN n, h.hC.drewN n, grown_drewN h.hG n, h.ord⟩
theorem Md.other (h : Md hb cb s a d ca cd w0 wx L D C cl cc rv lv) (p : Addr) (v : Value) (hp : s ≤ p.block) : Md hb cb s a d ca cd w0 (wx.setCell p v) L D C cl cc rv lv := by
  have o := h.ord
  exact ⟨h.hH.other p v (by omega), Cb.other h.hC p v (by omega), grown_set h.hG p v (.inl (by omega)), o⟩
theorem Md.kept (h : Md hb cb s a d ca cd w0 wx L D C cl cc rv lv) {w' : World} {r : Option Nat} (hg : wx.grownBy w' r) (hr : ∀ k, r = some k → s ≤ k) : Md hb cb s a d ca cd w0 w' L D C cl cc rv lv := by
  have o := h.ord
  refine ⟨h.hH.kept hg (fun e => by have := hr hb e.symm; omega), ⟨?_, h.hC.la, h.hC.ld, h.hC.lca, h.hC.lcd⟩, grown_own h.hG hg (fun k hk => .inl (by have := hr k hk; omega)), o⟩
  rw [hg.block cb h.hC.lt (fun e => by have := hr cb e.symm; omega)]; exact h.hC.at_
theorem Md.size (h : Md hb cb s a d ca cd w0 wx L D C cl cc rv lv) : s ≤ wx.heap.size := by have := h.hG.size; have := h.ord; omega

theorem info5 : (Ybad.prog.info? 5).map (fun i => (i.zero, i.size, i.bytes)) = some (some (.int .u8 0), 1, 1) := by kernel_rfl
theorem info53 : (Ybad.prog.info? 53).map (fun i => (i.zero, i.size, i.bytes)) = some (some (.agg #[.int .u8 0, .int .u8 0]), 2, 2) := by kernel_rfl

/-- the least count from b on that holds every length but zeros -/
structure Lst (b n : Nat) (l : List Int) (L : Nat) : Prop where
  lo : b ≤ L
  hi : L ≤ n
  off : ∀ j, L ≤ j → j < n → gt l j = 0
  at_ : b < L → gt l (L - 1) ≠ 0

/-- how often each symbol stands among the runs -/
def fqS (f : List Int) (r : Int × Int) : List Int := f.set r.1.toNat (gt f r.1.toNat + 1)
def fq (R : List (Int × Int)) : List Int := R.foldl fqS (List.replicate 19 0)
theorem fq_snoc (R : List (Int × Int)) (r : Int × Int) : fq (R ++ [r]) = fqS (fq R) r := by unfold fq; rw [List.foldl_append]; rfl
theorem fq_len (R : List (Int × Int)) : (fq R).length = 19 := by
  suffices h : ∀ (R : List (Int × Int)) (f : List Int), f.length = 19 → (R.foldl fqS f).length = 19 from h R _ (by simp)
  intro R
  induction R with
  | nil => intro f h; exact h
  | cons r R ih => intro f h; exact ih _ (by unfold fqS; rw [List.length_set]; exact h)
theorem fq_bd (R : List (Int × Int)) : ∀ k, k ≤ R.length → ∀ j, j < 19 → 0 ≤ gt (fq (R.take k)) j ∧ gt (fq (R.take k)) j ≤ k
  | 0, _, j, hj => by
    rw [List.take_zero]
    show 0 ≤ gt (List.replicate 19 0) j ∧ gt (List.replicate 19 0) j ≤ _
    rw [gt_replicate]; simp
  | k + 1, hk, j, hj => by
    rw [List.take_add_one, List.getElem?_eq_getElem (by omega)]
    show 0 ≤ gt (fq (R.take k ++ [R[k]])) j ∧ gt (fq (R.take k ++ [R[k]])) j ≤ _
    rw [fq_snoc]
    unfold fqS
    have ih := fq_bd R k (by omega)
    by_cases e : j = (R[k]).1.toNat
    · subst e
      rw [gt_set_self _ _ _ (by rw [fq_len]; exact hj)]
      have := ih _ hj; omega
    · rw [gt_set_ne _ _ _ _ (fun h => e h.symm)]
      have := ih j hj; omega
theorem fq_step (R : List (Int × Int)) (k : Nat) (hk : k < R.length) : fq (R.take (k + 1)) = (fq (R.take k)).set (R[k]).1.toNat (gt (fq (R.take k)) (R[k]).1.toNat + 1) := by
  rw [List.take_add_one, List.getElem?_eq_getElem hk]
  exact fq_snoc _ _

/-- the order in which the lengths of the code-length code stand -/
def ordL : List Int := [16, 17, 18, 0, 8, 7, 9, 6, 10, 5, 11, 4, 12, 3, 13, 2, 14, 1, 15]
theorem ordL_bd (j : Nat) (hj : j < 19) : 0 ≤ gt ordL j ∧ gt ordL j < 19 := (by decide : ∀ j : Fin 19, 0 ≤ gt ordL j.val ∧ gt ordL j.val < 19) ⟨j, hj⟩
/-- the header described -/
structure Dd (a d : List Int) (L D C : Nat) (R : List (Int × Int)) (cl : List Int) : Prop where
  hl : Lst 257 286 a L
  hd : Lst 1 30 d D
  hr : Rn R (a.take L ++ d.take D)
  hf : Hf 19 7 (fq R) cl
  c1 : 4 ≤ C
  c2 : C ≤ 19
  c3 : ∀ i, C ≤ i → i < 19 → gt cl (gt ordL i).toNat = 0
theorem owns_kept {w w' : World} {B : Nat} {e : TypeId} {k : Nat} {v : Value} {n : Nat} {xs : List Value} {r : Nat} (h : w.ownsRow B e k v n xs) (hg : w.grownBy w' (some r)) (hr : r < B) : w'.ownsRow B e k v n xs := by
  refine ⟨h.1, ?_⟩
  rcases h.2 with h' | ⟨g, cap, cur, h1, h2, h3, h4⟩
  · exact .inl h'
  · exact .inr ⟨g, cap, cur, h1, h2, by rw [hg.block g (Array.getElem?_eq_some_iff.1 h3).1 (by simp; omega)]; exact h3, h4⟩
theorem owns_mono {w : World} {B B' : Nat} {e : TypeId} {k : Nat} {v : Value} {n : Nat} {xs : List Value} (h : w.ownsRow B e k v n xs) (hb : B' ≤ B) : w.ownsRow B' e k v n xs := by
  refine ⟨h.1, ?_⟩
  rcases h.2 with h' | ⟨g, cap, cur, h1, h2, h3⟩
  · exact .inl h'
  · exact .inr ⟨g, cap, cur, h1, by omega, h3⟩

/-- the memory of the loop over the runs -/
structure Mr (hb cb s : Nat) (a d ca cd : List Int) (w0 wx : World) (L D C : Int) (cl cc : List Int) (rv lv : Value) (g : Nat) (X : List Int) (spare : List Value) (s2 : Nat) (R : List (Int × Int)) : Prop where
  m : Md hb cb s a d ca cd w0 wx L D C cl cc rv lv
  x : Seg wx g 5 .u8 [] X spare
  r : wx.ownsRow s2 53 2 rv R.length (rc R)
  o : s ≤ g ∧ g < s2 ∧ s2 ≤ wx.heap.size

theorem owns_set {w : World} {B : Nat} {e : TypeId} {k : Nat} {v : Value} {n : Nat} {xs : List Value} (h : w.ownsRow B e k v n xs) (p : Addr) (u : Value) (hp : p.block < B) : (w.setCell p u).ownsRow B e k v n xs := by
  refine ⟨h.1, ?_⟩
  rcases h.2 with h' | ⟨g, cap, cur, h1, h2, h3, h4⟩
  · exact .inl h'
  · exact .inr ⟨g, cap, cur, h1, h2, by rw [heap_setCell_other w p g u (by omega)]; exact h3, h4⟩
theorem Mr.drewN {g : Nat} {X : List Int} {spare : List Value} {s2 : Nat} {R : List (Int × Int)} (h : Mr hb cb s a d ca cd w0 wx L D C cl cc rv lv g X spare s2 R) (n : Nat) : Mr hb cb s a d ca cd w0 (wx.drewN n) L D C cl cc rv lv g X spare s2 R := ⟨h.m.drewN n, h.x.drewN n, h.r, h.o⟩
/-- a run appended -/
theorem Mr.app {g : Nat} {X : List Int} {spare : List Value} {s2 : Nat} {R : List (Int × Int)} (h : Mr hb cb s a d ca cd w0 wx L D C cl cc rv lv g X spare s2 R) (b : Obj) (p q : Int) (v1 : Value) (w5 : World) (ho : w5.ownsRow s2 53 2 v1 (R.length + 1) (rc R ++ [.int .u8 p, .int .u8 q])) (hg : (wx.alloc b).grownBy w5 rv.ownBlock) :
    w5.cell? ⟨hb, 41, none⟩ = some rv ∧ w5.frozen? ⟨hb, 41, none⟩ = false ∧ Mr hb cb s a d ca cd w0 (w5.setCell ⟨hb, 41, none⟩ v1) L D C cl cc v1 lv g X spare s2 (R ++ [(p, q)]) := by
  have o := h.o
  have o2 := h.m.ord
  have hown : ∀ k, rv.ownBlock = some k → s2 ≤ k := fun k hk => (h.r.lt k hk).1
  have hm := (h.m.alloc b).kept hg (fun k hk => by have := hown k hk; omega)
  have hx : Seg w5 g 5 .u8 [] X spare := ⟨by rw [hg.block g (h.x.alloc b).lt (fun e => by have := hown g e.symm; omega)]; exact (h.x.alloc b).at_⟩
  have hsz : wx.heap.size ≤ w5.heap.size := Nat.le_trans (World.grownBy_alloc wx b none).size hg.size
  refine ⟨hm.hH.c41, hm.hH.free 41, hm.set41 v1, hx.other _ _ (by show g ≠ hb; omega), ?_, o.1, o.2.1, ?_⟩
  · have := owns_set ho ⟨hb, 41, none⟩ v1 (by show hb < s2; omega)
    rw [rc_snoc, List.length_append]; exact this
  · show s2 ≤ (w5.setCell _ _).heap.size
    have : (w5.setCell ⟨hb, 41, none⟩ v1).heap.size = w5.heap.size := by simp [World.setCell]
    omega

theorem Mr.alloc {g : Nat} {X : List Int} {spare : List Value} {s2 : Nat} {R : List (Int × Int)} (h : Mr hb cb s a d ca cd w0 wx L D C cl cc rv lv g X spare s2 R) (b : Obj) : Mr hb cb s a d ca cd w0 (wx.alloc b) L D C cl cc rv lv g X spare s2 R :=
  ⟨h.m.alloc b, h.x.alloc b, h.r.alloc b, h.o.1, h.o.2.1, Nat.le_trans h.o.2.2 (World.grownBy_alloc wx b none).size⟩
/-- a store into a block that is none of the runs' -/
theorem Mr.other {g : Nat} {X : List Int} {spare : List Value} {s2 : Nat} {R : List (Int × Int)} (h : Mr hb cb s a d ca cd w0 wx L D C cl cc rv lv g X spare s2 R) (p : Addr) (v : Value) (h1 : s2 ≤ p.block) (h2 : ∀ k, rv.ownBlock = some k → k ≠ p.block) : Mr hb cb s a d ca cd w0 (wx.setCell p v) L D C cl cc rv lv g X spare s2 R := by
  have o := h.o
  refine ⟨h.m.other p v (by omega), h.x.other p v (by omega), ⟨h.r.1, ?_⟩, o.1, o.2.1, by simp [World.setCell]; omega⟩
  rcases h.r.2 with h' | ⟨g', cap, cur, e1, e2, e3, e4⟩
  · exact .inl h'
  · exact .inr ⟨g', cap, cur, e1, e2, by rw [heap_setCell_other wx p g' v (h2 g' (by rw [e1]; rfl))]; exact e3, e4⟩
theorem Mr.two {g : Nat} {X : List Int} {spare : List Value} {s2 : Nat} {R : List (Int × Int)} (h : Mr hb cb s a d ca cd w0 wx L D C cl cc rv lv g X spare s2 R) {gr n c : Nat} (hv : rv = .slice (some ⟨gr, 0, none⟩) n c) (k : Nat) (hk : k < R.length) :
    wx.cell? ⟨gr, k * 2, none⟩ = some (.int .u8 (R[k]).1) ∧ wx.cell? ⟨gr, k * 2 + 1, none⟩ = some (.int .u8 (R[k]).2) := by
  have hr := h.r
  rw [hv] at hr
  have hn : n = R.length := by
    rcases hr.2 with ⟨h', _⟩ | ⟨g', cap, cur, e1, _⟩
    · simp at h'
    · simp at e1; exact e1.2.1
  subst hn
  have g1 := rc_get R k hk
  have l := rc_len R
  constructor
  · rw [hr.cellAt (k * 2) (by omega), show k * 2 = 2 * k by omega]; exact g1.1
  · rw [hr.cellAt (k * 2 + 1) (by omega), show k * 2 = 2 * k by omega]; exact g1.2

set_option maxHeartbeats 3200000 in
set_option maxRecDepth 100000 in
theorem describe (hb cb : Nat) (a d ca cd cl0 cc0 : List Int) (L0 D0 C0 : Int) (w : World) (hC : Cb w cb a d ca cd) (hH : Hb w hb L0 D0 C0 cl0 cc0 (.slice none 0 0) (.slice none 0 0)) (hne : hb ≠ cb)
    (ha : ∀ j, j < 286 → 0 ≤ gt a j ∧ gt a j ≤ 15) (hd : ∀ j, j < 30 → 0 ≤ gt d j ∧ gt d j ≤ 15) (hO : ∀ j, j < 19 → w.cell? ⟨0, j, none⟩ = some (.int .u8 (gt ordL j))) (hh0 : 0 ≠ hb) :
    Calls Ybad.prog 11 #[.pointer (some ⟨hb, 0, none⟩), .pointer (some ⟨cb, 0, none⟩)] w fun e w' => e = .returned (.tuple #[]) ∧ (∃ (L D C : Nat) (R : List (Int × Int)) (cl cc : List Int) (rv lv : Value), Hb w' hb L D C cl cc rv lv ∧ Cb w' cb a d ca cd ∧ w'.ownsRow w.heap.size 53 2 rv R.length (rc R) ∧ Dd a d L D C R cl) ∧ w.grownBy w' (some hb) := by
  have HA : Hid (∀ j, j < 286 → 0 ≤ gt a j ∧ gt a j ≤ 15) := ha
  have HD : Hid (∀ j, j < 30 → 0 ≤ gt d j ∧ gt d j ≤ 15) := hd
  have HO : Hid (∀ j, j < 19 → w.cell? ⟨0, j, none⟩ = some (.int .u8 (gt ordL j))) := hO
  clear ha hd hO
  obtain ⟨i5, hi5, hz50, hz51, hz52⟩ := info_parts info5
  obtain ⟨i53, hi53, hz530, hz531, hz532⟩ := info_parts info53
  have hM0 : Md hb cb w.heap.size a d ca cd w w L0 D0 C0 cl0 cc0 (.slice none 0 0) (.slice none 0 0) := ⟨hH, hC, World.grownBy.refl _ _, hH.lt, hC.lt, hne, rfl⟩
  obtain ⟨s, hs⟩ : ∃ s, s = w.heap.size := ⟨_, rfl⟩
  rw [← hs] at hM0
  have HSz : Hid (s = w.heap.size) := hs
  clear hs hC hH hne
  go_enter Ybad.func11, Ybad.ntmps11
  have hM1 := hM0.set0 257
  have hc00 := hM0.hH.c0
  have hf00 := hM0.hH.free 0
  go_upto_block 0 with fail
  go_cut [] from 13 to 31 (fun wx => ∃ L : Nat, Lst 257 286 a L ∧ Md hb cb s a d ca cd w wx L D0 C0 cl0 cc0 (.slice none 0 0) (.slice none 0 0))
  case first =>
    go_wp2_with fail
    go_loopw [4] (fun iv wr => ∃ k : Nat, iv = .int .i64 k ∧ 256 ≤ k ∧ k ≤ 285 ∧ Hid (∀ j, k < j → j < 286 → gt a j = 0) ∧ Md hb cb s a d ca cd w wr 257 D0 C0 cl0 cc0 (.slice none 0 0) (.slice none 0 0)) (fun iv _ => (intOf iv).toNat)
    case atStart => exact ⟨285, rfl, by omega, by omega, fun j h1 h2 => by omega, hM1⟩
    case round =>
      clear hM0 hM1 hc00 hf00
      obtain ⟨k, rfl, hk1, hk2, HZ, hM⟩ := hrel
      obtain ⟨wo, hwo⟩ : ∃ wo : World, wo = wr := ⟨_, rfl⟩
      rw [← hwo] at hM ⊢
      clear hwo
      by_cases hlt : 257 ≤ k
      · have hlti : (257 : Int) ≤ k := by omega
        have hki : (k : Int) < 286 := by omega
        have hbd := HA.out k (by omega)
        have hcl := Seg.cell0 hM.hC.segA k (by rw [hM.hC.la]; omega)
        obtain ⟨x, hx⟩ : ∃ x : Nat, gt a k = x := ⟨(gt a k).toNat, by omega⟩
        rw [hx] at hcl
        have HX : Hid (gt a k = x) := hx
        clear hx hbd
        by_cases h0 : x = 0
        · subst h0
          go_wp2
          go_roundw
          case rel => exact ⟨k - 1, by go_num, by omega, by omega, fun j h1 h2 => by
            by_cases e : j = k
            · subst e; exact HX.out
            · exact HZ.out j (by omega) h2, hM⟩
          case measure => simp [intOf]; omega
        · have h0i : ¬ (x : Int) = 0 := by omega
          have hf0 := hM.hH.free 0
          have hc0 := hM.hH.c0
          have hM' := hM.set0 ((k + 1 : Nat) : Int)
          go_wp2
          go_meet
          case rel => exact ⟨k + 1, ⟨by omega, by omega, fun j h1 h2 => HZ.out j (by omega) h2, fun _ => by have := HX.out; rw [show k + 1 - 1 = k by omega]; omega⟩, hM'⟩
      · have hlti : ¬ (257 : Int) ≤ k := by omega
        have e : k = 256 := by omega
        subst e
        go_wp2
        go_meet
        case rel => exact ⟨257, ⟨by omega, by omega, fun j h1 h2 => HZ.out j (by omega) h2, fun h => by omega⟩, hM⟩
  case rest =>
  obtain ⟨L, hL, hM2⟩ := hcut
  have HL : Hid (Lst 257 286 a L) := hL
  have hL1 := hL.lo
  have hL2 := hL.hi
  clear hL hM0 hM1 hc00 hf00
  have hM3 := hM2.set1 1
  have hc00 := hM2.hH.c1
  have hf00 := hM2.hH.free 1
  go_upto_block 2 with fail
  go_cut [] from 32 to 50 (fun wx => ∃ D : Nat, Lst 1 30 d D ∧ Md hb cb s a d ca cd w wx L D C0 cl0 cc0 (.slice none 0 0) (.slice none 0 0))
  case first =>
    go_wp2_with fail
    go_loopw [5] (fun iv wr => ∃ k : Nat, iv = .int .i64 k ∧ k ≤ 29 ∧ Hid (∀ j, k < j → j < 30 → gt d j = 0) ∧ Md hb cb s a d ca cd w wr L 1 C0 cl0 cc0 (.slice none 0 0) (.slice none 0 0)) (fun iv _ => (intOf iv).toNat)
    case atStart => exact ⟨29, rfl, by omega, fun j h1 h2 => by omega, hM3⟩
    case round =>
      clear hM2 hM3 hc00 hf00
      obtain ⟨k, rfl, hk2, HZ, hM⟩ := hrel
      obtain ⟨wo, hwo⟩ : ∃ wo : World, wo = wr := ⟨_, rfl⟩
      rw [← hwo] at hM ⊢
      clear hwo
      by_cases hlt : 0 < k
      · have hlti : (0 : Int) < k := by omega
        have hki : (k : Int) < 30 := by omega
        have hbd := HD.out k (by omega)
        have hcl := hM.hC.segD.cell 286 k (by rw [List.length_map]; exact hM.hC.la.symm) (by rw [hM.hC.ld]; omega)
        obtain ⟨x, hx⟩ : ∃ x : Nat, gt d k = x := ⟨(gt d k).toNat, by omega⟩
        rw [hx] at hcl
        have HX : Hid (gt d k = x) := hx
        clear hx hbd
        by_cases h0 : x = 0
        · subst h0
          go_wp2
          go_roundw
          case rel => exact ⟨k - 1, by go_num, by omega, fun j h1 h2 => by
            by_cases e : j = k
            · subst e; exact HX.out
            · exact HZ.out j (by omega) h2, hM⟩
          case measure => simp [intOf]; omega
        · have h0i : ¬ (x : Int) = 0 := by omega
          have hf0 := hM.hH.free 1
          have hc0 := hM.hH.c1
          have hM' := hM.set1 ((k + 1 : Nat) : Int)
          go_wp2
          go_meet
          case rel => exact ⟨k + 1, ⟨by omega, by omega, fun j h1 h2 => HZ.out j (by omega) h2, fun _ => by have := HX.out; rw [show k + 1 - 1 = k by omega]; omega⟩, hM'⟩
      · have e : k = 0 := by omega
        subst e
        go_wp2
        go_meet
        case rel => exact ⟨1, ⟨by omega, by omega, fun j h1 h2 => HZ.out j (by omega) h2, fun h => by omega⟩, hM⟩
  case rest =>
  obtain ⟨D, hD', hM4⟩ := hcut
  have HDl : Hid (Lst 1 30 d D) := hD'
  have hD1 := hD'.lo
  have hD2 := hD'.hi
  clear hD' hM2 hM3 hc00 hf00
  have hc0 := hM4.hH.c0
  have hc1 := hM4.hH.c1
  have hc42 := hM4.hH.c42
  have hLi : (L : Int) ≤ 286 := by omega
  have hDi : (D : Int) ≤ 30 := by omega
  have HXl : Hid ((e8 (a.take L)).length = L * 1) := by show _ = _; simp [hM4.hC.la]; omega
  have HYl : Hid ((e8 (d.take D)).length = D * 1) := by show _ = _; simp [hM4.hC.ld]; omega
  have HX1 : Hid (∀ u ∈ e8 (a.take L), u.oneCell' = true) := by intro u hu; obtain ⟨x, _, rfl⟩ := List.mem_map.1 hu; rfl
  have HY1 : Hid (∀ u ∈ e8 (d.take D), u.oneCell' = true) := by intro u hu; obtain ⟨x, _, rfl⟩ := List.mem_map.1 hu; rfl
  have HXc : Hid (∀ W, Cb W cb a d ca cd → ∀ (j : Nat) (u : Value), (e8 (a.take L))[j]? = some u → W.cell? ((⟨cb, 0, none⟩ : Addr).add j) = some u) := by
    intro W hW j u hj
    rw [List.getElem?_map, List.getElem?_take] at hj
    split at hj
    · have hj2 : j < a.length := by rw [hW.la]; omega
      rw [gt_get a j hj2] at hj
      have h := Seg.cell0 hW.segA j hj2
      rw [← Option.some.inj hj]
      rw [show (⟨cb, 0, none⟩ : Addr).add j = ⟨cb, j, none⟩ by simp [Addr.add]; omega]; exact h
    · simp at hj
  have HYc : Hid (∀ W, Cb W cb a d ca cd → ∀ (j : Nat) (u : Value), (e8 (d.take D))[j]? = some u → W.cell? ((⟨cb, 286, none⟩ : Addr).add j) = some u) := by
    intro W hW j u hj
    rw [List.getElem?_map, List.getElem?_take] at hj
    split at hj
    · have hj2 : j < d.length := by rw [hW.ld]; omega
      rw [gt_get d j hj2] at hj
      have h := hW.segD.cell 286 j (by rw [List.length_map]; exact hW.la.symm) hj2
      rw [← Option.some.inj hj, show (⟨cb, 286, none⟩ : Addr).add j = ⟨cb, 286 + j, none⟩ by simp [Addr.add]]
      exact h
    · simp at hj
  go_upto_region 12 with fail
  go_cut [6] from 51 to 73 (fun v wx => wx.ownsRow s 5 1 v (L + D) (e8 (a.take L ++ d.take D)) ∧ Md hb cb s a d ca cd w wx L D C0 cl0 cc0 (.slice none 0 0) (.slice none 0 0))
  case first =>
    go_region_law (first
      | (refine step_append_own rfl (.tmp 55) (.tmp 63) 35 rfl s 5 i5 (.int .u8 0) 1 1 Ybad.underlying35 hi5 hz50 hz51 hz52 rfl (by decide) (.slice none 0 0) 0 [] (by simp [Act.eval, Act.put]) (World.ownsRow_nil _ _ _ _) ⟨cb, 0, none⟩ L 286 (e8 (a.take L)) (by simp [Act.eval, Act.put]) HXl.out (HXc.out _ (hM4.drewN 1).hC) HX1.out (by unfold maxLen; omega) (by omega) (hM4.drewN 1).size ?_
         intro v5 w5 ho5 hg5
         have hM5 := (hM4.drewN 1).kept hg5 (fun k hk => by cases hk)
         have hd0 := hM5.hH.c0
         have hd1 := hM5.hH.c1
         have hd42 := hM5.hH.c42)
      | (refine step_append_own rfl (.tmp 64) (.tmp 72) 35 rfl s 5 i5 (.int .u8 0) 1 1 Ybad.underlying35 hi5 hz50 hz51 hz52 rfl (by decide) _ _ _ (by simp [Act.eval, Act.put]) ho5 ⟨cb, 286, none⟩ D 30 (e8 (d.take D)) (by simp [Act.eval, Act.put]) HYl.out (HYc.out _ hM5.hC) HY1.out (by unfold maxLen; omega) (by omega) hM5.size ?_
         intro v6 w6 ho6 hg6
         have hM6 := hM5.kept hg6 (fun k hk => (ho5.lt k hk).1)
         have ho7 : w6.ownsRow s 5 1 v6 (L + D) (e8 (a.take L ++ d.take D)) := by have := ho6; rwa [Nat.zero_add, List.nil_append, ← List.map_append] at this))
    all_goals
      go_wp2_with fail
      go_meet
      case rel => exact ⟨ho7, hM6⟩
  case rest =>
  obtain ⟨ho, hM5⟩ := hcut
  obtain ⟨N, hN⟩ : ∃ N, N = L + D := ⟨_, rfl⟩
  rw [← hN] at ho
  have hN1 : 258 ≤ N := by omega
  have hN2 : N ≤ 316 := by omega
  have HN : Hid (N = L + D) := hN
  clear hM4 hc0 hc1 hc42 HXl HYl HX1 HY1 HXc HYc hLi hDi
  rcases ho.2 with ⟨_, h0⟩ | ⟨g, cap, cur, rfl, hg1, hg2, hg3, hg4⟩
  · omega
  have hgl : g < wc.heap.size := (Array.getElem?_eq_some_iff.1 hg2).1
  clear hg2 hg4 cur
  obtain ⟨X, hX⟩ : ∃ X, X = a.take L ++ d.take D := ⟨_, rfl⟩
  have HX : Hid (X = a.take L ++ d.take D) := hX
  rw [← hX] at ho
  have hXl : X.length = N := by rw [hX, List.length_append, List.length_take, List.length_take, hM5.hC.la, hM5.hC.ld]; omega
  have HXb : Hid (∀ j, j < N → 0 ≤ gt X j ∧ gt X j ≤ 15) := by
    intro j hj
    have hm := Hu.gt_mem X j (by omega)
    rw [hX] at hm
    rcases List.mem_append.1 hm with h | h
    · obtain ⟨k, hk, he⟩ := List.mem_iff_getElem.1 (List.mem_of_mem_take h)
      have := HA.out k (by rw [← hM5.hC.la]; exact hk)
      have e : gt a k = gt X j := by
        have := gt_get a k hk
        rw [List.getElem?_eq_getElem hk, he] at this
        rw [hX]; exact (Option.some.inj this).symm
      omega
    · obtain ⟨k, hk, he⟩ := List.mem_iff_getElem.1 (List.mem_of_mem_take h)
      have := HD.out k (by rw [← hM5.hC.ld]; exact hk)
      have e : gt d k = gt X j := by
        have := gt_get d k hk
        rw [List.getElem?_eq_getElem hk, he] at this
        rw [hX]; exact (Option.some.inj this).symm
      omega
  clear hX
  have hXs : ∃ spare, Seg wc g 5 .u8 [] X spare := by
    rcases ho.2 with ⟨h', _⟩ | ⟨g', cap', cur, h', h2, h3, h4, h5, h6, h7⟩
    · simp at h'
    · simp only [Value.slice.injEq, Option.some.injEq, Addr.mk.injEq, and_true, true_and] at h'
      obtain ⟨rfl, rfl⟩ := h'
      refine ⟨cur.toList.drop (N * 1), ⟨?_⟩⟩
      rw [h3]
      congr 2
      have : [] ++ (X.map (Value.int .u8) ++ cur.toList.drop (N * 1)) = cur.toList := by
        rw [List.nil_append, show X.map (Value.int .u8) = e8 X from rfl, ← h7, List.take_append_drop]
      rw [this]
  obtain ⟨spare, hXs⟩ := hXs
  clear ho
  have hM6 := (hM5.set42 (.slice (some ⟨g, 0, none⟩) N cap)).set41 (.slice none 0 0)
  have hX6 := (hXs.other ⟨hb, 42, none⟩ (.slice (some ⟨g, 0, none⟩) N cap) (by have := hM5.ord; show g ≠ hb; omega)).other ⟨hb, 41, none⟩ (.slice none 0 0) (by have := hM5.ord; show g ≠ hb; omega)
  have hc42 := hM5.hH.c42
  have hf42 := hM5.hH.free 42
  have hc41 := (hM5.set42 (.slice (some ⟨g, 0, none⟩) N cap)).hH.c41
  have hf41 := (hM5.set42 (.slice (some ⟨g, 0, none⟩) N cap)).hH.free 41
  obtain ⟨s2, hs2⟩ : ∃ s2, s2 = wc.heap.size := ⟨_, rfl⟩
  rw [← hs2] at hgl
  have HS2 : Hid (s2 = wc.heap.size) := hs2
  clear hN hs2
  have hMr : Mr hb cb s a d ca cd w _ L D C0 cl0 cc0 (.slice none 0 0) (.slice (some ⟨g, 0, none⟩) N cap) g X spare s2 [] := ⟨hM6, hX6, World.ownsRow_nil _ _ _ _, hg1, hgl, by rw [HS2.out]; simp [World.setCell]⟩
  clear hM5 hM6 hX6 hXs
  go_upto_block 4 with fail
  go_cut [] from 74 to 200 (fun wx => ∃ (R : List (Int × Int)) (rv : Value), Rn R X ∧ Mr hb cb s a d ca cd w wx L D C0 cl0 cc0 rv (.slice (some ⟨g, 0, none⟩) N cap) g X spare s2 R)
  case first =>
    go_wp2_with fail
    go_loopw [7] (fun iv wr => ∃ (i : Nat) (R : List (Int × Int)) (rv : Value), iv = .int .i64 i ∧ i ≤ N ∧ Hid (Rn R (X.take i)) ∧ Mr hb cb s a d ca cd w wr L D C0 cl0 cc0 rv (.slice (some ⟨g, 0, none⟩) N cap) g X spare s2 R) (fun iv _ => N - (intOf iv).toNat)
    case atStart => exact ⟨0, [], _, rfl, by omega, by show Rn [] (X.take 0); rw [List.take_zero]; exact Rn.nil, hMr⟩
    case round =>
      clear hMr hc42 hf42 hc41 hf41
      obtain ⟨i, R, rv, rfl, hi, HRn, hM⟩ := hrel
      obtain ⟨wo, hwo⟩ : ∃ wo : World, wo = wr := ⟨_, rfl⟩
      rw [← hwo] at hM ⊢
      clear hwo
      by_cases hlt : i < N
      · have hlti : (i : Int) < N := by omega
        have hbd := HXb.out i hlt
        have hcx := Seg.cell0 hM.x i (by omega)
        obtain ⟨x, hx⟩ : ∃ x : Nat, gt X i = x := ⟨(gt X i).toNat, by omega⟩
        rw [hx] at hcx
        have HX0 : Hid (gt X i = x) := hx
        have hx15 : x ≤ 15 := by omega
        clear hbd hx
        go_upto_block 6 with fail
        go_cut [9] from 86 to 200 (fun nv wx => ∃ m : Nat, nv = .int .i64 m ∧ 1 ≤ m ∧ i + m ≤ N ∧ Hid (∀ t, t < m → gt X (i + t) = x) ∧ wo = wx)
        case first =>
          go_wp2_with fail
          go_loopw [9] (fun nv wr => ∃ m : Nat, nv = .int .i64 m ∧ 1 ≤ m ∧ i + m ≤ N ∧ Hid (∀ t, t < m → gt X (i + t) = x) ∧ wo = wr) (fun nv _ => N - (intOf nv).toNat)
          case atStart => exact ⟨1, rfl, by omega, by omega, fun t ht => by rw [show t = 0 by omega]; exact HX0.out, rfl⟩
          case round =>
            obtain ⟨m, rfl, hm1, hm2, HT, rfl⟩ := hrel
            by_cases hb1 : i + m < N
            · have hb1i : (i : Int) + m < N := by omega
              have hbd := HXb.out (i + m) hb1
              have hcy := Seg.cell0 hM.x (i + m) (by omega)
              obtain ⟨y, hy⟩ : ∃ y : Nat, gt X (i + m) = y := ⟨(gt X (i + m)).toNat, by omega⟩
              rw [hy] at hcy
              have HY0 : Hid (gt X (i + m) = y) := hy
              obtain ⟨k, hk⟩ : ∃ k : Nat, (i : Int) + m = k := ⟨i + m, by omega⟩
              have hk2 : i + m = k := by omega
              rw [hk2] at hcy
              have hki : (k : Int) < N := by omega
              clear hbd hy hk2
              by_cases hxy : y = x
              · subst hxy
                go_wp2
                go_roundw
                case rel => exact ⟨m + 1, by go_num, by omega, by omega, fun t ht => by
                  by_cases e : t = m
                  · subst e; exact HY0.out
                  · exact HT.out t (by omega), by first | trivial | rfl⟩
                case measure => simp [intOf]; omega
              · have hxyi : ¬ (y : Int) = x := by omega
                go_wp2
                go_meet
                case rel => exact ⟨m, rfl, hm1, hm2, HT, by first | trivial | rfl⟩
            · have hb1i : ¬ (i : Int) + m < N := by omega
              go_wp2
              go_meet
              case rel => exact ⟨m, rfl, hm1, hm2, HT, by first | trivial | rfl⟩
        case rest =>
        obtain ⟨m, rfl, hm1, hm2, HT, rfl⟩ := hcut
        have HXt : Hid (X.take (i + m) = X.take i ++ List.replicate m (x : Int)) := take_run X x i m (by omega) HT.out
        have HYl : Hid ((X.take i).length = i) := by show _ = _; rw [List.length_take]; omega
        clear hcx HT
        go_upto_block 8 with fail
        go_cut [9] from 86 to 200 (fun nv wx => ∃ (n : Nat) (R : List (Int × Int)) (rv : Value), nv = .int .i64 n ∧ n ≤ m ∧ Hid (Rn R (X.take i ++ List.replicate (m - n) (x : Int))) ∧ Mr hb cb s a d ca cd w wx L D C0 cl0 cc0 rv (.slice (some ⟨g, 0, none⟩) N cap) g X spare s2 R)
        case first =>
          by_cases hx0 : x = 0
          · subst hx0
            go_wp2_with fail
            go_loopw [9] (fun nv wr => ∃ (n : Nat) (R : List (Int × Int)) (rv : Value), nv = .int .i64 n ∧ n ≤ m ∧ Hid (Rn R (X.take i ++ List.replicate (m - n) ((0 : Nat) : Int))) ∧ Mr hb cb s a d ca cd w wr L D C0 cl0 cc0 rv (.slice (some ⟨g, 0, none⟩) N cap) g X spare s2 R) (fun nv _ => (intOf nv).toNat)
            case atStart => exact ⟨m, R, rv, rfl, by omega, by show Rn _ _; rw [Nat.sub_self, List.replicate_zero, List.append_nil]; exact HRn.out, hM⟩
            case round =>
              clear hM HRn
              obtain ⟨n, R, rv, rfl, hn, HRn, hM⟩ := hrel
              obtain ⟨wp, hwp⟩ : ∃ wp : World, wp = wr := ⟨_, rfl⟩
              rw [← hwp] at hM ⊢
              clear hwp
              have hRl : R.length ≤ 316 := by have := HRn.out.len; rw [List.length_append, List.length_replicate, HYl.out] at this; omega
              by_cases h11 : 11 ≤ n
              · have h11i : (11 : Int) ≤ n := by omega
                by_cases h138 : n ≤ 138
                · have h138i : (n : Int) ≤ 138 := by omega
                  obtain ⟨e, he⟩ : ∃ e : Nat, (n : Int) - 11 = e := ⟨n - 11, by omega⟩
                  have HR2 : Hid (Rn (R ++ [(18, (e : Int))]) (X.take i ++ List.replicate (m - 0) ((0 : Nat) : Int))) := by
                    have h := HRn.out.z18 e (by omega)
                    have h2 := rep_split (m - n) (11 + e) (0 : Int) (X.take i)
                    rw [show m - n + (11 + e) = m - 0 by omega] at h2
                    show Rn _ (X.take i ++ List.replicate (m - 0) (0 : Int))
                    rw [← h2]; exact h
                  have hc41 := hM.m.hH.c41
                  go_wp2_with (at_builtin; refine wpList_append_own _ rfl _ _ 34 rfl s2 53 i53 (.agg #[.int .u8 0, .int .u8 0]) 2 2 Ybad.underlying34 hi53 hz530 hz531 hz532 rfl (by decide) _ _ _ rfl (hM.r.alloc _) ⟨wp.heap.size, 0, none⟩ 1 1 [Value.int .u8 18, Value.int .u8 (e : Int)] rfl rfl ?k21 ?k22 ?k23 ?k24 ?k25 ?_)
                  try (case k21 =>
                    intro j u' hj
                    match j, hj with
                    | 0, hj => simp at hj; subst hj; simp [Addr.add]
                    | 1, hj => simp at hj; subst hj; simp [Addr.add])
                  try (case k22 => first | exact ⟨rfl, rfl⟩ | (intro u' hu'; simp at hu'; rcases hu' with rfl | rfl <;> rfl))
                  case k23 => unfold maxLen; omega
                  case k24 => omega
                  case k25 => first | exact Nat.le_trans hM.o.2.2 (World.grownBy_alloc _ _ none).size | (have := hM.o; omega)
                  intro v1 w5 ho5 hg5 _
                  obtain ⟨g1, cp1, rfl⟩ : ∃ g1 cp1, v1 = .slice (some ⟨g1, 0, none⟩) (R.length + 1) cp1 := by
                    rcases ho5.2 with ⟨_, h⟩ | ⟨g1, c1, _, h, _⟩
                    · omega
                    · exact ⟨g1, c1, h⟩
                  obtain ⟨hc5, hf5, hM'⟩ := hM.app _ _ _ _ w5 ho5 hg5
                  clear ho5 hg5 hc41
                  go_wp2
                  go_roundw
                  case rel =>
                    (repeat apply Exists.intro)
                    refine ⟨?_, rfl⟩
                    exact ⟨0, _, _, by go_num, by omega, HR2, hM'⟩
                  case measure => simp [intOf] <;> omega
                · have h138i : ¬ (n : Int) ≤ 138 := by omega
                  have HR2 : Hid (Rn (R ++ [(18, (127 : Int))]) (X.take i ++ List.replicate (m - (n - 138)) ((0 : Nat) : Int))) := by
                    have h := HRn.out.z18 127 (by omega)
                    have h2 := rep_split (m - n) (11 + 127) (0 : Int) (X.take i)
                    rw [show m - n + (11 + 127) = m - (n - 138) by omega] at h2
                    show Rn _ (X.take i ++ List.replicate (m - (n - 138)) (0 : Int))
                    rw [← h2]; exact h
                  have hc41 := hM.m.hH.c41
                  go_wp2_with (at_builtin; refine wpList_append_own _ rfl _ _ 34 rfl s2 53 i53 (.agg #[.int .u8 0, .int .u8 0]) 2 2 Ybad.underlying34 hi53 hz530 hz531 hz532 rfl (by decide) _ _ _ rfl (hM.r.alloc _) ⟨wp.heap.size, 0, none⟩ 1 1 [Value.int .u8 18, Value.int .u8 127] rfl rfl ?k31 ?k32 ?k33 ?k34 ?k35 ?_)
                  try (case k31 =>
                    intro j u' hj
                    match j, hj with
                    | 0, hj => simp at hj; subst hj; simp [Addr.add]
                    | 1, hj => simp at hj; subst hj; simp [Addr.add])
                  try (case k32 => first | exact ⟨rfl, rfl⟩ | (intro u' hu'; simp at hu'; rcases hu' with rfl | rfl <;> rfl))
                  case k33 => unfold maxLen; omega
                  case k34 => omega
                  case k35 => first | exact Nat.le_trans hM.o.2.2 (World.grownBy_alloc _ _ none).size | (have := hM.o; omega)
                  intro v1 w5 ho5 hg5 _
                  obtain ⟨g1, cp1, rfl⟩ : ∃ g1 cp1, v1 = .slice (some ⟨g1, 0, none⟩) (R.length + 1) cp1 := by
                    rcases ho5.2 with ⟨_, h⟩ | ⟨g1, c1, _, h, _⟩
                    · omega
                    · exact ⟨g1, c1, h⟩
                  obtain ⟨hc5, hf5, hM'⟩ := hM.app _ _ _ _ w5 ho5 hg5
                  clear ho5 hg5 hc41
                  go_wp2
                  go_roundw
                  case rel =>
                    (repeat apply Exists.intro)
                    refine ⟨?_, rfl⟩
                    exact ⟨n - 138, _, _, by go_num, by omega, HR2, hM'⟩
                  case measure => simp [intOf] <;> omega
              · have h11i : ¬ (11 : Int) ≤ n := by omega
                by_cases h3 : 3 ≤ n
                · have h3i : (3 : Int) ≤ n := by omega
                  obtain ⟨e, he⟩ : ∃ e : Nat, (n : Int) - 3 = e := ⟨n - 3, by omega⟩
                  have HR2 : Hid (Rn (R ++ [(17, (e : Int))]) (X.take i ++ List.replicate (m - 0) ((0 : Nat) : Int))) := by
                    have h := HRn.out.z17 e (by omega)
                    have h2 := rep_split (m - n) (3 + e) (0 : Int) (X.take i)
                    rw [show m - n + (3 + e) = m - 0 by omega] at h2
                    show Rn _ (X.take i ++ List.replicate (m - 0) (0 : Int))
                    rw [← h2]; exact h
                  have hc41 := hM.m.hH.c41
                  go_wp2_with (at_builtin; refine wpList_append_own _ rfl _ _ 34 rfl s2 53 i53 (.agg #[.int .u8 0, .int .u8 0]) 2 2 Ybad.underlying34 hi53 hz530 hz531 hz532 rfl (by decide) _ _ _ rfl (hM.r.alloc _) ⟨wp.heap.size, 0, none⟩ 1 1 [Value.int .u8 17, Value.int .u8 (e : Int)] rfl rfl ?k41 ?k42 ?k43 ?k44 ?k45 ?_)
                  try (case k41 =>
                    intro j u' hj
                    match j, hj with
                    | 0, hj => simp at hj; subst hj; simp [Addr.add]
                    | 1, hj => simp at hj; subst hj; simp [Addr.add])
                  try (case k42 => first | exact ⟨rfl, rfl⟩ | (intro u' hu'; simp at hu'; rcases hu' with rfl | rfl <;> rfl))
                  case k43 => unfold maxLen; omega
                  case k44 => omega
                  case k45 => first | exact Nat.le_trans hM.o.2.2 (World.grownBy_alloc _ _ none).size | (have := hM.o; omega)
                  intro v1 w5 ho5 hg5 _
                  obtain ⟨g1, cp1, rfl⟩ : ∃ g1 cp1, v1 = .slice (some ⟨g1, 0, none⟩) (R.length + 1) cp1 := by
                    rcases ho5.2 with ⟨_, h⟩ | ⟨g1, c1, _, h, _⟩
                    · omega
                    · exact ⟨g1, c1, h⟩
                  obtain ⟨hc5, hf5, hM'⟩ := hM.app _ _ _ _ w5 ho5 hg5
                  clear ho5 hg5 hc41
                  go_wp2
                  go_meet
                  case rel => exact ⟨0, _, _, rfl, by omega, HR2, hM'⟩
                · have h3i : ¬ (3 : Int) ≤ n := by omega
                  go_wp2
                  go_meet
                  case rel => exact ⟨n, _, _, rfl, by omega, HRn, hM⟩
          · have hx0i : ¬ (x : Int) = 0 := by omega
            have hRl : R.length ≤ 316 := by have := HRn.out.len; rw [HYl.out] at this; omega
            have HR1 : Hid (Rn (R ++ [((x : Int), 0)]) (X.take i ++ List.replicate (m - (m - 1)) (x : Int))) := by
              have h := HRn.out.lit x (by omega) (by omega)
              show Rn _ _
              rw [show m - (m - 1) = 1 by omega]; exact h
            have hc41 := hM.m.hH.c41
            go_wp2_with (at_builtin; refine wpList_append_own _ rfl _ _ 34 rfl s2 53 i53 (.agg #[.int .u8 0, .int .u8 0]) 2 2 Ybad.underlying34 hi53 hz530 hz531 hz532 rfl (by decide) _ _ _ rfl (hM.r.alloc _) ⟨wo.heap.size, 0, none⟩ 1 1 [Value.int .u8 x, Value.int .u8 0] rfl rfl ?k51 ?k52 ?k53 ?k54 ?k55 ?_)
            try (case k51 =>
              intro j u' hj
              match j, hj with
              | 0, hj => simp at hj; subst hj; simp [Addr.add]
              | 1, hj => simp at hj; subst hj; simp [Addr.add])
            try (case k52 => first | exact ⟨rfl, rfl⟩ | (intro u' hu'; simp at hu'; rcases hu' with rfl | rfl <;> rfl))
            case k53 => unfold maxLen; omega
            case k54 => omega
            case k55 => first | exact Nat.le_trans hM.o.2.2 (World.grownBy_alloc _ _ none).size | (have := hM.o; omega)
            intro v1 w5 ho5 hg5 _
            obtain ⟨g1, cp1, rfl⟩ : ∃ g1 cp1, v1 = .slice (some ⟨g1, 0, none⟩) (R.length + 1) cp1 := by
              rcases ho5.2 with ⟨_, h⟩ | ⟨g1, c1, _, h, _⟩
              · omega
              · exact ⟨g1, c1, h⟩
            obtain ⟨hc5, hf5, hM1⟩ := hM.app _ _ _ _ w5 ho5 hg5
            clear ho5 hg5 hc41
            clear hM HRn hRl
            go_wp2_with fail
            go_loopw [9] (fun nv wr => ∃ (n : Nat) (R : List (Int × Int)) (rv : Value), nv = .int .i64 n ∧ n + 1 ≤ m ∧ Hid (Rn R (X.take i ++ List.replicate (m - n) (x : Int))) ∧ Mr hb cb s a d ca cd w wr L D C0 cl0 cc0 rv (.slice (some ⟨g, 0, none⟩) N cap) g X spare s2 R) (fun nv _ => (intOf nv).toNat)
            case atStart => exact ⟨m - 1, _, _, by go_num, by omega, HR1, hM1⟩
            case round =>
              clear hM1 HR1 hc5 hf5
              obtain ⟨n, R, rv, rfl, hn, HRn, hM⟩ := hrel
              obtain ⟨wp, hwp⟩ : ∃ wp : World, wp = wr := ⟨_, rfl⟩
              rw [← hwp] at hM ⊢
              clear hwp
              have hRl : R.length ≤ 316 := by have := HRn.out.len; rw [List.length_append, List.length_replicate, HYl.out] at this; omega
              by_cases h3 : 3 ≤ n
              · have h3i : (3 : Int) ≤ n := by omega
                by_cases h6 : n ≤ 6
                · have h6i : (n : Int) ≤ 6 := by omega
                  obtain ⟨e, he⟩ : ∃ e : Nat, (n : Int) - 3 = e := ⟨n - 3, by omega⟩
                  have HR2 : Hid (Rn (R ++ [(16, (e : Int))]) (X.take i ++ List.replicate (m - 0) (x : Int))) := by
                    obtain ⟨q, hq⟩ : ∃ q, m - n = q + 1 := ⟨m - n - 1, by omega⟩
                    have h := HRn.out
                    rw [hq] at h
                    have hl := last_rep (X.take i) q (x : Int)
                    have h3' := h.rep x e hl.1 hl.2 (by omega)
                    rw [rep_split, show q + 1 + (3 + e) = m - 0 by omega] at h3'
                    exact h3'
                  have hc41 := hM.m.hH.c41
                  go_wp2_with (at_builtin; refine wpList_append_own _ rfl _ _ 34 rfl s2 53 i53 (.agg #[.int .u8 0, .int .u8 0]) 2 2 Ybad.underlying34 hi53 hz530 hz531 hz532 rfl (by decide) _ _ _ rfl (hM.r.alloc _) ⟨wp.heap.size, 0, none⟩ 1 1 [Value.int .u8 16, Value.int .u8 (e : Int)] rfl rfl ?k61 ?k62 ?k63 ?k64 ?k65 ?_)
                  try (case k61 =>
                    intro j u' hj
                    match j, hj with
                    | 0, hj => simp at hj; subst hj; simp [Addr.add]
                    | 1, hj => simp at hj; subst hj; simp [Addr.add])
                  try (case k62 => first | exact ⟨rfl, rfl⟩ | (intro u' hu'; simp at hu'; rcases hu' with rfl | rfl <;> rfl))
                  case k63 => unfold maxLen; omega
                  case k64 => omega
                  case k65 => first | exact Nat.le_trans hM.o.2.2 (World.grownBy_alloc _ _ none).size | (have := hM.o; omega)
                  intro v1 w5 ho5 hg5 _
                  obtain ⟨g1, cp1, rfl⟩ : ∃ g1 cp1, v1 = .slice (some ⟨g1, 0, none⟩) (R.length + 1) cp1 := by
                    rcases ho5.2 with ⟨_, h⟩ | ⟨g1, c1, _, h, _⟩
                    · omega
                    · exact ⟨g1, c1, h⟩
                  obtain ⟨hc5, hf5, hM'⟩ := hM.app _ _ _ _ w5 ho5 hg5
                  clear ho5 hg5 hc41
                  go_wp2
                  go_roundw
                  case rel => first | exact ⟨0, _, _, by go_num, by omega, HR2, hM'⟩ | ((repeat apply Exists.intro); refine ⟨?_, rfl⟩; exact ⟨0, _, _, by go_num, by omega, HR2, hM'⟩)
                  case measure => simp [intOf] <;> omega
                · have h6i : ¬ (n : Int) ≤ 6 := by omega
                  have HR2 : Hid (Rn (R ++ [(16, (3 : Int))]) (X.take i ++ List.replicate (m - (n - 6)) (x : Int))) := by
                    obtain ⟨q, hq⟩ : ∃ q, m - n = q + 1 := ⟨m - n - 1, by omega⟩
                    have h := HRn.out
                    rw [hq] at h
                    have hl := last_rep (X.take i) q (x : Int)
                    have h3' := h.rep x 3 hl.1 hl.2 (by omega)
                    rw [rep_split, show q + 1 + (3 + 3) = m - (n - 6) by omega] at h3'
                    exact h3'
                  have hc41 := hM.m.hH.c41
                  go_wp2_with (at_builtin; refine wpList_append_own _ rfl _ _ 34 rfl s2 53 i53 (.agg #[.int .u8 0, .int .u8 0]) 2 2 Ybad.underlying34 hi53 hz530 hz531 hz532 rfl (by decide) _ _ _ rfl (hM.r.alloc _) ⟨wp.heap.size, 0, none⟩ 1 1 [Value.int .u8 16, Value.int .u8 3] rfl rfl ?k71 ?k72 ?k73 ?k74 ?k75 ?_)
                  try (case k71 =>
                    intro j u' hj
                    match j, hj with
                    | 0, hj => simp at hj; subst hj; simp [Addr.add]
                    | 1, hj => simp at hj; subst hj; simp [Addr.add])
                  try (case k72 => first | exact ⟨rfl, rfl⟩ | (intro u' hu'; simp at hu'; rcases hu' with rfl | rfl <;> rfl))
                  case k73 => unfold maxLen; omega
                  case k74 => omega
                  case k75 => first | exact Nat.le_trans hM.o.2.2 (World.grownBy_alloc _ _ none).size | (have := hM.o; omega)
                  intro v1 w5 ho5 hg5 _
                  obtain ⟨g1, cp1, rfl⟩ : ∃ g1 cp1, v1 = .slice (some ⟨g1, 0, none⟩) (R.length + 1) cp1 := by
                    rcases ho5.2 with ⟨_, h⟩ | ⟨g1, c1, _, h, _⟩
                    · omega
                    · exact ⟨g1, c1, h⟩
                  obtain ⟨hc5, hf5, hM'⟩ := hM.app _ _ _ _ w5 ho5 hg5
                  clear ho5 hg5 hc41
                  go_wp2
                  go_roundw
                  case rel => first | exact ⟨n - 6, _, _, by go_num, by omega, HR2, hM'⟩ | ((repeat apply Exists.intro); refine ⟨?_, rfl⟩; exact ⟨n - 6, _, _, by go_num, by omega, HR2, hM'⟩)
                  case measure => simp [intOf] <;> omega
              · have h3i : ¬ (3 : Int) ≤ n := by omega
                go_wp2
                go_meet
                case rel => exact ⟨n, _, _, rfl, by omega, HRn, hM⟩
        case rest =>
        clear hM HRn
        obtain ⟨n, R, rv, rfl, hn, HRn, hM⟩ := hcut
        go_wp2_with fail
        go_loopw [187] (fun kv wr => ∃ (k : Nat) (R : List (Int × Int)) (rv : Value), kv = .int .i64 k ∧ k ≤ n ∧ Hid (Rn R (X.take i ++ List.replicate (m - n + k) (x : Int))) ∧ Mr hb cb s a d ca cd w wr L D C0 cl0 cc0 rv (.slice (some ⟨g, 0, none⟩) N cap) g X spare s2 R) (fun kv _ => n - (intOf kv).toNat)
        case atStart => exact ⟨0, R, rv, rfl, by omega, HRn, hM⟩
        case round =>
          clear hM HRn
          obtain ⟨k, R, rv, rfl, hk, HRn, hM⟩ := hrel
          obtain ⟨wp, hwp⟩ : ∃ wp : World, wp = wr := ⟨_, rfl⟩
          rw [← hwp] at hM ⊢
          clear hwp
          by_cases hkn : k < n
          · have hkni : (k : Int) < n := by omega
            have hRl : R.length ≤ 316 := by have := HRn.out.len; rw [List.length_append, List.length_replicate, HYl.out] at this; omega
            have HR2 : Hid (Rn (R ++ [((x : Int), 0)]) (X.take i ++ List.replicate (m - n + (k + 1)) (x : Int))) := by
              have h := HRn.out.lit x (by omega) (by omega)
              rw [rep_one] at h; exact h
            have hc41 := hM.m.hH.c41
            go_wp2_with (at_builtin; refine wpList_append_own _ rfl _ _ 34 rfl s2 53 i53 (.agg #[.int .u8 0, .int .u8 0]) 2 2 Ybad.underlying34 hi53 hz530 hz531 hz532 rfl (by decide) _ _ _ rfl (hM.r.alloc _) ⟨wp.heap.size, 0, none⟩ 1 1 [Value.int .u8 x, Value.int .u8 0] rfl rfl ?k11 ?k12 ?k13 ?k14 ?k15 ?_)
            try (case k11 =>
              intro j u' hj
              match j, hj with
              | 0, hj => simp at hj; subst hj; simp [Addr.add]
              | 1, hj => simp at hj; subst hj; simp [Addr.add])
            try (case k12 => first | exact ⟨rfl, rfl⟩ | (intro u' hu'; simp at hu'; rcases hu' with rfl | rfl <;> rfl))
            case k13 => unfold maxLen; omega
            case k14 => omega
            case k15 => first | exact Nat.le_trans hM.o.2.2 (World.grownBy_alloc _ _ none).size | (have := hM.o; omega)
            intro v1 w5 ho5 hg5 _
            obtain ⟨g1, cp1, rfl⟩ : ∃ g1 cp1, v1 = .slice (some ⟨g1, 0, none⟩) (R.length + 1) cp1 := by
              rcases ho5.2 with ⟨_, h⟩ | ⟨g1, c1, _, h, _⟩
              · omega
              · exact ⟨g1, c1, h⟩
            obtain ⟨hc5, hf5, hM'⟩ := hM.app _ _ _ _ w5 ho5 hg5
            clear ho5 hg5 hc41
            go_wp2
            go_roundw
            case rel => exact ⟨k + 1, _, _, by go_num, by omega, HR2, hM'⟩
            case measure => simp [intOf]; omega
          · have hkni : ¬ (k : Int) < n := by omega
            have HR2 : Hid (Rn R (X.take (i + m))) := by
              have h := HRn.out
              rw [show m - n + k = m by omega, ← HXt.out] at h; exact h
            go_wp2
            go_roundw
            case rel => exact ⟨i + m, R, rv, by go_num, by omega, HR2, hM⟩
            case measure => simp [intOf]; omega
      · have hlti : ¬ (i : Int) < N := by omega
        have e : i = N := by omega
        subst e
        go_wp2
        go_meet
        case rel => exact ⟨R, rv, by have := HRn.out; rwa [List.take_of_length_le (by omega)] at this, hM⟩
  case rest =>
  obtain ⟨R, rv, hRn, hM7⟩ := hcut
  have HRn : Hid (Rn R X) := hRn
  have hRl : R.length ≤ 316 := by have := hRn.len; omega
  have hRp : 0 < R.length := by
    cases R with
    | nil => have := hRn.eq; rw [show ex [] = [] from rfl] at this; rw [← this] at hXl; simp at hXl; omega
    | cons r R => simp
  clear hRn hMr hc42 hf42 hc41 hf41
  obtain ⟨gr, cr, hrv, hgr⟩ : ∃ gr cr, rv = .slice (some ⟨gr, 0, none⟩) R.length cr ∧ gr < wc.heap.size := by
    rcases hM7.r.2 with ⟨_, h⟩ | ⟨g1, c1, cur, h, _, h3, _⟩
    · omega
    · exact ⟨g1, c1, h, (Array.getElem?_eq_some_iff.1 h3).1⟩
  have hc41 : ∀ o, (wc.alloc o).cell? ⟨hb, 41, none⟩ = some rv := fun o => (hM7.m.alloc o).hH.c41
  rw [hrv] at hc41
  obtain ⟨bf, hbf⟩ : ∃ bf, bf = wc.heap.size := ⟨_, rfl⟩
  have hM8 := hM7.alloc (.cells #[.int .u32 0, .int .u32 0, .int .u32 0, .int .u32 0, .int .u32 0, .int .u32 0, .int .u32 0, .int .u32 0, .int .u32 0, .int .u32 0, .int .u32 0, .int .u32 0, .int .u32 0, .int .u32 0, .int .u32 0, .int .u32 0, .int .u32 0, .int .u32 0, .int .u32 0] 51)
  have hF8 : Seg _ wc.heap.size 51 .u32 [] (fq (R.take 0)) [] := ⟨heap_alloc_new wc (.cells #[.int .u32 0, .int .u32 0, .int .u32 0, .int .u32 0, .int .u32 0, .int .u32 0, .int .u32 0, .int .u32 0, .int .u32 0, .int .u32 0, .int .u32 0, .int .u32 0, .int .u32 0, .int .u32 0, .int .u32 0, .int .u32 0, .int .u32 0, .int .u32 0, .int .u32 0] 51)⟩
  have hbfs := hM7.o.2.2
  clear hM7
  go_upto_block 15 with fail
  go_cut [] from 201 to 216 (fun wx => Seg wx wc.heap.size 51 .u32 [] (fq R) [] ∧ Mr hb cb s a d ca cd w wx L D C0 cl0 cc0 rv (.slice (some ⟨g, 0, none⟩) N cap) g X spare s2 R)
  case first =>
    go_wp2_with fail
    go_loopw [206] (fun kv wr => ∃ k : Nat, kv = .int .i64 k ∧ k ≤ R.length ∧ wc.heap.size < wr.heap.size ∧ Seg wr wc.heap.size 51 .u32 [] (fq (R.take k)) [] ∧ Mr hb cb s a d ca cd w wr L D C0 cl0 cc0 rv (.slice (some ⟨g, 0, none⟩) N cap) g X spare s2 R) (fun kv _ => R.length - (intOf kv).toNat)
    case atStart => exact ⟨0, rfl, by omega, hF8.lt, hF8, hM8⟩
    case round =>
      clear hM8 hF8 hc41
      obtain ⟨k, rfl, hk, hsz, hF, hM⟩ := hrel
      obtain ⟨wo, hwo⟩ : ∃ wo : World, wo = wr := ⟨_, rfl⟩
      rw [← hwo] at hM hF hsz ⊢
      clear hwo
      by_cases hlt : k < R.length
      · have hlti : (k : Int) < R.length := by omega
        obtain ⟨hp1, hp2⟩ := hM.two hrv k hlt
        have hbd := HRn.out.bd k hlt
        have HSt : Hid (fq (R.take (k + 1)) = (fq (R.take k)).set (R[k]).1.toNat (gt (fq (R.take k)) (R[k]).1.toNat + 1)) := fq_step R k hlt
        obtain ⟨p, hp⟩ : ∃ p : Nat, (R[k]).1 = p := ⟨(R[k]).1.toNat, by omega⟩
        obtain ⟨e, he⟩ : ∃ e : Nat, (R[k]).2 = e := ⟨(R[k]).2.toNat, by omega⟩
        rw [hp, Int.toNat_natCast] at HSt
        rw [hp] at hp1 hbd
        rw [he] at hp2 hbd
        have hp18 : p < 19 := by omega
        have hp18i : (p : Int) < 19 := by omega
        have hfb := fq_bd R k (by omega) p hp18
        obtain ⟨f, hf⟩ : ∃ f : Nat, gt (fq (R.take k)) p = f := ⟨(gt (fq (R.take k)) p).toNat, by omega⟩
        have hcf := Seg.cell0 hF p (by rw [fq_len]; exact hp18)
        rw [hf] at hcf HSt hfb
        have hff := hF.free p
        have hM2 := (hM.other ⟨wc.heap.size, p, none⟩ (.int .u32 (f + 1)) hbfs (fun j hj => by rw [hrv] at hj; have : gr = j := Option.some.inj hj; show j ≠ wc.heap.size; omega)).alloc (.cells #[.int .u8 p, .int .u8 e] 53)
        have hF2 := (Seg.set0 hF p (by rw [fq_len]; exact hp18) ((f : Int) + 1)).alloc (.cells #[.int .u8 p, .int .u8 e] 53)
        have hsz2 := hF2.lt
        rw [← HSt.out] at hF2
        have hf31 : f ≤ 316 := by omega
        clear hf hfb hbd hp he
        go_wp2
        go_roundw
        case rel => exact ⟨k + 1, by go_num, by omega, hsz2, hF2, hM2⟩
        case measure => simp [intOf]; omega
      · have hlti : ¬ (k : Int) < R.length := by omega
        have e : k = R.length := by omega
        subst e
        rw [List.take_length] at hF
        go_wp2
        go_meet
        case rel => exact ⟨hF, hM⟩
  case rest =>
  obtain ⟨hF9, hM9⟩ := hcut
  clear hM8 hF8 hc41
  have HFc : Hid (∀ (n t : Nat), t < 19 → (World.drewN _ n).cell? ⟨_, 0 + t, none⟩ = some (.int .u32 (gt (fq R) t))) := fun n t ht => (hF9.drewN n).cell 0 t rfl (by rw [fq_len]; exact ht)
  have HFb : Hid (∀ t, t < 19 → 0 ≤ gt (fq R) t ∧ gt (fq R) t < 4294967296) := fun t ht => by
    have := fq_bd R R.length (Nat.le_refl _) t ht
    rw [List.take_length] at this; omega
  have hnbf : bf ≠ hb := by have := hM9.m.ord; have := hM9.o; omega
  rw [hbf] at hnbf
  go_upto_region 43 with fail
  go_cut [] from 217 to 222 (fun wx => ∃ cl : List Int, Hf 19 7 (fq R) cl ∧ Md hb cb s a d ca cd w wx L D C0 cl cc0 rv (.slice (some ⟨g, 0, none⟩) N cap) ∧ wx.ownsRow s2 53 2 rv R.length (rc R))
  case first =>
    go_region_with (go_at_call 14; refine (lengths _ 0 19 19 hb 3 19 7 37 (h3 L D C0) (cc0.map (Value.int .u16) ++ [rv, .slice (some ⟨g, 0, none⟩) N cap]) cl0 (fq R) _ (by omega) (by omega) (by omega) (by omega) (by omega) (by omega) (by omega) HFb.out (HFc.out 1) (hM9.m.drewN 1).hH.segL rfl hM9.m.hH.lcl hnbf).mono ?_; rintro e w' ⟨rfl, ⟨l', hS', hH'⟩, hg'⟩)
    all_goals
      go_wp2_with fail
      go_meet
      case rel =>
        have o := hM9.m.ord
        have o2 := hM9.o
        exact ⟨l', hH', ⟨Hb.ofL hS' hH'.len hM9.m.hH.lcc, (hM9.m.drewN 1).hC.kept hg' (Ne.symm o.2.2.1), grown_own (hM9.m.drewN 1).hG hg' (fun k hk => .inr (Option.some.inj hk).symm), o⟩, owns_kept (hM9.drewN 1).r hg' (by omega)⟩
  case rest =>
  obtain ⟨cl, hCl, hM10, hR10⟩ := hcut
  have HCl : Hid (Hf 19 7 (fq R) cl) := hCl
  have hs2 : hb < s2 := by have := hM9.m.ord; have := hM9.o; omega
  have hs3 : s ≤ s2 := by have := hM9.o; omega
  clear hCl hM9 hF9 HFc HFb hnbf
  have HPre : Hid (∀ j, j < 19 → (h3 L D C0 ++ cl.map (Value.int .u8))[3 + j]? = some (.int .u8 (gt cl j))) := fun j hj => by
    rw [List.getElem?_append_right (by simp), show 3 + j - (h3 (L : Int) D C0).length = j by simp]
    exact e8_get cl j (by rw [hM10.hH.lcl]; exact hj)
  go_upto_region 44 with fail
  go_cut [] from 223 to 231 (fun wx => ∃ cc : List Int, Md hb cb s a d ca cd w wx L D C0 cl cc rv (.slice (some ⟨g, 0, none⟩) N cap) ∧ wx.ownsRow s2 53 2 rv R.length (rc R))
  case first =>
    go_region_with (go_at_call 15; refine (codes hb 3 22 19 19 19 37 (h3 L D C0 ++ cl.map (Value.int .u8)) [rv, .slice (some ⟨g, 0, none⟩) N cap] cl cc0 _ (by omega) HPre.out (fun j hj => by have := Hf.bd15 HCl.out j hj; omega) (hM10.drewN 1).hH.segC (by simp [hM10.hH.lcl]) hM10.hH.lcc).mono ?_; rintro e w' ⟨rfl, ⟨c', hS', hH'⟩, hg'⟩)
    all_goals
      go_wp2_with fail
      go_meet
      case rel =>
        have o := hM10.ord
        exact ⟨c', ⟨Hb.ofC hS' hM10.hH.lcl hH'.len, (hM10.drewN 1).hC.kept hg' (Ne.symm o.2.2.1), grown_own (hM10.drewN 1).hG hg' (fun k hk => .inr (Option.some.inj hk).symm), o⟩, owns_kept (show (wc.drewN 1).ownsRow s2 53 2 rv R.length (rc R) from hR10) hg' hs2⟩
  case rest =>
  obtain ⟨cc, hM11, hR11⟩ := hcut
  clear hM10 hR10 HPre
  have hc2 := hM11.hH.c2
  have hf2 := hM11.hH.free 2
  have hM12 := hM11.set2 19
  have hR12 := owns_set hR11 ⟨hb, 2, none⟩ (.int .i64 19) hs2
  go_wp2_with fail
  go_loopw [] (fun wr => ∃ C : Nat, 4 ≤ C ∧ C ≤ 19 ∧ Hid (∀ i, C ≤ i → i < 19 → gt cl (gt ordL i).toNat = 0) ∧ Md hb cb s a d ca cd w wr L D C cl cc rv (.slice (some ⟨g, 0, none⟩) N cap) ∧ wr.ownsRow s2 53 2 rv R.length (rc R)) (fun wr => (intOf ((wr.cell? ⟨hb, 2, none⟩).getD (.int .i64 0))).toNat)
  case atStart => exact ⟨19, by omega, by omega, fun i h1 h2 => by omega, hM12, hR12⟩
  case round =>
    clear hM11 hM12 hR11 hR12 hc2 hf2
    obtain ⟨C, hC1, hC2, HZ, hM, hR⟩ := hrel
    obtain ⟨wo, hwo⟩ : ∃ wo : World, wo = wr := ⟨_, rfl⟩
    rw [← hwo] at hM hR ⊢
    clear hwo
    have hc2 := hM.hH.c2
    by_cases h4 : 4 < C
    · have h4i : (4 : Int) < C := by omega
      obtain ⟨t, rfl⟩ : ∃ t, C = t + 1 := ⟨C - 1, by omega⟩
      have h4d : decide ((4 : Int) < (t : Int) + 1) = true := decide_eq_true (by omega)
      have hc2' : wo.cell? ⟨hb, 2, none⟩ = some (.int .i64 ((t : Int) + 1)) := hM.hH.c2
      clear hc2
      have hob := ordL_bd t (by omega)
      have hco := grown_cell hM.hG (HO.out t (by omega)) hh0
      obtain ⟨p, hp⟩ : ∃ p : Nat, gt ordL t = p := ⟨(gt ordL t).toNat, by omega⟩
      rw [hp] at hco hob
      have hp19 : p < 19 := by omega
      have hp19i : (p : Int) < 19 := by omega
      have hti : (t : Int) < 19 := by omega
      have hcl := hM.hH.ccl p hp19
      have hbd := Hf.bd15 HCl.out p hp19
      obtain ⟨y, hy⟩ : ∃ y : Nat, gt cl p = y := ⟨(gt cl p).toNat, by omega⟩
      rw [hy] at hcl
      have HY : Hid (gt cl (gt ordL t).toNat = y) := by show _ = _; rw [hp, Int.toNat_natCast]; exact hy
      clear hp hy hbd hob
      by_cases hy0 : y = 0
      · subst hy0
        have hM' := fun n => (hM.drewN n).set2 (t : Int)
        have hR' : ∀ n, ((wo.drewN n).setCell ⟨hb, 2, none⟩ (.int .i64 t)).ownsRow s2 53 2 rv R.length (rc R) := fun n => owns_set (show (wo.drewN n).ownsRow s2 53 2 rv R.length (rc R) from hR) ⟨hb, 2, none⟩ (.int .i64 t) hs2
        have hf2 := hM.hH.free 2
        go_wp2_with fail
        go_quiet (fail)
        go_wp2
        go_roundw
        case rel => exact ⟨t, by omega, by omega, fun i h1 h2 => by
          by_cases e : i = t
          · subst e; exact HY.out
          · exact HZ.out i (by omega) h2, hM' _, hR' _⟩
        case measure =>
          rw [(hM' _).hH.c2, hc2']
          simp [intOf]
      · have hy0i : ¬ (y : Int) = 0 := by omega
        go_wp2_with fail
        go_quiet (fail)
        go_wp2
        go_end0
        exact ⟨rfl, ⟨L, D, t + 1, R, cl, cc, rv, _, (hM.drewN _).hH, (hM.drewN _).hC, owns_mono hR (by have := HSz.out; omega), ⟨HL.out, HDl.out, by have := HRn.out; rwa [HX.out] at this, HCl.out, hC1, hC2, HZ.out⟩⟩, (hM.drewN _).hG⟩
    · have h4i : decide ((4 : Int) < C) = false := decide_eq_false (by omega)
      go_wp2_with fail
      go_quiet (fail)
      go_wp2
      go_end0
      exact ⟨rfl, ⟨L, D, C, R, cl, cc, rv, _, (hM.drewN _).hH, (hM.drewN _).hC, owns_mono hR (by have := HSz.out; omega), ⟨HL.out, HDl.out, by have := HRn.out; rwa [HX.out] at this, HCl.out, hC1, hC2, HZ.out⟩⟩, (hM.drewN _).hG⟩
end Go.Proofs.YbulkkrgDoor.De
