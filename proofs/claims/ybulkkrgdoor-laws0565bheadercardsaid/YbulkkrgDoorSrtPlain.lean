/-
  The stable sort of the library (insertion sort on blocks, symMerge with rotate): the plain laws, over lists of integers and a key. No Go in sight.
-/
namespace Go.Proofs.YbulkkrgDoor.Srt

/-- the element at place i -/
def gt (l : List Int) (i : Nat) : Int := l.getD i 0
theorem gt_get (l : List Int) (i : Nat) (h : i < l.length) : l[i]? = some (gt l i) := by simp [gt, h]
theorem gt_eq {l : List Int} {i : Nat} {x : Int} (h : l[i]? = some x) : gt l i = x := by simp [gt, h]
theorem gt_mem (l : List Int) (i : Nat) (h : i < l.length) : gt l i ∈ l := by
  have := gt_get l i h
  exact List.mem_of_getElem? this

theorem ext_gt {l m : List Int} (hl : l.length = m.length) (h : ∀ i, i < l.length → gt l i = gt m i) : l = m := by
  apply List.ext_getElem?
  intro i
  by_cases hi : i < l.length
  · rw [gt_get l i hi, gt_get m i (by omega), h i hi]
  · rw [List.getElem?_eq_none (by omega), List.getElem?_eq_none (by omega)]

theorem gt_set_self (l : List Int) (i : Nat) (x : Int) (h : i < l.length) : gt (l.set i x) i = x := gt_eq (by rw [List.getElem?_set_self h])
theorem gt_set_ne (l : List Int) (i j : Nat) (x : Int) (h : i ≠ j) : gt (l.set i x) j = gt l j := by simp only [gt, List.getD_eq_getElem?_getD]; rw [List.getElem?_set_ne h]

/-- exchange -/
def swp (l : List Int) (i j : Nat) : List Int := (l.set i (gt l j)).set j (gt l i)
theorem swp_length (l : List Int) (i j : Nat) : (swp l i j).length = l.length := by simp [swp]
theorem gt_swp (l : List Int) (i j q : Nat) (hi : i < l.length) (hj : j < l.length) : gt (swp l i j) q = if q = j then gt l i else if q = i then gt l j else gt l q := by
  unfold swp
  by_cases h1 : q = j
  · subst h1; rw [gt_set_self _ _ _ (by simpa using hj), if_pos rfl]
  · rw [gt_set_ne _ _ _ _ (Ne.symm h1), if_neg h1]
    by_cases h2 : q = i
    · subst h2; rw [gt_set_self _ _ _ hi, if_pos rfl]
    · rw [gt_set_ne _ _ _ _ (Ne.symm h2), if_neg h2]

/-- the piece from a up to b -/
def seg (a b : Nat) (l : List Int) : List Int := (l.drop a).take (b - a)
theorem seg_length {a b : Nat} {l : List Int} (h : b ≤ l.length) : (seg a b l).length = b - a := by simp [seg]; omega
theorem seg_get {a b i : Nat} {l : List Int} (h : i < b - a) : (seg a b l)[i]? = l[a + i]? := by simp [seg, h]
theorem gt_seg {a b i : Nat} {l : List Int} (h : i < b - a) : gt (seg a b l) i = gt l (a + i) := by simp only [gt, List.getD_eq_getElem?_getD, seg_get h]
theorem seg_cut {a m b : Nat} {l : List Int} (h1 : a ≤ m) (h2 : m ≤ b) : seg a b l = seg a m l ++ seg m b l := by
  unfold seg
  rw [show b - a = (m - a) + (b - m) by omega, List.take_add, List.drop_drop, show a + (m - a) = m by omega]
theorem cut3 {a b : Nat} {l : List Int} (h : a ≤ b) : l = l.take a ++ (seg a b l ++ l.drop b) := by
  conv => lhs; rw [← List.take_append_drop a l]
  congr 1
  unfold seg
  conv => lhs; rw [← List.take_append_drop (b - a) (l.drop a)]
  rw [List.drop_drop, show a + (b - a) = b by omega]

/-- l' is l with its piece from a up to b put into another order -/
structure Prm (a b : Nat) (l l' : List Int) : Prop where
  len : l'.length = l.length
  out : ∀ q, q < a ∨ b ≤ q → gt l' q = gt l q
  seg : (seg a b l').Perm (seg a b l)

theorem Prm.refl (a b : Nat) (l : List Int) : Prm a b l l := ⟨rfl, fun _ _ => rfl, List.Perm.refl _⟩
theorem Prm.trans {a b : Nat} {l m n : List Int} (h : Prm a b l m) (k : Prm a b m n) : Prm a b l n :=
  ⟨k.len.trans h.len, fun q hq => (k.out q hq).trans (h.out q hq), k.seg.trans h.seg⟩

theorem seg_eq_of {a b : Nat} {l l' : List Int} (hl : l'.length = l.length) (hb : b ≤ l.length) (h : ∀ q, a ≤ q → q < b → gt l' q = gt l q) : Srt.seg a b l' = Srt.seg a b l := by
  apply ext_gt
  · rw [seg_length (by omega), seg_length hb]
  · intro i hi
    rw [seg_length (by omega)] at hi
    rw [gt_seg hi, gt_seg hi]
    exact h (a + i) (by omega) (by omega)

theorem Prm.wide {a b a' b' : Nat} {l l' : List Int} (h : Prm a b l l') (h1 : a' ≤ a) (h2 : a ≤ b) (h3 : b ≤ b') (h4 : b' ≤ l.length) : Prm a' b' l l' := by
  refine ⟨h.len, fun q hq => h.out q (by omega), ?_⟩
  have e1 := seg_eq_of (a := a') (b := a) h.len (by omega) (fun q _ hq => h.out q (Or.inl hq))
  have e2 := seg_eq_of (a := b) (b := b') h.len h4 (fun q hq _ => h.out q (Or.inr hq))
  rw [seg_cut (l := l') h1 (show a ≤ b' by omega), seg_cut (l := l) h1 (show a ≤ b' by omega), seg_cut (l := l') h2 h3, seg_cut (l := l) h2 h3, e1, e2]
  exact (h.seg.append_right _).append_left _

theorem Prm.swp {a b : Nat} (l : List Int) (i j : Nat) (h1 : a ≤ i) (h2 : i < b) (h3 : a ≤ j) (h4 : j < b) (h5 : b ≤ l.length) : Prm a b l (swp l i j) := by
  refine ⟨swp_length l i j, fun q hq => by rw [gt_swp l i j q (by omega) (by omega), if_neg (by omega), if_neg (by omega)], ?_⟩
  have key : ∀ i j, a ≤ i → i ≤ j → j < b → (Srt.seg a b (Srt.swp l i j)).Perm (Srt.seg a b l) := by
    intro i j h1 h2 h4
    by_cases e : i = j
    · subst e
      have : Srt.swp l i i = l := ext_gt (swp_length _ _ _) (fun q hq => by rw [gt_swp l i i q (by omega) (by omega)]; split <;> simp_all)
      rw [this]
    · have c : ∀ m : List Int, Srt.seg a b m = Srt.seg a i m ++ (Srt.seg i (i + 1) m ++ (Srt.seg (i + 1) j m ++ (Srt.seg j (j + 1) m ++ Srt.seg (j + 1) b m))) := fun m => by
        rw [seg_cut (l := m) (show a ≤ i by omega) (show i ≤ b by omega), seg_cut (l := m) (show i ≤ i + 1 by omega) (show i + 1 ≤ b by omega), seg_cut (l := m) (show i + 1 ≤ j by omega) (show j ≤ b by omega), seg_cut (l := m) (show j ≤ j + 1 by omega) (show j + 1 ≤ b by omega)]
      have one : ∀ (m : List Int) (q : Nat), q < m.length → Srt.seg q (q + 1) m = [gt m q] := fun m q hq => by
        apply ext_gt
        · rw [seg_length (by omega)]; simp
        · intro i hi
          rw [seg_length (by omega)] at hi
          obtain rfl : i = 0 := by omega
          rw [gt_seg (by omega)]; rfl
      have hs := swp_length l i j
      have e1 := seg_eq_of (a := a) (b := i) (l := l) (l' := Srt.swp l i j) hs (by omega) (fun q _ hq => by rw [gt_swp l i j q (by omega) (by omega), if_neg (by omega), if_neg (by omega)])
      have e2 := seg_eq_of (a := i + 1) (b := j) (l := l) (l' := Srt.swp l i j) hs (by omega) (fun q hq hq2 => by rw [gt_swp l i j q (by omega) (by omega), if_neg (by omega), if_neg (by omega)])
      have e3 := seg_eq_of (a := j + 1) (b := b) (l := l) (l' := Srt.swp l i j) hs (by omega) (fun q hq _ => by rw [gt_swp l i j q (by omega) (by omega), if_neg (by omega), if_neg (by omega)])
      rw [c (Srt.swp l i j), c l, e1, e2, e3, one _ i (by omega), one _ j (by omega), one l i (by omega), one l j (by omega),
        gt_swp l i j i (by omega) (by omega), gt_swp l i j j (by omega) (by omega), if_neg e, if_pos rfl, if_pos rfl]
      apply List.Perm.append_left
      simp only [List.singleton_append]
      refine ((List.perm_middle (l₁ := Srt.seg (i + 1) j l)).cons _).trans ?_
      refine (List.Perm.swap _ _ _).trans ?_
      exact ((List.perm_middle (l₁ := Srt.seg (i + 1) j l)).symm).cons _
  by_cases e : i ≤ j
  · exact key i j h1 e h4
  · have sy : Srt.swp l i j = Srt.swp l j i := ext_gt (by rw [swp_length, swp_length]) (fun q hq => by
      rw [gt_swp l i j q (by omega) (by omega), gt_swp l j i q (by omega) (by omega)]
      by_cases c1 : q = j
      · rw [if_pos c1, if_neg (by omega), if_pos c1]
      · rw [if_neg c1]
        by_cases c2 : q = i
        · rw [if_pos c2, if_pos c2]
        · rw [if_neg c2, if_neg c2, if_neg c1])
    rw [sy]; exact key j i h3 (by omega) h2

theorem Prm.all {a b : Nat} {l l' : List Int} (h : Prm a b l l') (hb : b ≤ l.length) {P : Int → Prop} (hp : ∀ q, a ≤ q → q < b → P (gt l q)) : ∀ q, a ≤ q → q < b → P (gt l' q) := by
  intro q h1 h2
  have hm : gt l' q ∈ Srt.seg a b l' := by
    have := gt_mem (Srt.seg a b l') (q - a) (by rw [seg_length (by rw [h.len]; omega)]; omega)
    rw [gt_seg (by omega), show a + (q - a) = q by omega] at this
    exact this
  have hm2 := h.seg.mem_iff.1 hm
  obtain ⟨i, hi⟩ := List.mem_iff_getElem?.1 hm2
  have hlt := (List.getElem?_eq_some_iff.1 hi).1
  rw [seg_length hb] at hlt
  rw [seg_get (by omega)] at hi
  rw [← gt_eq hi]
  exact hp (a + i) (by omega) (by omega)

theorem Prm.mem {a b : Nat} {l l' : List Int} (h : Prm a b l l') (hb : b ≤ l.length) {x : Int} (hx : x ∈ l') : x ∈ l := by
  obtain ⟨i, hi⟩ := List.mem_iff_getElem?.1 hx
  have hlt := (List.getElem?_eq_some_iff.1 hi).1
  rw [← gt_eq hi]
  by_cases c : i < a ∨ b ≤ i
  · rw [h.out i c]; exact gt_mem l i (by rw [← h.len]; exact hlt)
  · exact h.all hb (P := fun x => x ∈ l) (fun q _ hq => gt_mem l q (by omega)) i (by omega) (by omega)

theorem Prm.perm {l l' : List Int} {n : Nat} (h : Prm 0 n l l') (hn : n = l.length) : l'.Perm l := by
  have e : ∀ m : List Int, m.length = n → Srt.seg 0 n m = m := fun m hm => by unfold Srt.seg; simp [← hm]
  have := h.seg
  rwa [e l' (by rw [h.len]; omega), e l hn.symm] at this

/-! ### sorted by a key -/
def Srd (key : Int → Int) (a b : Nat) (l : List Int) : Prop := ∀ i j, a ≤ i → i < j → j < b → key (gt l i) ≤ key (gt l j)

theorem Srd.of_out {key : Int → Int} {a b : Nat} {l l' : List Int} (h : Srd key a b l) (ho : ∀ q, a ≤ q → q < b → gt l' q = gt l q) : Srd key a b l' := by
  intro i j h1 h2 h3
  rw [ho i h1 (by omega), ho j (by omega) h3]
  exact h i j h1 h2 h3

/-! ### insertion -/
/-- all but place j in order, and place j not above what follows it -/
def Ins (key : Int → Int) (a i j : Nat) (l : List Int) : Prop := ∀ p q, a ≤ p → p < q → q ≤ i → q ≠ j → key (gt l p) ≤ key (gt l q)

theorem Ins.start {key : Int → Int} {a i : Nat} {l : List Int} (h : Srd key a i l) : Ins key a i i l := fun p q h1 h2 h3 h4 => h p q h1 h2 (by omega)
theorem Ins.stop {key : Int → Int} {a i j : Nat} {l : List Int} (h : Ins key a i j l) (hj : j = a ∨ key (gt l (j - 1)) ≤ key (gt l j)) (ha : a ≤ j) : Srd key a (i + 1) l := by
  intro p q h1 h2 h3
  by_cases e : q = j
  · subst e
    rcases hj with rfl | hj
    · omega
    · by_cases e2 : p = q - 1
      · subst e2; exact hj
      · exact Int.le_trans (h p (q - 1) h1 (by omega) (by omega) (by omega)) hj
  · exact h p q h1 h2 (by omega) e
theorem Ins.step {key : Int → Int} {a i j : Nat} {l : List Int} (h : Ins key a i j l) (ha : a < j) (hji : j ≤ i) (hi : i < l.length) (hlt : key (gt l j) < key (gt l (j - 1))) : Ins key a i (j - 1) (swp l j (j - 1)) := by
  intro p q h1 h2 h3 h4
  rw [gt_swp l j (j - 1) p (by omega) (by omega), gt_swp l j (j - 1) q (by omega) (by omega), if_neg h4]
  by_cases e1 : q = j
  · subst e1
    rw [if_pos rfl]
    by_cases e2 : p = q - 1
    · rw [if_pos e2]; omega
    · rw [if_neg e2, if_neg (by omega)]; exact h p (q - 1) h1 (by omega) (by omega) (by omega)
  · rw [if_neg e1]
    by_cases e2 : p = j - 1
    · rw [if_pos e2]; exact h j q (by omega) (by omega) h3 e1
    · rw [if_neg e2]
      by_cases e3 : p = j
      · rw [if_pos e3]; exact h (j - 1) q (by omega) (by omega) h3 e1
      · rw [if_neg e3]; exact h p q h1 h2 h3 e1

/-! ### one element moved to the right, to the left, by exchanges of neighbours -/
structure MvR (l : List Int) (a k : Nat) (c : List Int) : Prop where
  len : c.length = l.length
  at_ : ∀ q, gt c q = if a ≤ q ∧ q < k then gt l (q + 1) else if q = k then gt l a else gt l q
theorem MvR.start (l : List Int) (a : Nat) : MvR l a a l := ⟨rfl, fun q => by
  rw [if_neg (by omega)]
  by_cases h : q = a
  · rw [if_pos h, h]
  · rw [if_neg h]⟩
theorem MvR.step {l c : List Int} {a k : Nat} (h : MvR l a k c) (hak : a ≤ k) (hk : k + 1 < l.length) : MvR l a (k + 1) (swp c k (k + 1)) := by
  refine ⟨by rw [swp_length, h.len], fun q => ?_⟩
  have hc := h.len
  rw [gt_swp c k (k + 1) q (by omega) (by omega)]
  by_cases e1 : q = k + 1
  · rw [if_pos e1, if_neg (by omega), if_pos e1, h.at_ k, if_neg (by omega), if_pos rfl]
  · rw [if_neg e1]
    by_cases e2 : q = k
    · rw [if_pos e2, if_pos (by omega), h.at_ (k + 1), if_neg (by omega), if_neg (by omega), e2]
    · rw [if_neg e2, h.at_ q]
      by_cases e3 : a ≤ q ∧ q < k
      · rw [if_pos e3, if_pos (by omega)]
      · rw [if_neg e3, if_neg e2, if_neg (by omega), if_neg e1]
theorem MvR.srd {key : Int → Int} {l c : List Int} {a i b : Nat} (h : MvR l a (i - 1) c) (h1 : a + 1 ≤ i) (h2 : i ≤ b) (hs : Srd key (a + 1) b l) (hl : ∀ q, a + 1 ≤ q → q < i → key (gt l q) < key (gt l a)) (hr : ∀ q, i ≤ q → q < b → key (gt l a) ≤ key (gt l q)) : Srd key a b c := by
  intro p q hp hpq hq
  rw [h.at_ p, h.at_ q]
  by_cases c1 : p < i - 1
  · rw [if_pos ⟨hp, c1⟩]
    by_cases c2 : q < i - 1
    · rw [if_pos ⟨by omega, c2⟩]; exact hs _ _ (by omega) (by omega) (by omega)
    · rw [if_neg (by omega)]
      by_cases c3 : q = i - 1
      · rw [if_pos c3]; have := hl (p + 1) (by omega) (by omega); omega
      · rw [if_neg c3]; exact hs _ _ (by omega) (by omega) (by omega)
  · rw [if_neg (by omega)]
    rw [if_neg (show ¬ (a ≤ q ∧ q < i - 1) by omega), if_neg (show ¬ q = i - 1 by omega)]
    by_cases c2 : p = i - 1
    · rw [if_pos c2]; exact hr q (by omega) hq
    · rw [if_neg c2]; exact hs _ _ (by omega) (by omega) (by omega)

structure MvL (l : List Int) (m k : Nat) (c : List Int) : Prop where
  len : c.length = l.length
  at_ : ∀ q, gt c q = if k < q ∧ q ≤ m then gt l (q - 1) else if q = k then gt l m else gt l q
theorem MvL.start (l : List Int) (m : Nat) : MvL l m m l := ⟨rfl, fun q => by
  rw [if_neg (by omega)]
  by_cases h : q = m
  · rw [if_pos h, h]
  · rw [if_neg h]⟩
theorem MvL.step {l c : List Int} {m k : Nat} (h : MvL l m k c) (h0 : 0 < k) (hkm : k ≤ m) (hk : m < l.length) : MvL l m (k - 1) (swp c k (k - 1)) := by
  refine ⟨by rw [swp_length, h.len], fun q => ?_⟩
  have hc := h.len
  rw [gt_swp c k (k - 1) q (by omega) (by omega)]
  by_cases e1 : q = k - 1
  · rw [if_pos e1, if_neg (by omega), if_pos e1, h.at_ k, if_neg (by omega), if_pos rfl]
  · rw [if_neg e1]
    by_cases e2 : q = k
    · rw [if_pos e2, if_pos (by omega), h.at_ (k - 1), if_neg (by omega), if_neg (by omega), e2]
    · rw [if_neg e2, h.at_ q]
      by_cases e3 : k < q ∧ q ≤ m
      · rw [if_pos e3, if_pos (by omega)]
      · rw [if_neg e3, if_neg e2, if_neg (by omega), if_neg e1]
theorem MvL.srd {key : Int → Int} {l c : List Int} {a i m : Nat} (h : MvL l m i c) (h1 : a ≤ i) (h2 : i ≤ m) (hs : Srd key a m l) (hl : ∀ q, a ≤ q → q < i → key (gt l q) ≤ key (gt l m)) (hr : ∀ q, i ≤ q → q < m → key (gt l m) < key (gt l q)) : Srd key a (m + 1) c := by
  intro p q hp hpq hq
  rw [h.at_ p, h.at_ q]
  by_cases c1 : q < i
  · rw [if_neg (by omega), if_neg (by omega), if_neg (by omega), if_neg (by omega)]; exact hs _ _ hp hpq (by omega)
  · by_cases c2 : q = i
    · rw [if_neg (show ¬ (i < q ∧ q ≤ m) by omega), if_pos c2, if_neg (by omega), if_neg (by omega)]
      exact hl p hp (by omega)
    · rw [if_pos (show i < q ∧ q ≤ m by omega)]
      by_cases c3 : p < i
      · rw [if_neg (by omega), if_neg (by omega)]; exact hs _ _ hp (by omega) (by omega)
      · by_cases c4 : p = i
        · rw [if_neg (by omega), if_pos c4]
          have := hr (q - 1) (by omega) (by omega); omega
        · rw [if_pos (by omega)]; exact hs _ _ (by omega) (by omega) (by omega)

/-! ### two pieces exchanged, of one length -/
/-- behind i rounds of swapRange -/
structure Xch (l : List Int) (a b i : Nat) (c : List Int) : Prop where
  len : c.length = l.length
  at_ : ∀ q, gt c q = if a ≤ q ∧ q < a + i then gt l (q - a + b) else if b ≤ q ∧ q < b + i then gt l (q - b + a) else gt l q
theorem Xch.start (l : List Int) (a b : Nat) : Xch l a b 0 l := ⟨rfl, fun q => by rw [if_neg (by omega), if_neg (by omega)]⟩
theorem Xch.step {l c : List Int} {a b i : Nat} (h : Xch l a b i c) (h1 : a + i < b) (h2 : b + i < l.length) : Xch l a b (i + 1) (swp c (a + i) (b + i)) := by
  refine ⟨by rw [swp_length, h.len], fun q => ?_⟩
  have hc := h.len
  rw [gt_swp c (a + i) (b + i) q (by omega) (by omega)]
  by_cases e1 : q = b + i
  · rw [if_pos e1, if_neg (by omega), if_pos (by omega), h.at_ (a + i), if_neg (by omega), if_neg (by omega), e1]
    congr 1; omega
  · rw [if_neg e1]
    by_cases e2 : q = a + i
    · rw [if_pos e2, if_pos (by omega), h.at_ (b + i), if_neg (by omega), if_neg (by omega), e2]
      congr 1; omega
    · rw [if_neg e2, h.at_ q]
      by_cases e3 : a ≤ q ∧ q < a + i
      · rw [if_pos e3, if_pos (by omega)]
      · rw [if_neg e3, if_neg (show ¬ (a ≤ q ∧ q < a + (i + 1)) by omega)]
        by_cases e4 : b ≤ q ∧ q < b + i
        · rw [if_pos e4, if_pos (by omega)]
        · rw [if_neg e4, if_neg (by omega)]

/-! ### two neighbouring pieces exchanged -/
/-- c is l with the pieces from a up to m and from m up to b exchanged -/
structure Rot (l : List Int) (a m b : Nat) (c : List Int) : Prop where
  len : c.length = l.length
  at_ : ∀ q, gt c q = if a ≤ q ∧ q < a + (b - m) then gt l (q - a + m) else if a + (b - m) ≤ q ∧ q < b then gt l (q - (b - m)) else gt l q
theorem Rot.none {l : List Int} {a m b : Nat} (h : a = m ∨ m = b) (hab : a ≤ b) : Rot l a m b l := ⟨rfl, fun q => by
  by_cases c1 : a ≤ q ∧ q < a + (b - m)
  · rw [if_pos c1]; congr 1; omega
  · rw [if_neg c1]
    by_cases c2 : a + (b - m) ≤ q ∧ q < b
    · rw [if_pos c2]; congr 1; omega
    · rw [if_neg c2]⟩
/-- what is left to be done behind some rounds of rotate: the pieces of i and of j elements around m -/
structure Todo (l : List Int) (a m b i j : Nat) (c : List Int) : Prop where
  len : c.length = l.length
  hi : a + i ≤ m
  hj : m + j ≤ b
  goal : ∀ d, Rot c (m - i) m (m + j) d → Rot l a m b d
theorem Todo.start {l : List Int} {a m b : Nat} (h1 : a ≤ m) (h2 : m ≤ b) : Todo l a m b (m - a) (b - m) l :=
  ⟨rfl, by omega, by omega, fun d h => by rw [show m - (m - a) = a by omega, show m + (b - m) = b by omega] at h; exact h⟩
theorem Todo.left {l c d : List Int} {a m b i j : Nat} (h : Todo l a m b i j c) (hij : j < i) (hx : Xch c (m - i) m j d) : Todo l a m b (i - j) j d := by
  have h3 := h.hi
  have h4 := h.hj
  refine ⟨by rw [hx.len, h.len], by omega, h.hj, fun f hf => h.goal f ⟨by rw [hf.len, hx.len], fun q => ?_⟩⟩
  have e1 : m + j - m = j := by omega
  have hq := hf.at_ q
  rw [e1] at hq ⊢
  by_cases c1 : m - i ≤ q ∧ q < m - i + j
  · rw [if_pos c1, hq, if_neg (by omega), if_neg (by omega), hx.at_ q, if_pos c1]
  · rw [if_neg c1]
    by_cases c2 : m - i + j ≤ q ∧ q < m + j
    · rw [if_pos c2, hq]
      by_cases c3 : m - (i - j) ≤ q ∧ q < m - (i - j) + j
      · rw [if_pos c3, hx.at_, if_neg (by omega), if_pos (by omega)]; congr 1; omega
      · rw [if_neg c3, if_pos (by omega), hx.at_, if_neg (by omega), if_neg (by omega)]
    · rw [if_neg c2, hq, if_neg (by omega), if_neg (by omega), hx.at_, if_neg c1, if_neg (by omega)]
theorem Todo.right {l c d : List Int} {a m b i j : Nat} (h : Todo l a m b i j c) (hij : i < j) (hx : Xch c (m - i) (m + j - i) i d) : Todo l a m b i (j - i) d := by
  have h3 := h.hi
  have h4 := h.hj
  refine ⟨by rw [hx.len, h.len], h.hi, by omega, fun f hf => h.goal f ⟨by rw [hf.len, hx.len], fun q => ?_⟩⟩
  have e1 : m + (j - i) - m = j - i := by omega
  have e2 : m + j - m = j := by omega
  have hq := hf.at_ q
  rw [e1] at hq
  rw [e2]
  by_cases c1 : m - i ≤ q ∧ q < m - i + j
  · rw [if_pos c1, hq]
    by_cases c3 : m - i ≤ q ∧ q < m - i + (j - i)
    · rw [if_pos c3, hx.at_, if_neg (by omega), if_neg (by omega)]
    · rw [if_neg c3, if_pos (by omega), hx.at_, if_pos (by omega)]; congr 1; omega
  · rw [if_neg c1]
    by_cases c2 : m - i + j ≤ q ∧ q < m + j
    · rw [if_pos c2, hq, if_neg (by omega), if_neg (by omega), hx.at_, if_neg (by omega), if_pos (by omega)]; congr 1; omega
    · rw [if_neg c2, hq, if_neg (by omega), if_neg (by omega), hx.at_, if_neg (by omega), if_neg (by omega)]
theorem Todo.last {l c d : List Int} {a m b i : Nat} (h : Todo l a m b i i c) (hx : Xch c (m - i) m i d) : Rot l a m b d := by
  have h3 := h.hi
  refine h.goal d ⟨hx.len, fun q => ?_⟩
  rw [hx.at_ q, show m + i - m = i by omega]
  by_cases c1 : m - i ≤ q ∧ q < m - i + i
  · rw [if_pos c1, if_pos c1]
  · rw [if_neg c1, if_neg c1]
    by_cases c2 : m ≤ q ∧ q < m + i
    · rw [if_pos c2, if_pos (by omega)]; congr 1; omega
    · rw [if_neg c2, if_neg (by omega)]

theorem Rot.out {l c : List Int} {a m b : Nat} (h : Rot l a m b c) (hab : a + (b - m) ≤ b) (q : Nat) (hq : q < a ∨ b ≤ q) : gt c q = gt l q := by
  rw [h.at_ q, if_neg (by omega), if_neg (by omega)]
theorem Rot.prm {l c : List Int} {a m b : Nat} (h : Rot l a m b c) (h1 : a ≤ m) (h2 : m ≤ b) (h3 : b ≤ l.length) : Prm a b l c := by
  refine ⟨h.len, fun q hq => h.out (by omega) q hq, ?_⟩
  have hl := h.len
  have e : Srt.seg a b c = Srt.seg m b l ++ Srt.seg a m l := by
    rw [seg_cut (l := c) (show a ≤ a + (b - m) by omega) (show a + (b - m) ≤ b by omega)]
    congr 1
    · apply ext_gt
      · rw [seg_length (by omega), seg_length h3]; omega
      · intro i hi
        rw [seg_length (by omega)] at hi
        rw [gt_seg hi, gt_seg (by omega), h.at_, if_pos (by omega)]; congr 1; omega
    · apply ext_gt
      · rw [seg_length (by omega), seg_length (by omega)]; omega
      · intro i hi
        rw [seg_length (by omega)] at hi
        rw [gt_seg hi, gt_seg (by omega), h.at_, if_neg (by omega), if_pos (by omega)]; congr 1; omega
  rw [e, seg_cut (l := l) h1 h2]
  exact List.perm_append_comm

/-- behind the rotation: four pieces in order, and the lower half not above the upper -/
structure Halves (key : Int → Int) (a s mid e b : Nat) (l : List Int) : Prop where
  p1 : Srd key a s l
  p2 : Srd key s mid l
  p3 : Srd key mid e l
  p4 : Srd key e b l
  cross : ∀ x y, a ≤ x → x < mid → mid ≤ y → y < b → key (gt l x) ≤ key (gt l y)

theorem halves {key : Int → Int} {l c : List Int} {a m b mid s e : Nat} (h : Rot l s m e c) (h1 : a ≤ s) (h2 : s ≤ m) (h3 : m ≤ e) (h4 : e ≤ b) (h5 : s + (e - m) = mid)
    (hL : Srd key a m l) (hR : Srd key m b l) (f1 : a < s → e < b → key (gt l (s - 1)) ≤ key (gt l e)) (f2 : m < e → s < m → key (gt l (e - 1)) ≤ key (gt l s)) : Halves key a s mid e b c := by
  have lo : ∀ q, q < s → gt c q = gt l q := fun q hq => by rw [h.at_ q, if_neg (by omega), if_neg (by omega)]
  have m1 : ∀ q, s ≤ q → q < mid → gt c q = gt l (q - s + m) := fun q _ hq => by rw [h.at_ q, if_pos (by omega)]
  have m2 : ∀ q, mid ≤ q → q < e → gt c q = gt l (q - (e - m)) := fun q hq hq2 => by rw [h.at_ q, if_neg (by omega), if_pos (by omega)]
  have hi : ∀ q, e ≤ q → gt c q = gt l q := fun q hq => by rw [h.at_ q, if_neg (by omega), if_neg (by omega)]
  have lele : ∀ {x y : Nat}, a ≤ x → x ≤ y → y < m → key (gt l x) ≤ key (gt l y) := fun {x y} hx hxy hy => by
    by_cases q : x = y
    · subst q; exact Int.le_refl _
    · exact hL x y hx (by omega) hy
  have rele : ∀ {x y : Nat}, m ≤ x → x ≤ y → y < b → key (gt l x) ≤ key (gt l y) := fun {x y} hx hxy hy => by
    by_cases q : x = y
    · subst q; exact Int.le_refl _
    · exact hR x y hx (by omega) hy
  refine ⟨fun i j hi1 hij hj => ?_, fun i j hi1 hij hj => ?_, fun i j hi1 hij hj => ?_, fun i j hi1 hij hj => ?_, fun x y hx hxm hy hyb => ?_⟩
  · rw [lo i (by omega), lo j hj]; exact hL i j hi1 hij (by omega)
  · rw [m1 i hi1 (by omega), m1 j (by omega) hj]; exact hR _ _ (by omega) (by omega) (by omega)
  · rw [m2 i hi1 (by omega), m2 j (by omega) hj]; exact hL _ _ (by omega) (by omega) (by omega)
  · rw [hi i hi1, hi j (by omega)]; exact hR _ _ (by omega) hij hj
  · by_cases c1 : x < s
    · rw [lo x c1]
      by_cases c2 : y < e
      · rw [m2 y hy c2]; exact hL _ _ hx (by omega) (by omega)
      · rw [hi y (by omega)]
        exact Int.le_trans (lele hx (show x ≤ s - 1 by omega) (by omega)) (Int.le_trans (f1 (by omega) (by omega)) (rele h3 (by omega) hyb))
    · rw [m1 x (by omega) hxm]
      by_cases c2 : y < e
      · rw [m2 y hy c2]
        exact Int.le_trans (rele (by omega) (show x - s + m ≤ e - 1 by omega) (by omega)) (Int.le_trans (f2 (by omega) (by omega)) (lele h1 (by omega) (by omega)))
      · rw [hi y (by omega)]; exact hR _ _ (by omega) (by omega) hyb

theorem join {key : Int → Int} {l l2 l3 : List Int} {a mid b : Nat} (h1 : a ≤ mid) (h2 : mid ≤ b) (h3 : b ≤ l.length) (hx : ∀ x y, a ≤ x → x < mid → mid ≤ y → y < b → key (gt l x) ≤ key (gt l y))
    (p2 : Prm a mid l l2) (s2 : Srd key a mid l2) (p3 : Prm mid b l2 l3) (s3 : Srd key mid b l3) : Srd key a b l3 ∧ Prm a b l l3 := by
  have hl2 := p2.len
  refine ⟨fun i j hi hij hj => ?_, (p2.wide (Nat.le_refl _) h1 h2 h3).trans (p3.wide h1 h2 (Nat.le_refl _) (by omega))⟩
  by_cases c1 : j < mid
  · rw [p3.out i (Or.inl (by omega)), p3.out j (Or.inl c1)]; exact s2 i j hi hij c1
  · by_cases c2 : mid ≤ i
    · exact s3 i j c2 hij hj
    · rw [p3.out i (Or.inl (by omega))]
      refine p3.all (by omega) (P := fun z => key (gt l2 i) ≤ key z) (fun q hq hqb => ?_) j (by omega) hj
      rw [p2.out q (Or.inr hq)]
      exact p2.all (by omega) (P := fun z => key z ≤ key (gt l q)) (fun x hx1 hx2 => hx x q hx1 hx2 hq hqb) i hi (by omega)

theorem Srd.widen {key : Int → Int} {a b : Nat} {l : List Int} (h : Srd key a b l) {a' b' : Nat} (h1 : a ≤ a') (h2 : b' ≤ b) : Srd key a' b' l := fun i j hi hij hj => h i j (by omega) hij (by omega)
theorem Srd.nil (key : Int → Int) (a : Nat) (l : List Int) : Srd key a a l := fun i j hi hij hj => by omega
theorem Srd.one (key : Int → Int) (a : Nat) (l : List Int) : Srd key a (a + 1) l := fun i j hi hij hj => by omega

end Go.Proofs.YbulkkrgDoor.Srt
