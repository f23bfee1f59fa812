/-
  The plain laws of 'huffmanLengths': the tree's Kraft sum, the cut to the limit, the lengthening and the shortening. No Go in sight.
-/
import Derived.Test.YbulkkrgDoorSrtPlain
namespace Go.Proofs.YbulkkrgDoor.Hu
open Go.Proofs.YbulkkrgDoor.Srt
set_option linter.unusedVariables false

/-- the sum of f from a up to b -/
def S (f : Nat → Int) (a : Nat) : Nat → Int
  | 0 => 0
  | b + 1 => if a ≤ b then S f a b + f b else 0
theorem S_self (f : Nat → Int) (a : Nat) : S f a a = 0 := by
  cases a with
  | zero => rfl
  | succ a => unfold S; rw [if_neg (by omega)]
theorem S_succ (f : Nat → Int) {a b : Nat} (h : a ≤ b) : S f a (b + 1) = S f a b + f b := by rw [S, if_pos h]
theorem S_head (f : Nat → Int) (a : Nat) : ∀ b, a < b → S f a b = f a + S f (a + 1) b
  | 0, h => by omega
  | b + 1, h => by
    by_cases hb : a = b
    · subst hb; rw [S_succ f (Nat.le_refl _), S_self, S_self]; omega
    · rw [S_succ f (by omega), S_succ f (by omega), S_head f a b (by omega)]; omega

/-- a pick of the lightest: the next leaf, or the next node below m -/
def Pick (n m lf nd a lf' nd' : Nat) : Prop := (a = lf ∧ lf < n ∧ lf' = lf + 1 ∧ nd' = nd) ∨ (a = nd ∧ nd < m ∧ lf' = lf ∧ nd' = nd + 1)

/-- the tree while it is made: m is the next node's number -/
structure Tr (n m lf nd : Nat) (P : List Int) : Prop where
  len : P.length = 2 * n - 1
  n2 : 2 ≤ n
  lfn : lf ≤ n
  ndm : n ≤ nd ∧ nd ≤ m
  mm : m ≤ 2 * n - 1
  ndlt : nd < m ∨ nd = n
  cnt : lf + nd + n = 2 * m
  par : ∀ i, (i < lf ∨ (n ≤ i ∧ i < nd)) → ∃ p : Nat, gt P i = p ∧ i < p ∧ p < m
  tot : ∀ f : Nat → Int, (∀ i, (i < lf ∨ (n ≤ i ∧ i < nd)) → f (gt P i).toNat = 2 * f i) → S f 0 n = S f lf n + S f nd m

theorem Tr.start (n : Nat) (P : List Int) (h : P.length = 2 * n - 1) (hn : 2 ≤ n) : Tr n n 0 n P :=
  ⟨h, hn, by omega, ⟨Nat.le_refl _, Nat.le_refl _⟩, by omega, .inr rfl, by omega, fun i hi => by omega, fun f _ => by rw [S_self]; omega⟩

theorem S_take (f : Nat → Int) {n m lf nd a lf' nd' : Nat} (h : Pick n m lf nd a lf' nd') : S f lf n + S f nd m = f a + (S f lf' n + S f nd' m) := by
  rcases h with ⟨rfl, h1, rfl, rfl⟩ | ⟨rfl, h1, rfl, rfl⟩
  · rw [S_head f a n h1]; omega
  · rw [S_head f a m h1]; omega

theorem Tr.step {n m lf nd a lf1 nd1 b lf2 nd2 : Nat} {P : List Int} (h : Tr n m lf nd P) (hm : m < 2 * n - 1) (ha : Pick n m lf nd a lf1 nd1) (hb : Pick n m lf1 nd1 b lf2 nd2) :
    Tr n (m + 1) lf2 nd2 ((P.set a m).set b m) := by
  have c := h.cnt
  have d := h.ndm
  have l := h.lfn
  have n2 := h.n2
  have hl := h.len
  have aP : a < P.length := by rcases ha with ⟨rfl, _⟩ | ⟨rfl, _⟩ <;> omega
  have bP : b < (P.set a m).length := by rw [List.length_set]; rcases hb with ⟨rfl, _⟩ | ⟨rfl, _⟩ <;> rcases ha with ⟨_, _, _, _⟩ | ⟨_, _, _, _⟩ <;> omega
  have hab : a ≠ b := by rcases ha with ⟨rfl, _, _, _⟩ | ⟨rfl, _, _, _⟩ <;> rcases hb with ⟨rfl, _, _, _⟩ | ⟨rfl, _, _, _⟩ <;> omega
  have gb : gt ((P.set a m).set b m) b = m := gt_set_self _ _ _ bP
  have ga : gt ((P.set a m).set b m) a = m := by rw [gt_set_ne _ _ _ _ (Ne.symm hab)]; exact gt_set_self _ _ _ aP
  have go : ∀ i, i ≠ a → i ≠ b → gt ((P.set a m).set b m) i = gt P i := fun i h1 h2 => by rw [gt_set_ne _ _ _ _ (Ne.symm h2), gt_set_ne _ _ _ _ (Ne.symm h1)]
  have cons : ∀ i, (i < lf2 ∨ (n ≤ i ∧ i < nd2)) ↔ ((i < lf ∨ (n ≤ i ∧ i < nd)) ∨ i = a ∨ i = b) := by
    intro i
    rcases ha with ⟨rfl, _, rfl, rfl⟩ | ⟨rfl, _, rfl, rfl⟩ <;> rcases hb with ⟨rfl, _, rfl, rfl⟩ | ⟨rfl, _, rfl, rfl⟩ <;> omega
  have old : ∀ i, (i < lf ∨ (n ≤ i ∧ i < nd)) → i ≠ a ∧ i ≠ b := by
    intro i hi
    rcases ha with ⟨rfl, _, rfl, rfl⟩ | ⟨rfl, _, rfl, rfl⟩ <;> rcases hb with ⟨rfl, _, rfl, rfl⟩ | ⟨rfl, _, rfl, rfl⟩ <;> omega
  have am : a < m := by rcases ha with ⟨rfl, _, _, _⟩ | ⟨rfl, _, _, _⟩ <;> omega
  have bm : b < m := by rcases hb with ⟨rfl, _, _, _⟩ | ⟨rfl, _, _, _⟩ <;> rcases ha with ⟨_, _, _, _⟩ | ⟨_, _, _, _⟩ <;> omega
  have bnd : lf2 ≤ n ∧ n ≤ nd2 ∧ nd2 ≤ m ∧ lf2 + nd2 = lf + nd + 2 := by
    rcases ha with ⟨rfl, _, rfl, rfl⟩ | ⟨rfl, _, rfl, rfl⟩ <;> rcases hb with ⟨rfl, _, rfl, rfl⟩ | ⟨rfl, _, rfl, rfl⟩ <;> omega
  refine ⟨by rw [List.length_set, List.length_set]; exact hl, n2, bnd.1, ⟨bnd.2.1, by omega⟩, by omega, .inl (by omega), by omega, ?_, ?_⟩
  · intro i hi
    rcases (cons i).1 hi with h1 | rfl | rfl
    · obtain ⟨p, h2, h3, h4⟩ := h.par i h1
      exact ⟨p, by rw [go i (old i h1).1 (old i h1).2]; exact h2, h3, by omega⟩
    · exact ⟨m, ga, am, by omega⟩
    · exact ⟨m, gb, bm, by omega⟩
  · intro f hf
    have h1 := h.tot f (fun i hi => by have := hf i ((cons i).2 (.inl hi)); rwa [go i (old i hi).1 (old i hi).2] at this)
    have fa := hf a ((cons a).2 (.inr (.inl rfl)))
    have fb := hf b ((cons b).2 (.inr (.inr rfl)))
    rw [ga] at fa
    rw [gb] at fb
    simp only [Int.toNat_natCast] at fa fb
    rw [h1, S_take f ha, S_take f hb, S_succ f (by omega)]
    omega

theorem Tr.last {n lf nd : Nat} {P : List Int} (h : Tr n (2 * n - 1) lf nd P) : lf = n ∧ nd = 2 * n - 2 := by
  have c := h.cnt
  have d := h.ndm
  have l := h.lfn
  have n2 := h.n2
  have := h.ndlt
  omega

/-- the depths while they are reckoned, from j on -/
structure Dep (n j : Nat) (P dl : List Int) : Prop where
  len : dl.length = 2 * n - 1
  root : gt dl (2 * n - 2) = 0
  bd : ∀ i, j ≤ i → i < 2 * n - 1 → 0 ≤ gt dl i ∧ gt dl i ≤ 2 * n - 2 - i
  one : ∀ i, j ≤ i → i < 2 * n - 2 → gt dl i = gt dl (gt P i).toNat + 1

theorem gt_replicate (n i : Nat) : gt (List.replicate n 0) i = 0 := by
  unfold gt; rw [List.getD_eq_getElem?_getD, List.getElem?_replicate]; split <;> rfl

theorem Dep.start (n : Nat) (P : List Int) (hn : 2 ≤ n) : Dep n (2 * n - 2) P (List.replicate (2 * n - 1) 0) :=
  ⟨by simp, gt_replicate _ _, fun i h1 h2 => by rw [gt_replicate]; omega, fun i h1 h2 => by omega⟩

theorem Dep.step {n j lf nd : Nat} {P dl : List Int} (h : Dep n (j + 1) P dl) (hT : Tr n (2 * n - 1) lf nd P) (hj : j < 2 * n - 2) :
    ∃ p : Nat, gt P j = p ∧ j < p ∧ p < 2 * n - 1 ∧ Dep n j P (dl.set j (gt dl p + 1)) := by
  obtain ⟨rfl, rfl⟩ := hT.last
  obtain ⟨p, h1, h2, h3⟩ := hT.par j (by have := hT.n2; omega)
  have hl := h.len
  refine ⟨p, h1, h2, h3, by rw [List.length_set]; exact h.len, ?_, ?_, ?_⟩
  · rw [gt_set_ne _ _ _ _ (by omega)]; exact h.root
  · intro i i1 i2
    by_cases hi : i = j
    · subst hi
      rw [gt_set_self _ _ _ (by omega)]
      have := h.bd p (by omega) (by omega)
      omega
    · rw [gt_set_ne _ _ _ _ (by omega)]; exact h.bd i (by omega) i2
  · intro i i1 i2
    by_cases hi : i = j
    · subst hi
      rw [gt_set_self _ _ _ (by omega), h1, Int.toNat_natCast, gt_set_ne _ _ _ _ (by omega)]
    · obtain ⟨q, q1, q2, q3⟩ := hT.par i (by have := hT.n2; omega)
      have := h.one i (by omega) i2
      rw [q1, Int.toNat_natCast] at this
      rw [gt_set_ne _ _ _ _ (by omega), q1, Int.toNat_natCast, gt_set_ne _ _ _ _ (by omega)]
      exact this

/-- the leaves' depths fill the code exactly -/
theorem kraft {n lf nd : Nat} {P dl : List Int} (h : Dep n 0 P dl) (hT : Tr n (2 * n - 1) lf nd P) (K : Nat) (hK : 2 * n ≤ K) : S (fun i => 2 ^ (K - (gt dl i).toNat)) 0 n = 2 ^ K := by
  have hl := hT.last
  have n2 := hT.n2
  have ht := hT.tot (fun i => 2 ^ (K - (gt dl i).toNat)) (fun i hi => by
    obtain ⟨q, q1, q2, q3⟩ := hT.par i hi
    have h1 := h.one i (by omega) (by omega)
    rw [q1, Int.toNat_natCast] at h1
    have h2 := h.bd q (by omega) (by omega)
    have h3 := h.bd i (by omega) (by omega)
    rw [q1, Int.toNat_natCast, h1, ← Int.pow_succ' ]
    congr 1
    omega)
  rw [ht, hl.1, hl.2, S_self, show 2 * n - 1 = (2 * n - 2) + 1 by omega, S_succ _ (Nat.le_refl _), S_self, h.root]
  simp
end Go.Proofs.YbulkkrgDoor.Hu
