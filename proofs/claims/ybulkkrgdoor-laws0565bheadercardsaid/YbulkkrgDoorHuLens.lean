/-
  The plain laws of the lengths: Kraft's sum over the used symbols, the cut, one lengthening, one shortening.
-/
import Derived.Test.YbulkkrgDoorHuPlain
namespace Go.Proofs.YbulkkrgDoor.Hu
open Go.Proofs.YbulkkrgDoor.Srt
set_option linter.unusedVariables false

theorem S_congr (f g : Nat → Int) (a : Nat) : ∀ b, (∀ i, a ≤ i → i < b → f i = g i) → S f a b = S g a b
  | 0, _ => rfl
  | b + 1, h => by
    unfold S; split
    · rw [S_congr f g a b (fun i h1 h2 => h i h1 (by omega)), h b (by omega) (by omega)]
    · rfl
theorem S_mul (f : Nat → Int) (c : Int) (a : Nat) : ∀ b, S (fun i => c * f i) a b = c * S f a b
  | 0 => by simp [S]
  | b + 1 => by
    unfold S; split
    · rw [S_mul f c a b, Int.mul_add]
    · simp
theorem S_le (f g : Nat → Int) (a : Nat) : ∀ b, (∀ i, a ≤ i → i < b → f i ≤ g i) → S f a b ≤ S g a b
  | 0, _ => by simp [S]
  | b + 1, h => by
    unfold S; split
    · have := S_le f g a b (fun i h1 h2 => h i h1 (by omega)); have := h b (by omega) (by omega); omega
    · omega
theorem S_lt (f g : Nat → Int) (a j : Nat) (hj : a ≤ j) : ∀ b, j < b → (∀ i, a ≤ i → i < b → f i ≤ g i) → f j < g j → S f a b < S g a b
  | 0, h, _, _ => by omega
  | b + 1, h, hl, hs => by
    rw [S_succ f (by omega), S_succ g (by omega)]
    by_cases e : j = b
    · subst e
      have := S_le f g a j (fun i h1 h2 => hl i h1 (by omega)); omega
    · have := S_lt f g a j hj b (by omega) (fun i h1 h2 => hl i h1 (by omega)) hs
      have := hl b (by omega) (by omega); omega
theorem S_dvd (f : Nat → Int) (d : Int) (a : Nat) : ∀ b, (∀ i, a ≤ i → i < b → d ∣ f i) → d ∣ S f a b
  | 0, _ => by simp [S]
  | b + 1, h => by
    unfold S; split
    · exact Int.dvd_add (S_dvd f d a b (fun i h1 h2 => h i h1 (by omega))) (h b (by omega) (by omega))
    · simp
theorem S_const (c : Int) : ∀ b, S (fun _ => c) 0 b = b * c
  | 0 => by simp [S]
  | b + 1 => by rw [S_succ _ (by omega), S_const c b]; simp [Int.add_mul]
/-- one place turned -/
theorem S_turn (f g : Nat → Int) (j : Nat) : ∀ b, j < b → (∀ i, i < b → i ≠ j → g i = f i) → S g 0 b = S f 0 b - f j + g j
  | 0, h, _ => by omega
  | b + 1, h, hl => by
    rw [S_succ f (by omega), S_succ g (by omega)]
    by_cases e : j = b
    · subst e
      rw [S_congr g f 0 j (fun i _ h2 => hl i (by omega) (by omega))]; omega
    · rw [S_turn f g j b (by omega) (fun i h1 h2 => hl i (by omega) h2), hl b (by omega) (by omega)]; omega
theorem S_sum (g : Int → Int) : ∀ l : List Int, S (fun i => g (gt l i)) 0 l.length = (l.map g).sum := by
  intro l
  have key : ∀ (k : Nat) (l : List Int), k ≤ l.length → S (fun i => g (gt l i)) 0 k = ((l.take k).map g).sum := by
    intro k
    induction k with
    | zero => intro l _; simp [S]
    | succ k ih =>
      intro l hk
      rw [S_succ _ (by omega), ih l (by omega), List.take_add_one, gt_get l k (by omega)]
      simp
  rw [key l.length l (Nat.le_refl _), List.take_length]
theorem max_at (h : Nat → Int) : ∀ n, 0 < n → ∃ j, j < n ∧ ∀ i, i < n → h i ≤ h j
  | 0, h0 => by omega
  | n + 1, _ => by
    by_cases hn : n = 0
    · subst hn; exact ⟨0, by omega, fun i hi => by rw [show i = 0 by omega]; exact Int.le_refl _⟩
    · obtain ⟨j, j1, j2⟩ := max_at h n (by omega)
      by_cases hc : h j ≤ h n
      · refine ⟨n, by omega, fun i hi => ?_⟩
        by_cases e : i = n
        · subst e; exact Int.le_refl _
        · have := j2 i (by omega); omega
      · refine ⟨j, by omega, fun i hi => ?_⟩
        by_cases e : i = n
        · subst e; omega
        · exact j2 i (by omega)

/-- the length of the symbol s -/
def ln (l : List Int) (s : Int) : Int := gt l s.toNat
/-- the units that the symbols' codes take, of 2^lim -/
def un (lim : Nat) (l : List Int) (s : Int) : Int := 2 ^ (lim - (ln l s).toNat)
/-- the used symbols: numbers below N, no two alike -/
structure Us (N : Nat) (U : List Int) : Prop where
  bd : ∀ i, i < U.length → 0 ≤ gt U i ∧ gt U i < N
  ne : ∀ i j, i < U.length → j < U.length → i ≠ j → gt U i ≠ gt U j

/-- a code in the making: lengths from 1 to lim at the used symbols, 0 elsewhere -/
structure Ln (N lim : Nat) (U l : List Int) : Prop where
  len : l.length = N
  bd : ∀ i, i < U.length → 1 ≤ ln l (gt U i) ∧ ln l (gt U i) ≤ lim
  off : ∀ s, s < N → (∀ i, i < U.length → gt U i ≠ s) → gt l s = 0
/-- Kraft's sum -/
def Ks (lim : Nat) (U l : List Int) : Int := S (fun i => un lim l (gt U i)) 0 U.length

theorem ln_set_self {l : List Int} {s x : Int} (hs : 0 ≤ s) (h : s.toNat < l.length) : ln (l.set s.toNat x) s = x := gt_set_self _ _ _ h
theorem ln_set_ne {l : List Int} {s t x : Int} (hs : 0 ≤ s) (ht : 0 ≤ t) (h : s ≠ t) : ln (l.set s.toNat x) t = ln l t := gt_set_ne _ _ _ _ (by omega)

theorem Ln.set {N lim : Nat} {U l : List Int} (h : Ln N lim U l) (hU : Us N U) (j : Nat) (hj : j < U.length) (x : Int) (h1 : 1 ≤ x) (h2 : x ≤ lim) :
    Ln N lim U (l.set (gt U j).toNat x) ∧ Ks lim U (l.set (gt U j).toNat x) = Ks lim U l - un lim l (gt U j) + 2 ^ (lim - x.toNat) := by
  have bj := hU.bd j hj
  have hl := h.len
  have self : ln (l.set (gt U j).toNat x) (gt U j) = x := ln_set_self bj.1 (by omega)
  have oth : ∀ i, i < U.length → i ≠ j → ln (l.set (gt U j).toNat x) (gt U i) = ln l (gt U i) := fun i hi hne => ln_set_ne bj.1 (hU.bd i hi).1 (hU.ne j i hj hi (Ne.symm hne))
  refine ⟨⟨by rw [List.length_set]; exact h.len, fun i hi => ?_, fun s hs hn => ?_⟩, ?_⟩
  · by_cases e : i = j
    · subst e; rw [self]; exact ⟨h1, h2⟩
    · rw [oth i hi e]; exact h.bd i hi
  · have := hn j hj
    rw [gt_set_ne _ _ _ _ (by omega)]; exact h.off s hs hn
  · unfold Ks
    rw [S_turn (fun i => un lim l (gt U i)) (fun i => un lim (l.set (gt U j).toNat x) (gt U i)) j U.length hj (fun i hi hne => by simp only [un]; rw [oth i hi hne])]
    simp only [un]
    rw [self]

theorem un_pos (lim : Nat) (l : List Int) (s : Int) : 0 < un lim l s := Int.pow_pos (by omega)

theorem lengthen {N lim : Nat} {U l : List Int} (h : Ln N lim U l) (hU : Us N U) (j : Nat) (hj : j < U.length) (hc : ln l (gt U j) < lim) (hr : 2 ^ lim - Ks lim U l < 0) :
    Ln N lim U (l.set (gt U j).toNat (ln l (gt U j) + 1)) ∧
      2 ^ lim - Ks lim U (l.set (gt U j).toNat (ln l (gt U j) + 1)) = (2 ^ lim - Ks lim U l) + 2 ^ (lim - (ln l (gt U j)).toNat - 1) ∧
      (2 ^ lim - Ks lim U l) + 2 ^ (lim - (ln l (gt U j)).toNat - 1) < 2 ^ (lim - 2) := by
  have b := h.bd j hj
  obtain ⟨h1, h2⟩ := h.set hU j hj (ln l (gt U j) + 1) (by omega) (by omega)
  refine ⟨h1, ?_, ?_⟩
  · rw [h2]
    unfold un
    obtain ⟨k, hk⟩ : ∃ k, lim - (ln l (gt U j)).toNat = k + 1 := ⟨lim - (ln l (gt U j)).toNat - 1, by omega⟩
    rw [hk, show lim - (ln l (gt U j) + 1).toNat = k by omega, Nat.add_sub_cancel, Int.pow_succ]
    omega
  · have : (2 : Nat) ^ (lim - (ln l (gt U j)).toNat - 1) ≤ 2 ^ (lim - 2) := Nat.pow_le_pow_right (by omega) (by omega)
    have : (2 : Int) ^ (lim - (ln l (gt U j)).toNat - 1) ≤ 2 ^ (lim - 2) := by exact_mod_cast this
    omega

/-- where all lengths are the limit the code fits -/
theorem long_fits {N lim : Nat} {U l : List Int} (h : Ln N lim U l) (hn : U.length ≤ 2 ^ lim) (hall : ∀ i, i < U.length → ¬ ln l (gt U i) < lim) : 0 ≤ 2 ^ lim - Ks lim U l := by
  have : Ks lim U l = U.length * 1 := by
    unfold Ks
    rw [S_congr _ (fun _ => 1) 0 U.length (fun i _ hi => ?_), S_const]
    have := h.bd i hi
    have := hall i hi
    unfold un
    rw [show lim - (ln l (gt U i)).toNat = 0 by omega]; rfl
  have : (U.length : Int) ≤ 2 ^ lim := by exact_mod_cast hn
  omega

theorem shorten {N lim : Nat} {U l : List Int} (h : Ln N lim U l) (hU : Us N U) (j : Nat) (hj : j < U.length) (hc : un lim l (gt U j) ≤ 2 ^ lim - Ks lim U l) (hr : 2 ^ lim - Ks lim U l < 2 ^ (lim - 2)) :
    2 ≤ ln l (gt U j) ∧ Ln N lim U (l.set (gt U j).toNat (ln l (gt U j) - 1)) ∧
      2 ^ lim - Ks lim U (l.set (gt U j).toNat (ln l (gt U j) - 1)) = (2 ^ lim - Ks lim U l) - un lim l (gt U j) := by
  have b := h.bd j hj
  have h2 : 2 ≤ ln l (gt U j) := by
    apply Classical.byContradiction
    intro hn
    have e : ln l (gt U j) = 1 := by omega
    have : (2 : Nat) ^ (lim - 2) ≤ 2 ^ (lim - 1) := Nat.pow_le_pow_right (by omega) (by omega)
    have : (2 : Int) ^ (lim - 2) ≤ 2 ^ (lim - 1) := by exact_mod_cast this
    unfold un at hc
    rw [e] at hc
    have e1 : (1 : Int).toNat = 1 := rfl
    rw [e1] at hc
    omega
  obtain ⟨h3, h4⟩ := h.set hU j hj (ln l (gt U j) - 1) (by omega) (by omega)
  refine ⟨h2, h3, ?_⟩
  rw [h4]
  unfold un
  rw [show lim - (ln l (gt U j) - 1).toNat = lim - (ln l (gt U j)).toNat + 1 by omega, Int.pow_succ]
  omega

/-- room that is left is room for a code of the longest length -/
theorem room_for {N lim : Nat} {U l : List Int} (h : Ln N lim U l) (hn : 0 < U.length) (hr : 0 < 2 ^ lim - Ks lim U l) : ¬ ∀ i, i < U.length → ¬ un lim l (gt U i) ≤ 2 ^ lim - Ks lim U l := by
  intro hall
  obtain ⟨j, j1, j2⟩ := max_at (fun i => ln l (gt U i)) U.length hn
  have bj := h.bd j j1
  have hd : un lim l (gt U j) ∣ 2 ^ lim - Ks lim U l := by
    have pw : ∀ k, lim - (ln l (gt U j)).toNat ≤ k → un lim l (gt U j) ∣ 2 ^ k := fun k hk => by
      unfold un; exact ⟨2 ^ (k - (lim - (ln l (gt U j)).toNat)), by rw [← Int.pow_add]; congr 1; omega⟩
    refine Int.dvd_sub (pw lim (by omega)) (S_dvd _ _ _ _ fun i _ hi => ?_)
    have := j2 i hi
    have := h.bd i hi
    exact pw _ (by omega)
  have := Int.le_of_dvd hr hd
  exact hall j j1 this

/-- the lengths off the depths, cut to the limit -/
theorem off_depths {n lf nd N lim : Nat} {P dl U l : List Int} (h : Dep n 0 P dl) (hT : Tr n (2 * n - 1) lf nd P) (hn : U.length = n) (hl : ∀ i, i < n → ln l (gt U i) = min (gt dl i) lim) :
    ((∀ i, i < n → gt dl i ≤ lim) → Ks lim U l = 2 ^ lim) ∧ ((∃ i, i < n ∧ (lim : Int) < gt dl i) → 2 ^ lim - Ks lim U l < 0) := by
  have n2 := hT.n2
  have hk := kraft h hT (lim + 2 * n) (by omega)
  have hp : (0 : Int) < 2 ^ (2 * n) := Int.pow_pos (by omega)
  have hK : 2 ^ (2 * n) * Ks lim U l = S (fun i => 2 ^ (lim + 2 * n - (min (gt dl i) lim).toNat)) 0 n := by
    unfold Ks
    rw [← S_mul, hn]
    refine S_congr _ _ _ _ fun i _ hi => ?_
    have b := h.bd i (by omega) (by omega)
    unfold un
    rw [hl i hi, ← Int.pow_add]
    congr 1
    omega
  have hK2 : (2 : Int) ^ (lim + 2 * n) = 2 ^ (2 * n) * 2 ^ lim := by rw [← Int.pow_add]; congr 1; omega
  constructor
  · intro hall
    have e : S (fun i => 2 ^ (lim + 2 * n - (min (gt dl i) lim).toNat)) 0 n = S (fun i => 2 ^ (lim + 2 * n - (gt dl i).toNat)) 0 n := by
      refine S_congr _ _ _ _ fun i _ hi => ?_
      rw [Int.min_eq_left (hall i hi)]
    rw [e, hk, hK2] at hK
    exact Int.eq_of_mul_eq_mul_left (by omega) hK
  · rintro ⟨j, j1, j2⟩
    have e : S (fun i => 2 ^ (lim + 2 * n - (gt dl i).toNat)) 0 n < S (fun i => 2 ^ (lim + 2 * n - (min (gt dl i) lim).toNat)) 0 n := by
      refine S_lt _ _ 0 j (by omega) n j1 (fun i _ hi => ?_) ?_
      · have b := h.bd i (by omega) (by omega)
        have : (2 : Nat) ^ (lim + 2 * n - (gt dl i).toNat) ≤ 2 ^ (lim + 2 * n - (min (gt dl i) lim).toNat) := Nat.pow_le_pow_right (by omega) (by omega)
        exact_mod_cast this
      · have b := h.bd j (by omega) (by omega)
        have : (2 : Nat) ^ (lim + 2 * n - (gt dl j).toNat) < 2 ^ (lim + 2 * n - (min (gt dl j) lim).toNat) := Nat.pow_lt_pow_right (by omega) (by omega)
        exact_mod_cast this
    rw [hk, ← hK, hK2] at e
    have := Int.lt_of_mul_lt_mul_left e (by omega)
    omega
end Go.Proofs.YbulkkrgDoor.Hu
