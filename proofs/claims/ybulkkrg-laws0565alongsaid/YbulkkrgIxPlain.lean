/-
  The plain side of the index laws: masks, entries, the filter of a stretch, and the stop at the limit.
-/
import Derived.Test.YbulkkrgKey
namespace Go.Proofs.Ybulkkrg.Ix
open Go.RowKit
set_option linter.unusedVariables false

/-- the mask of the top cb bits of 32 -/
def mk (cb : Nat) : Int := 4294967296 - 2 ^ (32 - cb)

theorem mk_fin : ∀ c : Fin 33, (4294967295 * 2 ^ (32 - c.val) % 4294967296 : Int) = mk c.val ∧ bits .and .u32 (mk c.val) 4278190080 = mk (min c.val 8) ∧ (0 ≤ mk c.val ∧ mk c.val < 4294967296) ∧ mk c.val = ((2 ^ c.val - 1) * 2 ^ (32 - c.val) : Nat) := by decide +kernel
theorem mk_step_fin : ∀ c : Fin 32, bits .or .u32 (mk c.val) (2 ^ (31 - c.val) % 4294967296) = mk (c.val + 1) := by decide +kernel
theorem mk_shl (c : Nat) (h : c ≤ 32) : (4294967295 * 2 ^ (32 - c) % 4294967296 : Int) = mk c := (mk_fin ⟨c, by omega⟩).1
theorem mk_top (c : Nat) (h : c ≤ 32) : bits .and .u32 (mk c) 4278190080 = mk (min c 8) := (mk_fin ⟨c, by omega⟩).2.1
theorem mk_bd (c : Nat) (h : c ≤ 32) : 0 ≤ mk c ∧ mk c < 4294967296 := (mk_fin ⟨c, by omega⟩).2.2.1
theorem mk_nat (c : Nat) (h : c ≤ 32) : mk c = ((2 ^ c - 1) * 2 ^ (32 - c) : Nat) := (mk_fin ⟨c, by omega⟩).2.2.2
theorem mk_step (c : Nat) (h : c < 32) : bits .or .u32 (mk c) (2 ^ (31 - c) % 4294967296) = mk (c + 1) := mk_step_fin ⟨c, h⟩

theorem nat_and_mk (x c : Nat) (h : c ≤ 32) (hx : x < 2 ^ 32) : x &&& ((2 ^ c - 1) * 2 ^ (32 - c)) = x / 2 ^ (32 - c) * 2 ^ (32 - c) := by
  apply Nat.eq_of_testBit_eq
  intro i
  rw [Nat.testBit_and, Nat.testBit_mul_two_pow, Nat.testBit_mul_two_pow, Nat.testBit_two_pow_sub_one, Nat.testBit_div_two_pow]
  by_cases h1 : 32 - c ≤ i
  · simp only [h1, decide_true, Bool.true_and]
    have e : i - (32 - c) + (32 - c) = i := by omega
    rw [e]
    by_cases h2 : i < 32
    · have : i - (32 - c) < c := by omega
      simp [this]
    · have : x.testBit i = false := Nat.testBit_lt_two_pow (Nat.lt_of_lt_of_le hx (Nat.pow_le_pow_right (by omega) (by omega)))
      simp [this]
  · simp [h1]

theorem and_mk (x : Int) (c : Nat) (h : c ≤ 32) (h0 : 0 ≤ x) (h1 : x < 4294967296) : bits .and .u32 x (mk c) = x / 2 ^ (32 - c) * 2 ^ (32 - c) := by
  have hb := mk_bd c h
  rw [u32_and x (mk c) h0 h1 hb.1 hb.2, mk_nat c h, Int.toNat_natCast, nat_and_mk x.toNat c h (by omega)]
  have : x = (x.toNat : Int) := by omega
  rw [this]; simp

theorem and_low (x : Int) (t : Nat) (h : t ≤ 31) (h0 : 0 ≤ x) (h1 : x < 4294967296) : bits .and .u32 x (2 ^ t - 1) = x % 2 ^ t := by
  have hp : (2 : Nat) ^ t ≤ 2 ^ 31 := Nat.pow_le_pow_right (by omega) h
  have hp1 : 0 < (2 : Nat) ^ t := Nat.pow_pos (by omega)
  have e : (2 ^ t - 1 : Int) = ((2 ^ t - 1 : Nat) : Int) := by simp [Int.natCast_sub hp1]
  rw [e, u32_and x _ h0 h1 (by omega) (by omega), Int.toNat_natCast, Nat.and_two_pow_sub_one_eq_mod]
  have : x = (x.toNat : Int) := by omega
  rw [this]; simp

theorem or_low (q s : Nat) (i : Nat) (hi : i < 2 ^ s) (hq : q * 2 ^ s < 4294967296) (hs : s ≤ 32) : bits .or .u32 ((q * 2 ^ s : Nat) : Int) (i : Int) = ((q * 2 ^ s + i : Nat) : Int) := by
  have hp : (2 : Nat) ^ s ≤ 2 ^ 32 := Nat.pow_le_pow_right (by omega) hs
  rw [u32_or _ _ (by omega) (by omega) (by omega) (by omega), Int.toNat_natCast, Int.toNat_natCast]
  congr 1
  rw [Nat.mul_comm, Nat.two_pow_add_eq_or_of_lt hi]
/-- the entry of the i-th indexed offset -/
def en (bt : Nat → Int) (N stride top cb i : Nat) : Int := kf bt N (i * stride) * 2 ^ top % 4294967296 / 2 ^ (32 - cb) * 2 ^ (32 - cb) + i

theorem en_bd (bt : Nat → Int) (N stride top cb off i : Nat) (hcb : cb + off ≤ 32) (hi : i < 2 ^ off) : 0 ≤ en bt N stride top cb i ∧ en bt N stride top cb i < 4294967296 ∧ en bt N stride top cb i % 2 ^ off = i := by
  unfold en
  generalize hy : kf bt N (i * stride) * 2 ^ top % 4294967296 = y
  have h0 : 0 ≤ y := by rw [← hy]; omega
  have h1 : y < 4294967296 := by rw [← hy]; omega
  obtain ⟨u, rfl⟩ : ∃ u : Nat, y = u := ⟨y.toNat, by omega⟩
  have hu : u < 2 ^ 32 := by omega
  have e : ((u : Int) / 2 ^ (32 - cb) * 2 ^ (32 - cb) + i) = ((u / 2 ^ (32 - cb) * 2 ^ (32 - cb) + i : Nat) : Int) := by simp
  have e2 : ((2 : Int) ^ off) = ((2 ^ off : Nat) : Int) := by simp
  rw [e, e2]
  have hs : 2 ^ (32 - cb) = 2 ^ (32 - cb - off) * 2 ^ off := by rw [← Nat.pow_add]; congr 1; omega
  have hs2 : (2 : Nat) ^ 32 = 2 ^ cb * 2 ^ (32 - cb) := by rw [← Nat.pow_add]; congr 1; omega
  have hq : u / 2 ^ (32 - cb) < 2 ^ cb := by
    rw [Nat.div_lt_iff_lt_mul (Nat.pow_pos (by omega))]; omega
  have hq2 : (u / 2 ^ (32 - cb) + 1) * 2 ^ (32 - cb) ≤ 2 ^ cb * 2 ^ (32 - cb) := Nat.mul_le_mul_right _ (by omega)
  have hi2 : i < 2 ^ (32 - cb) := Nat.lt_of_lt_of_le hi (Nat.pow_le_pow_right (by omega) (by omega))
  rw [Nat.add_mul, Nat.one_mul, ← hs2] at hq2
  refine ⟨by omega, by omega, ?_⟩
  rw [← Int.natCast_emod]
  congr 1
  rw [hs, ← Nat.mul_assoc, Nat.add_comm, Nat.add_mul_mod_self_right, Nat.mod_eq_of_lt hi]

/-- the round's own form of the entry -/
theorem en_or (bt : Nat → Int) (N stride top cb off i : Nat) (hcb : cb + off ≤ 32) (hi : i < 2 ^ off) :
    bits .or .u32 (bits .and .u32 (kf bt N (i * stride) * 2 ^ top % 4294967296) (mk cb)) (i : Int) = en bt N stride top cb i := by
  unfold en
  generalize hy : kf bt N (i * stride) * 2 ^ top % 4294967296 = y
  have h0 : 0 ≤ y := by rw [← hy]; omega
  have h1 : y < 4294967296 := by rw [← hy]; omega
  rw [and_mk y cb (by omega) h0 h1]
  obtain ⟨u, rfl⟩ : ∃ u : Nat, y = u := ⟨y.toNat, by omega⟩
  have hd : u / 2 ^ (32 - cb) * 2 ^ (32 - cb) ≤ u := Nat.div_mul_le_self _ _
  have hi2 : i < 2 ^ (32 - cb) := Nat.lt_of_lt_of_le hi (Nat.pow_le_pow_right (by omega) (by omega))
  have := or_low (u / 2 ^ (32 - cb)) (32 - cb) i hi2 (by omega) (by omega)
  simpa using this

/-- does the entry hold k's check bits, and is its key k? -/
def cnd (bt : Nat → Int) (N stride off cb : Nat) (y k e : Int) : Bool :=
  decide (e / 2 ^ (32 - cb) * 2 ^ (32 - cb) = y / 2 ^ (32 - cb) * 2 ^ (32 - cb)) && decide (kf bt N ((e % 2 ^ off).toNat * stride) = k)
/-- the offsets that are found in a stretch -/
def fd (p : Int → Bool) (off stride : Nat) (l : List Int) : List Int := (l.filter p).map fun e => e % 2 ^ off * stride
theorem fd_snoc (p : Int → Bool) (off stride : Nat) (l : List Int) (e : Int) : fd p off stride (l ++ [e]) = if p e = true then fd p off stride l ++ [e % 2 ^ off * stride] else fd p off stride l := by
  unfold fd; by_cases h : p e = true <;> simp [List.filter_append, h]
theorem fd_append (p : Int → Bool) (off stride : Nat) (l m : List Int) : fd p off stride (l ++ m) = fd p off stride l ++ fd p off stride m := by simp [fd]
theorem fd_none (p : Int → Bool) (off stride : Nat) (l : List Int) (h : ∀ e ∈ l, p e = false) : fd p off stride l = [] := by
  unfold fd; rw [List.filter_eq_nil_iff.2 (by intro e he; simp [h e he])]; rfl
theorem fd_le (p : Int → Bool) (off stride : Nat) (l : List Int) : (fd p off stride l).length ≤ l.length := by
  unfold fd; rw [List.length_map]; exact List.length_filter_le _ _

/-- what is appended: all, or what the limit leaves -/
def cut (d : Nat) (lim : Int) (G : List Int) : List Int := if (d : Int) < lim ∧ lim - d < G.length then G.take (lim - d).toNat else G
theorem cut_all (d : Nat) (lim : Int) (G : List Int) (h : lim ≤ d ∨ (d : Int) + G.length < lim) : cut d lim G = G := by
  unfold cut; rw [if_neg (by omega)]
theorem cut_hit (d : Nat) (lim : Int) (P S : List Int) (hp : 0 < P.length) (h : (d : Int) + P.length = lim) : cut d lim (P ++ S) = P := by
  unfold cut
  split
  · rw [show (lim - d).toNat = P.length by omega, List.take_left]
  · rename_i hn
    rw [List.length_append] at hn
    have : S.length = 0 := by omega
    rw [List.eq_nil_of_length_eq_zero this, List.append_nil]

/-! ### sorted by the top byte -/
theorem div_le (e y : Int) (s : Nat) (he : 0 ≤ e) (h : e / 2 ^ s * 2 ^ s = y / 2 ^ s * 2 ^ s) : e / 2 ^ s = y / 2 ^ s := by
  have hp : (2 : Int) ^ s ≠ 0 := by have : (0 : Int) < 2 ^ s := Int.pow_pos (by omega); omega
  exact Int.eq_of_mul_eq_mul_right hp h

theorem mul_le (y : Int) (s : Nat) : y / 2 ^ s * 2 ^ s ≤ y := by
  have hp : (2 : Int) ^ s ≠ 0 := by have : (0 : Int) < 2 ^ s := Int.pow_pos (by omega); omega
  exact Int.ediv_mul_le y hp

/-- an entry below check's top byte holds other check bits -/
theorem cnd_low (bt : Nat → Int) (N stride off cb : Nat) (y k e : Int) (h : e / 16777216 < y / 2 ^ (32 - cb) * 2 ^ (32 - cb) / 16777216) : cnd bt N stride off cb y k e = false := by
  unfold cnd
  rw [Bool.and_eq_false_iff]
  left
  rw [decide_eq_false_iff_not]
  intro hc
  rw [← hc] at h
  have := mul_le e (32 - cb)
  omega

/-- the top check bits of an entry -/
theorem div_div (y : Int) (a b : Nat) : y / 2 ^ a / 2 ^ b = y / 2 ^ (a + b) := by
  rw [Int.pow_add]
  have h : (0 : Int) ≤ 2 ^ a := Int.le_of_lt (Int.pow_pos (by omega))
  first | exact Int.ediv_ediv_of_nonneg h | exact Int.ediv_ediv h

theorem div_check (y : Int) (s t : Nat) (h : s ≤ t) : y / 2 ^ s * 2 ^ s / 2 ^ t = y / 2 ^ t := by
  obtain ⟨u, rfl⟩ : ∃ u, t = s + u := ⟨t - s, by omega⟩
  have hp : (2 : Int) ^ s ≠ 0 := by have : (0 : Int) < 2 ^ s := Int.pow_pos (by omega); omega
  rw [← div_div, Int.mul_ediv_cancel _ hp, div_div]

/-- the early stop: an entry from check's top byte on whose top check bits are not check's: no entry of that top byte or a greater one holds check's bits -/
theorem cnd_stop (bt : Nat → Int) (N stride off cb : Nat) (y k e f : Int) (hcb : cb ≤ 32) (h0 : y / 2 ^ (32 - cb) * 2 ^ (32 - cb) / 16777216 ≤ e / 16777216)
    (h1 : e / 2 ^ (32 - min cb 8) ≠ y / 2 ^ (32 - cb) * 2 ^ (32 - cb) / 2 ^ (32 - min cb 8)) (h2 : e / 16777216 ≤ f / 16777216) : cnd bt N stride off cb y k f = false := by
  unfold cnd
  rw [Bool.and_eq_false_iff]
  left
  rw [decide_eq_false_iff_not]
  intro hc
  have h24 : (16777216 : Int) = 2 ^ 24 := by decide
  rw [h24] at h0 h2
  obtain ⟨u, hu⟩ : ∃ u, 32 - min cb 8 = 24 + u := ⟨32 - min cb 8 - 24, by omega⟩
  have hp : (0 : Int) < 2 ^ u := Int.pow_pos (by omega)
  have a1 := Int.ediv_le_ediv hp h0
  have a2 := Int.ediv_le_ediv hp h2
  rw [div_div, div_div, ← hu] at a1 a2
  have a3 : f / 2 ^ (32 - min cb 8) = y / 2 ^ (32 - min cb 8) := by rw [← div_check f (32 - cb) _ (by omega), hc, div_check _ _ _ (by omega)]
  rw [div_check _ _ _ (by omega)] at a1 h1
  omega
end Go.Proofs.Ybulkkrg.Ix
