/-
  Plain facts on decimal digits and on a reversal by exchanges: no Go in sight.
-/
import Derived.Lib.ItoaNum
import Derived.Lib.AppendIntMem
namespace Go.Proofs.YbulkkygDoor.Dig
open Go.Lib

/-- the lowest k digits, lowest first -/
def lows (u k : Nat) : List UInt8 := (List.range k).map fun t => dg u t

theorem lows_length (u k : Nat) : (lows u k).length = k := by simp [lows]
theorem lows_succ (u k : Nat) : lows u (k + 1) = lows u k ++ [dg u k] := by simp [lows, List.range_succ]

theorem reverse_lows (u : Nat) : (lows u (nDigits u)).reverse = decDigits u := by
  rw [decDigits_eq, lows]
  apply List.ext_getElem
  · simp
  · intro i h1 h2
    simp

theorem nDigits_of (u k : Nat) (h : k = 0 ∨ 10 ^ k ≤ u) (h2 : u / 10 ^ (k + 1) = 0) : nDigits u = k + 1 := by
  have hp : 0 < 10 ^ (k + 1) := Nat.pow_pos (by decide)
  have h3 : u < 10 ^ (k + 1) := by
    rcases Nat.lt_or_ge u (10 ^ (k + 1)) with h | h
    · exact h
    · have := Nat.div_pos h hp; omega
  rcases h with rfl | h
  · exact nDigits_small (by simpa using h3)
  · exact nDigits_unique k u h h3

theorem next (u k : Nat) (h2 : u / 10 ^ (k + 1) ≠ 0) : 10 ^ (k + 1) ≤ u := by
  rcases Nat.lt_or_ge u (10 ^ (k + 1)) with h | h
  · exact absurd (Nat.div_eq_of_lt h) h2
  · exact h

/-- the list with its first a and its last a elements exchanged -/
def sw (a : Nat) (l : List UInt8) : List UInt8 := (List.range l.length).map fun t => if t < a ∨ l.length - a ≤ t then l.getD (l.length - 1 - t) 0 else l.getD t 0

theorem sw_length (a : Nat) (l : List UInt8) : (sw a l).length = l.length := by simp [sw]
theorem sw_at (a : Nat) (l : List UInt8) (t : Nat) (h : t < l.length) : (sw a l)[t]? = some (if t < a ∨ l.length - a ≤ t then l.getD (l.length - 1 - t) 0 else l.getD t 0) := by
  simp [sw, h]
theorem sw_zero (l : List UInt8) : sw 0 l = l := by
  apply List.ext_getElem?
  intro t
  by_cases h : t < l.length
  · rw [sw_at 0 l t h, if_neg (by omega)]; simp [h]
  · rw [List.getElem?_eq_none (by rw [sw_length]; omega), List.getElem?_eq_none (by omega)]
theorem sw_end (a : Nat) (l : List UInt8) (h1 : l.length ≤ 2 * a + 1) : sw a l = l.reverse := by
  apply List.ext_getElem?
  intro t
  by_cases h : t < l.length
  · rw [sw_at a l t h, List.getElem?_reverse h]
    split
    · rw [List.getD_eq_getElem?_getD, List.getElem?_eq_getElem (by omega)]; simp
    · have : t = l.length - 1 - t := by omega
      rw [← this, List.getD_eq_getElem?_getD, List.getElem?_eq_getElem (by omega)]; simp
  · rw [List.getElem?_eq_none (by rw [sw_length]; omega), List.getElem?_eq_none (by simp; omega)]
theorem sw_step (a : Nat) (l : List UInt8) (h : 2 * a + 1 < l.length) :
    ((sw a l).set a (l.getD (l.length - 1 - a) 0)).set (l.length - 1 - a) (l.getD a 0) = sw (a + 1) l := by
  apply List.ext_getElem?
  intro t
  by_cases ht : t < l.length
  · rw [sw_at (a + 1) l t ht]
    by_cases e1 : l.length - 1 - a = t
    · subst e1
      rw [List.getElem?_set_self (by simp [sw_length]; omega), if_pos (by omega)]
      congr 2; omega
    · rw [List.getElem?_set_ne e1]
      by_cases e2 : a = t
      · subst e2
        rw [List.getElem?_set_self (by simp [sw_length]; omega), if_pos (by omega)]
      · rw [List.getElem?_set_ne e2, sw_at a l t ht]
        by_cases c : t < a ∨ l.length - a ≤ t
        · rw [if_pos c, if_pos (by omega)]
        · rw [if_neg c, if_neg (by omega)]
  · rw [List.getElem?_eq_none (by simp [sw_length]; omega), List.getElem?_eq_none (by rw [sw_length]; omega)]

theorem byteCells_set (l : List UInt8) (i : Nat) (b : UInt8) : (byteCells l).set i (.int .u8 (b.toNat : Int)) = byteCells (l.set i b) := by simp [byteCells, List.map_set]
theorem byteCells_append (l m : List UInt8) : byteCells (l ++ m) = byteCells l ++ byteCells m := by simp [byteCells]
theorem byteCells_at (l : List UInt8) (i : Nat) : (byteCells l)[i]? = l[i]?.map fun b => Value.int .u8 (b.toNat : Int) := by simp [byteCells]

theorem dg_toNat (u k : Nat) : (dg u k).toNat = 48 + u / 10 ^ k % 10 := by
  unfold dg
  have : 48 + u / 10 ^ k % 10 < 256 := by omega
  simp only [UInt8.toNat_ofNat']
  omega

end Go.Proofs.YbulkkygDoor.Dig
