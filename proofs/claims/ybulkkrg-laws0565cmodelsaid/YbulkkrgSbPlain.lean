/-
  The plain law of 'storedBits' against its closed form: no Go in sight.
-/
namespace Go.Proofs.Ybulkkrg.Sb

/-- the padding behind a 3-bit header that is written at p bits pending -/
def pad (p : Int) : Int := (5 - p) % 8

/-- the closed form -/
def total (n p : Int) : Int := if n ≤ 65535 then 35 + 8 * n + pad p else 35 * ((n + 65534) / 65535) + 8 * n + pad p + 5 * ((n + 65534) / 65535 - 1)

theorem pad_bd (p : Int) : 0 ≤ pad p ∧ pad p ≤ 7 := by unfold pad; omega

theorem total_low (n p : Int) (h : n ≤ 65535) : total n p = 35 + 8 * n + pad p := by unfold total; rw [if_pos h]

theorem total_step (n p : Int) (h : 65535 < n) : total n p = 35 + 8 * 65535 + pad p + total (n - 65535) 0 := by
  unfold total
  rw [if_neg (by omega)]
  by_cases h2 : n - 65535 ≤ 65535
  · rw [if_pos h2]
    have : (n + 65534) / 65535 = 2 := by omega
    rw [this]
    have : pad 0 = 5 := by decide
    omega
  · rw [if_neg h2]
    have : pad 0 = 5 := by decide
    omega

end Go.Proofs.Ybulkkrg.Sb
