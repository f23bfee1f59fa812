/-
  The walks of 'storedBits' (9) and of its closed form 'zzs0565cmodel' (10): both compute 'Sb.total'.
-/
import Derived.Test.YbulkkrgRows
import Derived.Test.YbulkkrgSbPlain
import Derived.WalkKit
import Derived.ProofKit
import Derived.Laws.BitsAllLaws
namespace Go.Proofs.Ybulkkrg.SbWalk
open Go.ChangeShapes Go.WideShapes Go.ChangeAt Go.RowKit
set_option linter.unusedVariables false

theorem u64w (x : Int) : IntKind.u64.wrap x = x % 18446744073709551616 := by
  first | exact IntKind.wrap_u64 x | simp [IntKind.wrap, IntKind.signed, IntKind.bits]

theorem pad1 (q : Int) (h0 : 0 ≤ q) (h1 : q < 18446744073709551616) : (wrap64 (8 - (wrap64 (IntKind.u64.wrap (q + 3))).tmod 8)).tmod 8 = Sb.pad q := by
  rw [u64w]
  unfold Sb.pad
  have e : (q + 3) % 18446744073709551616 = q + 3 ∨ (q + 3) % 18446744073709551616 = q + 3 - 18446744073709551616 := by omega
  have t : ∀ x : Int, x.tmod 8 = if 0 ≤ x then x % 8 else -((-x) % 8) := by
    intro x
    by_cases hx : 0 ≤ x
    · rw [if_pos hx]; exact Int.tmod_eq_emod_of_nonneg hx
    · rw [if_neg hx]
      have := Int.neg_tmod (a := -x) (b := 8)
      rw [Int.neg_neg] at this
      rw [this, Int.tmod_eq_emod_of_nonneg (by omega)]
  rw [t, t]
  unfold wrap64
  split <;> split <;> omega

theorem pad2 (P : Int) : wrap64 (bits BinOp.and IntKind.u64 (IntKind.u64.wrap (5 - P)) 7) = Sb.pad P := by
  rw [u64w, u64_and _ _ (by omega) (by omega) (by omega) (by omega)]
  unfold Sb.pad
  rw [show (7 : Int).toNat = 7 from rfl, nat_mask3]
  unfold wrap64
  omega

theorem wrap_id (x : Int) (h0 : -9223372036854775808 ≤ x) (h1 : x ≤ 9223372036854775807) : wrap64 x = x := by unfold wrap64; omega

theorem ret_int {k : IntKind} {a b : Int} (h : a = b) : Ending.returned (.int k a) = .returned (.int k b) := by rw [h]
theorem val_int {k : IntKind} {a b : Int} (h : a = b) : Value.int k a = .int k b := by rw [h]

set_option maxHeartbeats 400000 in
theorem sb (N P : Int) (w : World) (h1 : -1099511627776 ≤ N) (h2 : N ≤ 1073741824) (p1 : 0 ≤ P) (p2 : P < 18446744073709551616) :
    Calls Yba.prog 9 #[.int .i64 N, .int .u64 P] w fun e w' => e = .returned (.int .i64 (Sb.total N P)) ∧ w' = w := by
  go_enter Yba.func9, Yba.ntmps9
  go_wp2
  go_loop [0, 1, 5] (fun n p b => ∃ m q c : Int, n = .int .i64 m ∧ p = .int .u64 q ∧ b = .int .i64 c ∧ -1099511627776 ≤ m ∧ m ≤ N ∧ (m = N ∨ 1 ≤ m) ∧ 0 ≤ q ∧ q < 18446744073709551616 ∧ 0 ≤ c ∧ c ≤ 9 * (N - m) ∧ Hid (c + Sb.total m q = Sb.total N P)) (fun n _ _ => (intOf n).toNat)
  case atStart => exact ⟨N, P, 0, rfl, rfl, rfl, by omega, by omega, by omega, by omega, by omega, by omega, by omega, by simp [Hid]⟩
  case round =>
    obtain ⟨m, q, c, rfl, rfl, rfl, hm1, hm2, hm3, hq1, hq2, hc1, hc2, HT⟩ := hrel
    have hp := Sb.pad_bd q
    by_cases hlt : m ≤ 65535
    · go_wp2
      go_ret
      refine ⟨ret_int ?_, rfl⟩
      rw [pad1 q hq1 hq2, ← HT.out, Sb.total_low m q hlt, wrap_id _ (by omega) (by omega)]
      omega
    · go_wp2
      refine ⟨⟨m - 65535, 0, c + 524315 + Sb.pad q, rfl, rfl, val_int ?_, by omega, by omega, by omega, by omega, by omega, by omega, by omega, ?_⟩, by simp [intOf]; omega⟩
      · rw [pad1 q hq1 hq2, wrap_id _ (by omega) (by omega)]
      · show c + 524315 + Sb.pad q + Sb.total (m - 65535) 0 = Sb.total N P
        rw [← HT.out, Sb.total_step m q (by omega)]; omega

theorem mo (N P : Int) (w : World) (h1 : -1099511627776 ≤ N) (h2 : N ≤ 1073741824) (p1 : 0 ≤ P) (p2 : P < 18446744073709551616) :
    Calls Yba.prog 10 #[.int .i64 N, .int .u64 P] w fun e w' => e = .returned (.int .i64 (Sb.total N P)) ∧ w' = w := by
  have hp := Sb.pad_bd P
  by_cases hlt : N ≤ 65535
  · go_enter Yba.func10, Yba.ntmps10
    go_wp2
    go_ret
    refine ⟨ret_int ?_, rfl⟩
    rw [pad2 P, Sb.total_low N P hlt, wrap_id _ (by omega) (by omega)]
  · go_enter Yba.func10, Yba.ntmps10
    go_wp2
    go_ret
    refine ⟨ret_int ?_, rfl⟩
    have ht : Sb.total N P = 35 * ((N + 65534) / 65535) + 8 * N + Sb.pad P + 5 * ((N + 65534) / 65535 - 1) := by unfold Sb.total; rw [if_neg (by omega)]
    rw [pad2 P, ht, wrap_id (_ + Sb.pad P) (by omega) (by omega), wrap_id _ (by omega) (by omega), show N + 65535 - 1 = N + 65534 from by omega]

end Go.Proofs.Ybulkkrg.SbWalk
