/-
  The small walks: the masks (18, 23), the comparison (20).
-/
import Derived.Test.YbulkkrgIxPlain
namespace Go.Proofs.Ybulkkrg.Ix
open Go.RowKit
set_option linter.unusedVariables false
set_option maxHeartbeats 400000 in
theorem mask (cb : Nat) (w : World) (h : cb ≤ 32) :
    Calls Yba.prog 18 #[.int .u64 cb] w fun e w' => e = .returned (.int .u32 (mk cb)) ∧ w' = w := by
  go_enter Yba.func18, Yba.ntmps18
  go_wp2
  go_loop [3, 4] (fun m j => ∃ (k : Nat) (x : Int), m = .int .u32 x ∧ j = .int .u64 (k : Int) ∧ k ≤ cb ∧ 0 ≤ x ∧ x < 4294967296 ∧ Hid (x = mk k)) (fun _ j => cb - (intOf j).toNat)
  case atStart => exact ⟨0, 0, rfl, rfl, by omega, by omega, by omega, by simp [Hid, mk]⟩
  case round =>
    obtain ⟨k, x, rfl, rfl, hk, hx, hx2, HX⟩ := hrel
    by_cases hlt : k < cb
    · have hi : (k : Int) < cb := by omega
      have hi2 : (k : Int) < 32 := by omega
      go_wp2
      go_round
      case rel =>
        have hs := mk_step k (by omega)
        have hb := mk_bd (k + 1) (by omega)
        rw [← HX.out] at hs
        refine ⟨k + 1, _, rfl, by go_num, by omega, ?_, ?_, ?_⟩
        · rw [hs]; exact hb.1
        · rw [hs]; exact hb.2
        · exact hs
      case measure => simp [intOf]; omega
    · have hi : ¬ (k : Int) < cb := by omega
      go_wp2
      go_ret
      obtain rfl : k = cb := by omega
      rw [HX.out]
      exact ⟨rfl, rfl⟩
set_option maxHeartbeats 400000 in
theorem checkMask (xb cb : Nat) (w : World) (h : cb ≤ 32) (hc : w.cell? ⟨xb, 5, none⟩ = some (.int .u64 cb)) :
    Calls Yba.prog 23 #[.pointer (some ⟨xb, 0, none⟩)] w fun e w' => e = .returned (.int .u32 (mk cb)) ∧ w' = w := by
  go_enter Yba.func23, Yba.ntmps23
  go_wp2
  go_ret
  have := mk_shl cb h
  refine ⟨?_, rfl⟩
  rw [← this]; rfl
set_option maxHeartbeats 400000 in
theorem cmp (x y : Int) (w : World) (h : 0 ≤ x) (h1 : x < 4294967296) (h2 : 0 ≤ y) (h3 : y < 4294967296) :
    Calls Yba.prog 20 #[.int .u32 x, .int .u32 y] w fun e w' => e = .returned (.int .i64 (x / 16777216 - y / 16777216)) ∧ w' = w := by
  go_enter Yba.func20, Yba.ntmps20
  go_wp2
  go_ret
  exact ⟨rfl, rfl⟩
end Go.Proofs.Ybulkkrg.Ix
