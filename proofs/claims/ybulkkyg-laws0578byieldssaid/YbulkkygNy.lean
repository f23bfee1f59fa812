/-
  The small callees of 'LawS0578BYields': a name, the comparison of strings, the binary search.
-/
import Derived.Test.YbulkkygRows
import Derived.WalkKit
import Derived.ProofKit
namespace Go.Proofs.Ybulkkyg.Ny
open Go.RowKit
set_option linter.unusedVariables false

/-- the i-th name -/
def nm (i : Nat) : ByteArray := strOfNums [97 + (i : Int) / 26, 97 + (i : Int) % 26]

set_option maxHeartbeats 400000 in
theorem name (i : Nat) (w : World) (h : i < 676) :
    Calls Yba.prog 4 #[.int .i64 i] w fun e w' => e = .returned (.string (nm i)) ∧ w' = w.alloc (.cells #[.int .u8 (97 + (i : Int) / 26), .int .u8 (97 + (i : Int) % 26)] 5) := by
  have hcv := run_convert_bytes_arg (P := Yba.prog) (w.alloc (.cells #[.int .u8 (97 + (i : Int) / 26), .int .u8 (97 + (i : Int) % 26)] 5)) 39 5 Yba.underlying39 Yba.underlying5 w.heap.size 0 2 2 [97 + (i : Int) / 26, 97 + (i : Int) % 26] rfl
    (fun j hj => by
      match j, hj with
      | 0, _ => simp
      | 1, _ => simp) 9 Yba.underlying9
  have hi : (i : Int) < 676 := by omega
  go_enter Yba.func4, Yba.ntmps4
  go_wp2
  go_ret
  exact ⟨rfl, rfl⟩

theorem less (a b : ByteArray) (w : World) :
    Calls Yba.prog 15 #[.string a, .string b] w fun e w' => e = .returned (.bool (Op.bytesLess a.toList b.toList)) ∧ w' = w := by
  go_enter Yba.func15, Yba.ntmps15
  go_wp2
  go_ret
  exact ⟨rfl, rfl⟩

theorem nan (a : ByteArray) (w : World) :
    Calls Yba.prog 16 #[.string a] w fun e w' => e = .returned (.bool false) ∧ w' = w := by
  go_enter Yba.func16, Yba.ntmps16
  go_wp2
  go_ret
  exact ⟨rfl, rfl⟩

/-- what the search hands back: some index and some answer -/
def Found (e : Ending) : Prop := ∃ (j : Int) (b : Bool), e = .returned (.tuple #[.int .i64 j, .bool b])

set_option maxHeartbeats 1600000 in
theorem search (g n c : Nat) (f : Nat → ByteArray) (t : ByteArray) (w : World) (hn : n ≤ 1000) (hnc : n ≤ c) (hc : ∀ j, j < n → w.cell? ⟨g, j, none⟩ = some (.string (f j))) :
    Calls Yba.prog 10 #[.slice (some ⟨g, 0, none⟩) n c, .string t] w fun e w' => Found e ∧ w' = w := by
  go_enter Yba.func10, Yba.ntmps10
  go_wp2
  go_loop [7, 8] (fun i j => ∃ a b : Nat, i = .int .i64 a ∧ j = .int .i64 b ∧ a ≤ b ∧ b ≤ n) (fun i j => (intOf j).toNat - (intOf i).toNat)
  case atStart => exact ⟨0, n, rfl, rfl, Nat.zero_le _, Nat.le_refl _⟩
  case round =>
    obtain ⟨a, b, rfl, rfl, hab, hbn⟩ := hrel
    by_cases hlt : a < b
    · have hlti : (a : Int) < b := by omega
      have hm := hc ((a + b) / 2) (by omega)
      cases hless : Op.bytesLess (f ((a + b) / 2)).toList t.toList
      · go_wp2_with (go_at_call 15; refine (less _ _ _).mono ?_; rintro e w' ⟨rfl, rfl⟩)
        go_round
        case rel => exact ⟨a, (a + b) / 2, by go_num, by go_num, by omega, by omega⟩
        case measure => simp [intOf]; omega
      · go_wp2_with (go_at_call 15; refine (less _ _ _).mono ?_; rintro e w' ⟨rfl, rfl⟩)
        go_round
        case rel => exact ⟨(a + b) / 2 + 1, b, by go_num, by go_num, by omega, by omega⟩
        case measure => simp [intOf]; omega
    · by_cases hin : a < n
      · have hini : (a : Int) < n := by omega
        have hm := hc a hin
        cases heq : ((f a).toList == t.toList)
        · go_wp2_with (go_at_call 16; refine (nan _ _).mono ?_; rintro e w' ⟨rfl, rfl⟩)
          go_ret2
          exact ⟨⟨_, _, rfl⟩, rfl⟩
        · go_wp2_with (go_at_call 16; refine (nan _ _).mono ?_; rintro e w' ⟨rfl, rfl⟩)
          go_ret2
          exact ⟨⟨_, _, rfl⟩, rfl⟩
      · have hini : ¬ (a : Int) < n := by omega
        go_wp2
        go_ret2
        exact ⟨⟨_, _, rfl⟩, rfl⟩
end Go.Proofs.Ybulkkyg.Ny
