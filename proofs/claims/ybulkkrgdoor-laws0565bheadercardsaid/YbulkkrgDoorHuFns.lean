/-
  The comparison (17) and the closure 'lightest' (18).
-/
import Derived.Test.YbulkkrgDoorSrtTop
import Derived.Test.YbulkkrgDoorHuLens
import Derived.Deep.QuietTactic
import Derived.BigQuiet
namespace Go.Proofs.YbulkkrgDoor.Hu
open Go.RowKit Go.Proofs.YbulkkrgDoor.Srt
set_option linter.unusedVariables false
set_option maxHeartbeats 800000 in
theorem cmp (fb nb fo N c x y : Nat) (fx fy : Int) (W : World) (hb : W.cell? ⟨fb, 0, none⟩ = some (.slice (some ⟨nb, fo, none⟩) N c)) (hx : x < N) (hy : y < N) (cx : W.cell? ⟨nb, fo + x, none⟩ = some (.int .u32 fx)) (cy : W.cell? ⟨nb, fo + y, none⟩ = some (.int .u32 fy))
    (x0 : 0 ≤ fx) (x1 : fx < 4294967296) (y0 : 0 ≤ fy) (y1 : fy < 4294967296) :
    Calls Ybad.prog 17 #[.int .i64 x, .int .i64 y, .pointer (some ⟨fb, 0, none⟩)] W fun e W' => e = .returned (.int .i64 (fx - fy)) ∧ ∃ n, W' = W.drewN n := by
  go_enter Ybad.func17, Ybad.ntmps17
  go_wp2
  go_quiet (fail)
  go_wp2
  go_ret
  exact ⟨rfl, _, rfl⟩
set_option maxHeartbeats 800000 in
theorem lightest (lb nb ob wb g n m lf nd : Nat) (W : World) (hn : n ≤ 1000) (hm : m ≤ 2 * n - 1) (h1 : W.cell? ⟨lb, 0, none⟩ = some (.int .i64 lf)) (h2 : W.cell? ⟨nb, 0, none⟩ = some (.int .i64 n)) (h3 : W.cell? ⟨ob, 0, none⟩ = some (.int .i64 nd)) (h4 : W.cell? ⟨wb, 0, none⟩ = some (.slice (some ⟨g, 0, none⟩) (2 * n - 1) (2 * n - 1)))
    (f1 : W.frozen? ⟨lb, 0, none⟩ = false) (f3 : W.frozen? ⟨ob, 0, none⟩ = false) (hw : ∀ j, j < 2 * n - 1 → ∃ x : Int, W.cell? ⟨g, j, none⟩ = some (.int .u64 x) ∧ 0 ≤ x ∧ x < 18446744073709551616) (hok : lf < n ∨ nd < m) (hlf : lf ≤ n) (hnd : nd ≤ m) :
    Calls Ybad.prog 18 #[.int .i64 m, .pointer (some ⟨lb, 0, none⟩), .pointer (some ⟨nb, 0, none⟩), .pointer (some ⟨ob, 0, none⟩), .pointer (some ⟨wb, 0, none⟩)] W fun e W' => ∃ a k : Nat, e = .returned (.int .i64 a) ∧
      ((a = lf ∧ lf < n ∧ W' = (W.drewN k).setCell ⟨lb, 0, none⟩ (.int .i64 ((lf + 1 : Nat) : Int))) ∨ (a = nd ∧ nd < m ∧ W' = (W.drewN k).setCell ⟨ob, 0, none⟩ (.int .i64 ((nd + 1 : Nat) : Int)))) := by
  have HW : Hid _ := hw
  clear hw
  by_cases hl : lf < n
  · have hli : (lf : Int) < n := by omega
    by_cases hd : m ≤ nd
    · have hdi : (m : Int) ≤ nd := by omega
      go_enter Ybad.func18, Ybad.ntmps18
      go_wp2
      go_quiet (fail)
      go_wp2
      go_ret
      exact ⟨lf, _, rfl, .inl ⟨rfl, hl, rfl⟩⟩
    · have hdi : ¬ (m : Int) ≤ nd := by omega
      obtain ⟨x, cx, x0, x1⟩ := HW.out lf (by omega)
      obtain ⟨y, cy, y0, y1⟩ := HW.out nd (by omega)
      have hl2 : (lf : Int) < ((2 * n - 1 : Nat) : Int) := by omega
      have hd2 : (nd : Int) < ((2 * n - 1 : Nat) : Int) := by omega
      by_cases hc : x ≤ y
      · go_enter Ybad.func18, Ybad.ntmps18
        go_wp2
        go_quiet (fail)
        go_wp2
        go_ret
        exact ⟨lf, _, rfl, .inl ⟨rfl, hl, rfl⟩⟩
      · go_enter Ybad.func18, Ybad.ntmps18
        go_wp2
        go_quiet (fail)
        go_wp2
        go_ret
        exact ⟨nd, _, rfl, .inr ⟨rfl, by omega, rfl⟩⟩
  · have hli : ¬ (lf : Int) < n := by omega
    go_enter Ybad.func18, Ybad.ntmps18
    go_wp2
    go_quiet (fail)
    go_wp2
    go_ret
    exact ⟨nd, _, rfl, .inr ⟨rfl, by omega, rfl⟩⟩
end Go.Proofs.YbulkkrgDoor.Hu
