/-
  The iterator (11) of 'LawS0578BYields': it yields the entries in order till the yield says no.
-/
import Derived.Test.YbulkkygYield
namespace Go.Proofs.Ybulkkyg.Ny
open Go.RowKit
set_option linter.unusedVariables false

/-- how many entries are yielded -/
def want (k : Nat) (lim : Int) : Nat := min k (max lim.toNat 1)

set_option maxHeartbeats 1600000 in
theorem iter (B bl bn bt xb k gn on cn gt ot ct : Nat) (cur : Array Value) (lim : Int) (tt : Nat → Int) (vN vT : Value) (w : World) (hG : Got w B bl bn bt xb cur lim 0 0 tt vN vT) (hk1 : 1 ≤ k) (hk : k ≤ 676) (hbn : B ≤ bn) (hbt : B ≤ bt) (hcn : k ≤ cn) (hct : k ≤ ct)
    (hent : Calls Yba.prog 12 #[.pointer (some ⟨xb, 0, none⟩)] w fun e w' => e = .returned (.tuple #[.slice (some ⟨gn, on, none⟩) k cn, .slice (some ⟨gt, ot, none⟩) k ct]) ∧ ∃ n, w' = w.drewN n)
    (hread : ∀ W, W.heap[xb]? = some (.cells cur 31 (0, 0)) → Below B w W → ∀ i, i < k → W.cell? ⟨gn, on + i, none⟩ = some (.string (nm i)) ∧ W.cell? ⟨gt, ot + i, none⟩ = some (.int .i64 (tt i))) :
    Calls Yba.prog 11 #[.func (.func 8) #[] #[.pointer (some ⟨bn, 0, none⟩), .pointer (some ⟨bt, 0, none⟩), .pointer (some ⟨bl, 0, none⟩)], .pointer (some ⟨xb, 0, none⟩)] w fun e w' =>
      e = .returned (.tuple #[]) ∧ (∃ vN' vT', Got w' B bl bn bt xb cur lim (want k lim) (want k lim) tt vN' vT') ∧ Below B w w' := by
  have HR : Hid (∀ W, W.heap[xb]? = some (.cells cur 31 (0, 0)) → Below B w W → ∀ i, i < k → W.cell? ⟨gn, on + i, none⟩ = some (.string (nm i)) ∧ W.cell? ⟨gt, ot + i, none⟩ = some (.int .i64 (tt i))) := hread
  clear hread
  go_enter Yba.func11, Yba.ntmps11
  go_wp2_with fail
  refine hent.mono ?_
  clear hent
  rintro e w1 ⟨rfl, n1, rfl⟩
  go_wp2
  go_loopw [13] (fun i wr => ∃ j : Nat, i = .int .i64 j ∧ j ≤ k ∧ Hid (j = 0 ∨ (j : Int) < lim) ∧ (∃ vN' vT', Got wr B bl bn bt xb cur lim j j tt vN' vT') ∧ Below B w wr) (fun i _ => k - (intOf i).toNat)
  case atStart => exact ⟨0, rfl, Nat.zero_le _, Or.inl rfl, ⟨_, _, hG.drewN _⟩, below_drewN (Below.refl _ _) _⟩
  case round =>
    obtain ⟨j, rfl, hj, hlm, ⟨uN, uT, hGr⟩, hbr⟩ := hrel
    by_cases hlt : j < k
    · have hlti : (j : Int) < k := by omega
      obtain ⟨r1, r2⟩ := HR.out wr hGr.hx hbr j hlt
      by_cases hgo : (j : Int) + 1 < lim
      · go_wp2_with (go_at_call 8; refine (yield B bl bn bt xb j cur lim tt uN uT _ hGr (by omega) hbn hbt).mono ?_; rintro e w' ⟨rfl, hG', hb'⟩)
        go_roundw
        case rel => exact ⟨j + 1, by go_num, by omega, Or.inr (by omega), hG', hbr.trans hb'⟩
        case measure => simp [intOf]; omega
      · have hgo' : decide ((j : Int) + 1 < lim) = false := by simpa using hgo
        have HW : Hid (j + 1 = want k lim) := by
          have := hlm.out
          show j + 1 = min k (max lim.toNat 1)
          omega
        clear hgo
        go_wp2_with (go_at_call 8; refine (yield B bl bn bt xb j cur lim tt uN uT _ hGr (by omega) hbn hbt).mono ?_; rintro e w' ⟨rfl, hG', hb'⟩)
        refine bodyPost_ret (results_none rfl _ _ _) rfl ?_
        rw [← HW.out]
        exact ⟨rfl, hG', hbr.trans hb'⟩
    · have HW : Hid (j = want k lim) := by
        have := hlm.out
        show j = min k (max lim.toNat 1)
        omega
      go_wp2
      go_end0
      rw [← HW.out]
      exact ⟨rfl, ⟨_, _, hGr⟩, hbr⟩
end Go.Proofs.Ybulkkyg.Ny
