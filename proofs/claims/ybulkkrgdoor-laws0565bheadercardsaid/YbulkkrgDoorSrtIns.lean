/-
  The walk of 'insertionSortCmpFunc' (21).
-/
import Derived.Test.YbulkkrgDoorSrtMem
import Derived.Deep.QuietTactic
import Derived.BigQuiet
namespace Go.Proofs.YbulkkrgDoor.Srt
open Go.RowKit
set_option linter.unusedVariables false

/-- the comparison: it hands back the difference of the keys; it only reads -/
def Cmp (fb : Nat) (g : Nat) (w0 : World) (key : Int → Int) (V : Int → Prop) : Prop :=
  ∀ (x y : Int) (W : World), V x → V y → Same g w0 W → Calls Ybad.prog 17 #[.int .i64 x, .int .i64 y, .pointer (some ⟨fb, 0, none⟩)] W fun e W' => e = .returned (.int .i64 (key x - key y)) ∧ ∃ n, W' = W.drewN n

theorem all_of {V : Int → Prop} {l c : List Int} {a b : Nat} (hV : ∀ x ∈ l, V x) (h : Prm a b l c) (hb : b ≤ l.length) : ∀ x ∈ c, V x := fun x hx => hV x (h.mem hb hx)

set_option maxHeartbeats 3200000 in
theorem insertion (fb : Nat) (B g n cap a b : Nat) (key : Int → Int) (V : Int → Prop) (l : List Int) (w0 w : World) (hC : Cmp fb g w0 key V) (hS0 : Same g w0 w) (hV : ∀ x ∈ l, V x) (h : Row w B g n cap l) (hn : n ≤ 100000) (h1 : a ≤ b) (h2 : b ≤ n) :
    Calls Ybad.prog 21 #[.slice (some ⟨g, 0, none⟩) n cap, .int .i64 a, .int .i64 b, .func (.func 17) #[] #[.pointer (some ⟨fb, 0, none⟩)]] w fun e w' => e = .returned (.tuple #[]) ∧ (∃ c, Row w' B g n cap c ∧ Prm a b l c ∧ Srd key a b c) ∧ Same g w w' := by
  have hcap := h.cap
  have HC : Hid (Cmp fb g w0 key V) := hC
  have HV : Hid (∀ x ∈ l, V x) := hV
  have hlen := h.len
  clear hC hV
  go_enter Ybad.func21, Ybad.ntmps21
  go_wp2
  go_loopw [8] (fun x wr => ∃ i : Nat, x = .int .i64 i ∧ a + 1 ≤ i ∧ i ≤ b + 1 ∧ (∃ c, Row wr B g n cap c ∧ Prm a b l c ∧ Srd key a i c) ∧ Same g w wr) (fun x _ => b + 1 - (intOf x).toNat)
  case atStart => exact ⟨a + 1, by go_num, by omega, by omega, ⟨l, h, Prm.refl _ _ _, Srd.one _ _ _⟩, Same.refl _ _⟩
  case round =>
    obtain ⟨i, rfl, hi1, hi2, ⟨c, hR, hP, hD⟩, hS⟩ := hrel
    obtain ⟨wo, hwo⟩ : ∃ wo : World, wo = wr := ⟨_, rfl⟩
    rw [← hwo] at hR hS ⊢
    clear hwo
    by_cases hlt : i < b
    · have hlti : (i : Int) < b := by omega
      go_wp2
      go_loopw [9] (fun y wr => ∃ j : Nat, y = .int .i64 j ∧ a ≤ j ∧ j ≤ i ∧ (∃ c, Row wr B g n cap c ∧ Prm a b l c ∧ Ins key a i j c) ∧ Same g w wr) (fun y _ => (intOf y).toNat)
      case atStart => exact ⟨i, by go_num, by omega, by omega, ⟨c, hR, hP, Ins.start hD⟩, hS⟩
      case round =>
        clear hR hS hP hD
        obtain ⟨j, rfl, hj1, hj2, ⟨d, hR, hP, hI⟩, hS⟩ := hrel
        obtain ⟨wp, hwp⟩ : ∃ wp : World, wp = wr := ⟨_, rfl⟩
        rw [← hwp] at hR hS ⊢
        clear hwp
        have hdl : d.length = n := hR.len
        by_cases hja : a < j
        · have hjai : (a : Int) < j := by omega
          have c1 := hR.cell j (by omega)
          have c2 := hR.cell (j - 1) (by omega)
          have hVd := all_of HV.out hP (by omega)
          have hv1 : V (gt d j) := hVd _ (gt_mem d j (by omega))
          have hv2 : V (gt d (j - 1)) := hVd _ (gt_mem d (j - 1) (by omega))
          have hcmp := fun (q : Nat) => HC.out (gt d j) (gt d (j - 1)) (wp.drewN q) hv1 hv2 ((hS0.trans hS).drewN q)
          clear hVd hv1 hv2
          have HCM : Hid _ := hcmp
          clear hcmp
          have hs := hR.swap j (j - 1)
          have f1 := hR.free j
          have f2 := hR.free (j - 1)
          by_cases hless : key (gt d j) - key (gt d (j - 1)) < 0
          · have HI : Hid (Ins key a i (j - 1) (swp d j (j - 1))) := hI.step hja hj2 (by omega) (by omega)
            have HP : Hid (Prm a b l (swp d j (j - 1))) := hP.trans (Prm.swp d j (j - 1) (by omega) (by omega) (by omega) (by omega) (by omega))
            clear hI hP
            go_wp2
            go_quiet (first | (go_at_call 17; refine Calls.quiet_of (HCM.out _)))
            go_wp2
            go_region
            go_wp2
            go_roundw
            case rel => exact ⟨j - 1, by go_num, by omega, by omega, ⟨_, (hs.1.drewN nq).drew, HP.out, HI.out⟩, ((hS.trans hs.2).drewN nq).drew⟩
            case measure => simp [intOf]; omega
          · have HD : Hid (Srd key a (i + 1) d) := hI.stop (Or.inr (by omega)) hj1
            clear hI
            go_wp2
            go_quiet (first | (go_at_call 17; refine Calls.quiet_of (HCM.out _)))
            go_wp2
            go_roundw
            case rel => exact ⟨i + 1, by go_num, by omega, by omega, ⟨d, hR.drewN _, hP, HD.out⟩, hS.drewN _⟩
            case measure => simp [intOf]; omega
        · have hjai : decide ((a : Int) < j) = false := by simp; omega
          have HD : Hid (Srd key a (i + 1) d) := hI.stop (Or.inl (by omega)) hj1
          clear hI
          go_wp2
          go_quiet (fail)
          go_wp2
          go_roundw
          case rel => exact ⟨i + 1, by go_num, by omega, by omega, ⟨d, hR.drewN _, hP, HD.out⟩, hS.drewN _⟩
          case measure => simp [intOf]; omega
    · go_wp2
      go_end0
      exact ⟨rfl, ⟨c, hR, hP, hD.widen (Nat.le_refl _) (by omega)⟩, hS⟩
end Go.Proofs.YbulkkrgDoor.Srt
