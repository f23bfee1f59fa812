/-
  The walk of 'symMergeCmpFunc' (22) where one of the two pieces has one element.
-/
import Derived.Test.YbulkkrgDoorSrtIns
namespace Go.Proofs.YbulkkrgDoor.Srt
open Go.RowKit
set_option linter.unusedVariables false

set_option maxHeartbeats 3200000 in
set_option maxRecDepth 100000 in
theorem symLeft (fb : Nat) (B g n cap a m b : Nat) (hm : m = a + 1) (key : Int → Int) (V : Int → Prop) (l : List Int) (w0 w : World) (hC : Cmp fb g w0 key V) (hS0 : Same g w0 w) (hV : ∀ x ∈ l, V x) (h : Row w B g n cap l) (hn : n ≤ 100000) (h1 : m < b) (h2 : b ≤ n) (hD : Srd key m b l) :
    Calls Ybad.prog 22 #[.slice (some ⟨g, 0, none⟩) n cap, .int .i64 a, .int .i64 m, .int .i64 b, .func (.func 17) #[] #[.pointer (some ⟨fb, 0, none⟩)]] w fun e w' => e = .returned (.tuple #[]) ∧ (∃ c, Row w' B g n cap c ∧ Prm a b l c ∧ Srd key a b c) ∧ Same g w w' := by
  have hcap := h.cap
  have HC : Hid (Cmp fb g w0 key V) := hC
  have HV : Hid (∀ x ∈ l, V x) := hV
  have HD : Hid (Srd key m b l) := hD
  have hlen := h.len
  have hmb : ((m : Int) - a == 1) = true := by rw [beq_iff_eq]; omega
  have HM1 : Hid (m = a + 1) := hm
  have hm1 : a < m := by omega
  clear hC hV hD hm
  go_enter Ybad.func22, Ybad.ntmps22
  go_wp2
  go_loopw [10, 11] (fun x y wr => ∃ i j : Nat, x = .int .i64 i ∧ y = .int .i64 j ∧ m ≤ i ∧ i ≤ j ∧ j ≤ b ∧ Hid (∀ q, m ≤ q → q < i → key (gt l q) < key (gt l a)) ∧ Hid (∀ q, j ≤ q → q < b → key (gt l a) ≤ key (gt l q)) ∧ Row wr B g n cap l ∧ Same g w wr) (fun x y _ => (intOf y).toNat - (intOf x).toNat)
  case atStart => exact ⟨m, b, by go_num, rfl, by omega, by omega, by omega, fun q _ _ => by omega, fun q _ _ => by omega, h, Same.refl _ _⟩
  case round =>
    obtain ⟨i, j, rfl, rfl, hi, hij, hj, HL, HR, hR, hS⟩ := hrel
    obtain ⟨wp, hwp⟩ : ∃ wp : World, wp = wr := ⟨_, rfl⟩
    rw [← hwp] at hR hS ⊢
    clear hwp
    by_cases hlt : i < j
    · have hlti : (i : Int) < j := by omega
      have c1 := hR.cell ((i + j) / 2) (by omega)
      have c2 := hR.cell a (by omega)
      have hcmp := fun (q : Nat) => HC.out (gt l ((i + j) / 2)) (gt l a) (wp.drewN q) (HV.out _ (gt_mem l _ (by omega))) (HV.out _ (gt_mem l _ (by omega))) ((hS0.trans hS).drewN q)
      have HCM : Hid _ := hcmp
      clear hcmp
      by_cases hless : key (gt l ((i + j) / 2)) - key (gt l a) < 0
      · have HL' : Hid (∀ q, m ≤ q → q < (i + j) / 2 + 1 → key (gt l q) < key (gt l a)) := fun q hq1 hq2 => by
          by_cases e : q = (i + j) / 2
          · subst e; omega
          · have := HD.out q ((i + j) / 2) hq1 (by omega) (by omega); omega
        go_wp2
        go_quiet (first | (go_at_call 17; refine Calls.quiet_of (HCM.out _)))
        go_wp2
        go_roundw
        case rel => exact ⟨(i + j) / 2 + 1, j, by go_num, by go_num, by omega, by omega, by omega, HL', HR, hR.drewN _, hS.drewN _⟩
        case measure => simp [intOf]; omega
      · have HR' : Hid (∀ q, (i + j) / 2 ≤ q → q < b → key (gt l a) ≤ key (gt l q)) := fun q hq1 hq2 => by
          by_cases e : q = (i + j) / 2
          · subst e; omega
          · have := HD.out ((i + j) / 2) q (by omega) (by omega) hq2; omega
        go_wp2
        go_quiet (first | (go_at_call 17; refine Calls.quiet_of (HCM.out _)))
        go_wp2
        go_roundw
        case rel => exact ⟨i, (i + j) / 2, by go_num, by go_num, by omega, by omega, by omega, HL, HR', hR.drewN _, hS.drewN _⟩
        case measure => simp [intOf]; omega
    · obtain rfl : i = j := by omega
      go_wp2
      go_loopw [13] (fun x wr => ∃ k : Nat, x = .int .i64 k ∧ a ≤ k ∧ k + 1 ≤ i ∧ (∃ c, Row wr B g n cap c ∧ MvR l a k c ∧ Prm a b l c) ∧ Same g w wr) (fun x _ => i - (intOf x).toNat)
      case atStart => exact ⟨a, by go_num, by omega, by omega, ⟨l, hR, MvR.start l a, Prm.refl _ _ _⟩, hS⟩
      case round =>
        clear hR hS
        obtain ⟨k, rfl, hk1, hk2, ⟨c, hR, hM, hP⟩, hS⟩ := hrel
        obtain ⟨wq, hwq⟩ : ∃ wq : World, wq = wr := ⟨_, rfl⟩
        rw [← hwq] at hR hS ⊢
        clear hwq
        have hcl : c.length = n := hR.len
        by_cases hkl : k + 1 < i
        · have hkli : (k : Int) < i - 1 := by omega
          have c1 := hR.cell k (by omega)
          have c2 := hR.cell (k + 1) (by omega)
          have f1 := hR.free k
          have f2 := hR.free (k + 1)
          have hs := hR.swap k (k + 1)
          have hM' := hM.step hk1 (by omega)
          have hP' := hP.trans (Prm.swp c k (k + 1) (by omega) (by omega) (by omega) (by omega) (by omega))
          have HM : Hid (MvR l a (k + 1) (swp c k (k + 1))) := hM'
          have HP : Hid (Prm a b l (swp c k (k + 1))) := hP'
          clear hM hM' hP hP'
          go_wp2
          go_region
          go_wp2
          go_roundw
          case rel => exact ⟨k + 1, by go_num, by omega, by omega, ⟨_, hs.1.drew, HM.out, HP.out⟩, (hS.trans hs.2).drew⟩
          case measure => simp [intOf]; omega
        · have hkli : ¬ (k : Int) < i - 1 := by omega
          obtain rfl : k = i - 1 := by omega
          go_wp2
          refine bodyPost_ret (results_none rfl _ _ _) rfl ?_
          exact ⟨rfl, ⟨c, hR, hP, hM.srd (by have := HM1.out; omega) hj (by rw [← HM1.out]; exact HD.out) (fun q hq => HL.out q (by have := HM1.out; omega)) HR.out⟩, hS⟩

set_option maxHeartbeats 3200000 in
set_option maxRecDepth 100000 in
theorem symRight (fb : Nat) (B g n cap a m b : Nat) (hm : b = m + 1) (key : Int → Int) (V : Int → Prop) (l : List Int) (w0 w : World) (hC : Cmp fb g w0 key V) (hS0 : Same g w0 w) (hV : ∀ x ∈ l, V x) (h : Row w B g n cap l) (hn : n ≤ 100000) (h1 : a + 1 < m) (h2 : b ≤ n) (hD : Srd key a m l) :
    Calls Ybad.prog 22 #[.slice (some ⟨g, 0, none⟩) n cap, .int .i64 a, .int .i64 m, .int .i64 b, .func (.func 17) #[] #[.pointer (some ⟨fb, 0, none⟩)]] w fun e w' => e = .returned (.tuple #[]) ∧ (∃ c, Row w' B g n cap c ∧ Prm a b l c ∧ Srd key a b c) ∧ Same g w w' := by
  have hcap := h.cap
  have HC : Hid (Cmp fb g w0 key V) := hC
  have HV : Hid (∀ x ∈ l, V x) := hV
  have HD : Hid (Srd key a m l) := hD
  have hlen := h.len
  have hma : ((m : Int) - a == 1) = false := by rw [beq_eq_false_iff_ne]; omega
  have hmb : ((b : Int) - m == 1) = true := by rw [beq_iff_eq]; omega
  have HM1 : Hid (b = m + 1) := hm
  have hm1 : m < b := by omega
  clear hC hV hD hm
  go_enter Ybad.func22, Ybad.ntmps22
  go_wp2
  go_loopw [14, 15] (fun x y wr => ∃ i j : Nat, x = .int .i64 i ∧ y = .int .i64 j ∧ a ≤ i ∧ i ≤ j ∧ j ≤ m ∧ Hid (∀ q, a ≤ q → q < i → key (gt l q) ≤ key (gt l m)) ∧ Hid (∀ q, j ≤ q → q < m → key (gt l m) < key (gt l q)) ∧ Row wr B g n cap l ∧ Same g w wr) (fun x y _ => (intOf y).toNat - (intOf x).toNat)
  case atStart => exact ⟨a, m, by go_num, rfl, by omega, by omega, by omega, fun q _ _ => by omega, fun q _ _ => by omega, h, Same.refl _ _⟩
  case round =>
    obtain ⟨i, j, rfl, rfl, hi, hij, hj, HL, HR, hR, hS⟩ := hrel
    obtain ⟨wp, hwp⟩ : ∃ wp : World, wp = wr := ⟨_, rfl⟩
    rw [← hwp] at hR hS ⊢
    clear hwp
    by_cases hlt : i < j
    · have hlti : (i : Int) < j := by omega
      have c1 := hR.cell ((i + j) / 2) (by omega)
      have c2 := hR.cell m (by omega)
      have hcmp := fun (q : Nat) => HC.out (gt l m) (gt l ((i + j) / 2)) (wp.drewN q) (HV.out _ (gt_mem l _ (by omega))) (HV.out _ (gt_mem l _ (by omega))) ((hS0.trans hS).drewN q)
      have HCM : Hid _ := hcmp
      clear hcmp
      by_cases hless : key (gt l m) - key (gt l ((i + j) / 2)) < 0
      · have HR' : Hid (∀ q, (i + j) / 2 ≤ q → q < m → key (gt l m) < key (gt l q)) := fun q hq1 hq2 => by
          by_cases e : q = (i + j) / 2
          · subst e; omega
          · have := HD.out ((i + j) / 2) q (by omega) (by omega) hq2; omega
        go_wp2
        go_quiet (first | (go_at_call 17; refine Calls.quiet_of (HCM.out _)))
        go_wp2
        go_roundw
        case rel => exact ⟨i, (i + j) / 2, by go_num, by go_num, by omega, by omega, by omega, HL, HR', hR.drewN _, hS.drewN _⟩
        case measure => simp [intOf]; omega
      · have HL' : Hid (∀ q, a ≤ q → q < (i + j) / 2 + 1 → key (gt l q) ≤ key (gt l m)) := fun q hq1 hq2 => by
          by_cases e : q = (i + j) / 2
          · subst e; omega
          · have := HD.out q ((i + j) / 2) hq1 (by omega) (by omega); omega
        have hlb : decide (key (gt l m) - key (gt l ((i + j) / 2)) < 0) = false := by simpa using hless
        clear hless
        go_wp2
        go_quiet (first | (go_at_call 17; refine Calls.quiet_of (HCM.out _)))
        go_wp2
        go_roundw
        case rel => exact ⟨(i + j) / 2 + 1, j, by go_num, by go_num, by omega, by omega, by omega, HL', HR, hR.drewN _, hS.drewN _⟩
        case measure => simp [intOf]; omega
    · obtain rfl : i = j := by omega
      go_wp2
      go_loopw [17] (fun x wr => ∃ k : Nat, x = .int .i64 k ∧ i ≤ k ∧ k ≤ m ∧ (∃ c, Row wr B g n cap c ∧ MvL l m k c ∧ Prm a b l c) ∧ Same g w wr) (fun x _ => (intOf x).toNat)
      case atStart => exact ⟨m, by go_num, by omega, by omega, ⟨l, hR, MvL.start l m, Prm.refl _ _ _⟩, hS⟩
      case round =>
        clear hR hS
        obtain ⟨k, rfl, hk1, hk2, ⟨c, hR, hM, hP⟩, hS⟩ := hrel
        obtain ⟨wq, hwq⟩ : ∃ wq : World, wq = wr := ⟨_, rfl⟩
        rw [← hwq] at hR hS ⊢
        clear hwq
        have hcl : c.length = n := hR.len
        by_cases hkl : i < k
        · have hkli : (i : Int) < k := by omega
          have c1 := hR.cell k (by omega)
          have c2 := hR.cell (k - 1) (by omega)
          have f1 := hR.free k
          have f2 := hR.free (k - 1)
          have hs := hR.swap k (k - 1)
          have hM' := hM.step (by omega) hk2 (by omega)
          have hP' := hP.trans (Prm.swp c k (k - 1) (by omega) (by omega) (by omega) (by omega) (by omega))
          have HM : Hid (MvL l m (k - 1) (swp c k (k - 1))) := hM'
          have HP : Hid (Prm a b l (swp c k (k - 1))) := hP'
          clear hM hM' hP hP'
          go_wp2
          go_region
          go_wp2
          go_roundw
          case rel => exact ⟨k - 1, by go_num, by omega, by omega, ⟨_, hs.1.drew, HM.out, HP.out⟩, (hS.trans hs.2).drew⟩
          case measure => simp [intOf]; omega
        · have hkli : ¬ (i : Int) < k := by omega
          obtain rfl : k = i := by omega
          go_wp2
          refine bodyPost_ret (results_none rfl _ _ _) rfl ?_
          exact ⟨rfl, ⟨c, hR, hP, by rw [HM1.out]; exact hM.srd hi hj HD.out HL.out HR.out⟩, hS⟩
end Go.Proofs.YbulkkrgDoor.Srt
