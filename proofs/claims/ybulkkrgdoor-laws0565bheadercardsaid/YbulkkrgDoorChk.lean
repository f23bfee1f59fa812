/-
  The walks of the checks 'complete' (8) and 'codesok' (9).
-/
import Derived.Test.YbulkkrgDoorFit
namespace Go.Proofs.YbulkkrgDoor.Ck
open Go.RowKit Go.Proofs.YbulkkrgDoor.Srt Go.Proofs.YbulkkrgDoor.Mm Go.Proofs.YbulkkrgDoor.Hu Go.Proofs.YbulkkrgDoor.Co Go.Proofs.YbulkkrgDoor.Fb
set_option linter.unusedVariables false

theorem drewN_add (w : World) (n m : Nat) : w.drewN (n + m) = (w.drewN n).drewN m := by
  first | rfl | simp [World.drewN, Nat.add_assoc]
theorem sum_one {N lim x : Nat} {F l : List Int} (h : Hf N lim F l) (hx : usd F N = [(x : Int)]) : ((usd F N).map (un lim l)).sum = 2 ^ (lim - 1) := by
  obtain ⟨s, h1, h2, h3⟩ := (mem_usd F N (x : Int)).1 (by rw [hx]; exact List.mem_singleton.2 rfl)
  have e : x = s := by omega
  subst e
  have := h.one (by rw [hx]; rfl) x h1 (by omega)
  rw [hx]
  simp [un, ln, this]

set_option maxHeartbeats 1600000 in
set_option maxRecDepth 100000 in
theorem complete (nb fo N c0 lb lo c1 lim : Nat) (F l : List Int) (w : World) (hN : N ≤ 400) (hl1 : 1 ≤ lim) (hl2 : lim ≤ 15) (hFc : ∀ s, s < N → w.cell? ⟨nb, fo + s, none⟩ = some (.int .u32 (gt F s))) (hFb : ∀ s, s < N → 0 ≤ gt F s ∧ gt F s < 4294967296) (hLc : ∀ s, s < N → w.cell? ⟨lb, lo + s, none⟩ = some (.int .u8 (gt l s))) (h : Hf N lim F l) :
    Calls Ybad.prog 8 #[.slice (some ⟨nb, fo, none⟩) N c0, .slice (some ⟨lb, lo, none⟩) N c1, .int .i64 lim] w fun e w' => e = .returned (.bool true) ∧ w' = w := by
  have HFc : Hid (∀ s, s < N → w.cell? ⟨nb, fo + s, none⟩ = some (.int .u32 (gt F s))) := hFc
  have HFb : Hid (∀ s, s < N → 0 ≤ gt F s ∧ gt F s < 4294967296) := hFb
  have HLc : Hid (∀ s, s < N → w.cell? ⟨lb, lo + s, none⟩ = some (.int .u8 (gt l s))) := hLc
  have HH : Hid (Hf N lim F l) := h
  clear hFc hFb hLc h
  go_enter Ybad.func8, Ybad.ntmps8
  go_wp2_with fail
  go_loopw [7, 8, 9] (fun uv sv iv wr => ∃ (i u : Nat) (sm : Int), uv = .int .i64 u ∧ sv = .int .i64 sm ∧ iv = .int .i64 i ∧ i ≤ N ∧ u ≤ i ∧ Hid (u = (usd F i).length) ∧ Hid (sm = ((usd F i).map (un lim l)).sum) ∧ 0 ≤ sm ∧ sm ≤ 32768 * i ∧ w = wr) (fun _ _ iv _ => N - (intOf iv).toNat)
  case atStart => exact ⟨0, 0, 0, rfl, rfl, rfl, by omega, by omega, rfl, rfl, by omega, by omega, rfl⟩
  case round =>
    obtain ⟨i, u, sm, rfl, rfl, rfl, hi, hu, HU, HS, hs0, hs1, rfl⟩ := hrel
    by_cases hlt : i < N
    · have hlti : (i : Int) < N := by omega
      have hcf := HFc.out i hlt
      have hcl := HLc.out i hlt
      have bf := HFb.out i hlt
      obtain ⟨f, hf⟩ : ∃ f : Nat, gt F i = f := ⟨(gt F i).toNat, by omega⟩
      rw [hf] at hcf
      by_cases hf0 : f = 0
      · subst hf0
        rw [HH.out.off i hlt hf] at hcl
        have HUn : Hid (usd F (i + 1) = usd F i) := usd_no F i (by omega)
        clear hf bf
        go_wp2
        go_roundw
        case rel => exact ⟨i + 1, u, sm, rfl, rfl, by go_num, by omega, by omega, by show _ = _; rw [HUn.out]; exact HU.out, by show _ = _; rw [HUn.out]; exact HS.out, hs0, by omega, by first | trivial | rfl⟩
        case measure => simp [intOf]; omega
      · have hf0i : ¬ (f : Int) = 0 := by omega
        have bl := HH.out.bd i hlt (by omega)
        obtain ⟨y, hy⟩ : ∃ y : Nat, gt l i = y := ⟨(gt l i).toNat, by omega⟩
        rw [hy] at hcl bl
        have hy1 : 1 ≤ y := by omega
        have hy0i : ¬ (y : Int) = 0 := by omega
        have hyl : ¬ (lim : Int) < y := by omega
        have hy2 : y ≤ lim := by omega
        obtain ⟨z, hz⟩ : ∃ z : Nat, (lim : Int) - y = z := ⟨lim - y, by omega⟩
        have hz15 : z ≤ 15 := by omega
        have HUn : Hid (usd F (i + 1) = usd F i ++ [(i : Int)]) := usd_yes F i (by omega)
        have HSn : Hid (((usd F (i + 1)).map (un lim l)).sum = sm + 2 ^ z) := by
          show _ = _
          rw [HUn.out, List.map_append, List.sum_append, ← HS.out]
          simp only [List.map_cons, List.map_nil, List.sum_cons, List.sum_nil, Int.add_zero]
          unfold un ln
          rw [Int.toNat_natCast, hy, show lim - (y : Int).toNat = z by omega]
        obtain ⟨hu0, hu1, hu2⟩ := pow_bd z hz15
        obtain ⟨t, ht⟩ : ∃ t : Int, t = 2 ^ z := ⟨_, rfl⟩
        rw [← ht] at hu0 hu1 HSn
        have HW9 : Hid (wrap64 (2 ^ z) = t) := by show _ = t; rw [ht]; exact hu2
        clear hf bf bl hy ht hu2
        go_wp2
        go_roundw
        case rel => exact ⟨i + 1, u + 1, sm + t, by go_num, by (rw [HW9.out]; exact congrArg _ (w64 _ (by omega) (by omega))), by go_num, by omega, by omega, by show _ = _; rw [HUn.out, List.length_append]; have := HU.out; simp; omega, by show _ = _; exact HSn.out.symm, by omega, by omega, by first | trivial | rfl⟩
        case measure => simp [intOf]; omega
    · have hlti : ¬ (i : Int) < N := by omega
      have e : i = N := by omega
      subst e
      by_cases hu0 : u = 0
      · subst hu0
        go_wp2
        go_ret
        exact ⟨rfl, rfl⟩
      have hu0i : ¬ (u : Int) = 0 := by omega
      by_cases hu1 : u = 1
      · subst hu1
        have HE : Hid (sm = 2 ^ (lim - 1)) := by
          obtain ⟨y, hy⟩ := List.length_eq_one_iff.1 HU.out.symm
          obtain ⟨t, _, _, h3⟩ := (mem_usd F i y).1 (by rw [hy]; exact List.mem_singleton.2 rfl)
          show sm = _
          rw [HS.out]; exact sum_one HH.out (x := t) (by rw [hy, h3])
        obtain ⟨z, hz⟩ : ∃ z : Nat, (lim : Int) - 1 = z := ⟨lim - 1, by omega⟩
        have HZ : Hid (z = lim - 1) := by show z = _; omega
        go_wp2
        go_ret
        obtain ⟨_, _, h9⟩ := pow_bd z (by omega)
        refine ⟨?_, rfl⟩
        show Ending.returned (Value.bool (sm == wrap64 (2 ^ z))) = _
        rw [h9, HE.out, HZ.out]; simp
      · have hu1i : ¬ (u : Int) = 1 := by omega
        have HE : Hid (sm = 2 ^ lim) := by
          show sm = _
          rw [HS.out]; exact HH.out.full (by have := HU.out; omega)
        go_wp2
        go_ret
        obtain ⟨_, _, h9⟩ := pow_bd lim hl2
        refine ⟨?_, rfl⟩
        show Ending.returned (Value.bool (sm == wrap64 (2 ^ lim))) = _
        rw [h9, HE.out]; simp

set_option maxHeartbeats 1600000 in
set_option maxRecDepth 100000 in
theorem codesok (b lo co N c1 c2 : Nat) (l c : List Int) (w : World) (hN : N ≤ 400) (hLc : ∀ s, s < N → w.cell? ⟨b, lo + s, none⟩ = some (.int .u8 (gt l s))) (hCc : ∀ s, s < N → w.cell? ⟨b, co + s, none⟩ = some (.int .u16 (gt c s))) (hl : ∀ j, j < N → 0 ≤ gt l j ∧ gt l j ≤ 15) (h : Cd N l c N) :
    Calls Ybad.prog 9 #[.slice (some ⟨b, lo, none⟩) N c1, .slice (some ⟨b, co, none⟩) N c2] w fun e w' => e = .returned (.bool true) ∧ ∃ n, w' = w.drewN n := by
  have HLc : Hid (∀ s, s < N → w.cell? ⟨b, lo + s, none⟩ = some (.int .u8 (gt l s))) := hLc
  have HCc : Hid (∀ s, s < N → w.cell? ⟨b, co + s, none⟩ = some (.int .u16 (gt c s))) := hCc
  have HL : Hid (∀ j, j < N → 0 ≤ gt l j ∧ gt l j ≤ 15) := hl
  have HH : Hid (Cd N l c N) := h
  clear hLc hCc hl h
  go_enter Ybad.func9, Ybad.ntmps9
  go_wp2_with fail
  go_loopw [5] (fun iv wr => ∃ i n : Nat, iv = .int .i64 i ∧ i ≤ N ∧ w.drewN n = wr) (fun iv _ => N - (intOf iv).toNat)
  case atStart => exact ⟨0, 0, rfl, by omega, rfl⟩
  case round =>
    obtain ⟨i, n, rfl, hi, hw⟩ := hrel
    obtain ⟨wo, hwo⟩ : ∃ wo : World, wo = wr := ⟨_, rfl⟩
    rw [← hwo] at hw ⊢
    clear hwo
    by_cases hlt : i < N
    · have hlti : (i : Int) < N := by omega
      have hcl : wo.cell? ⟨b, lo + i, none⟩ = some (.int .u8 (gt l i)) := by rw [← hw]; exact HLc.out i hlt
      have hcc : wo.cell? ⟨b, co + i, none⟩ = some (.int .u16 (gt c i)) := by rw [← hw]; exact HCc.out i hlt
      have bl := HL.out i hlt
      have bc := HH.out.bd i hlt
      obtain ⟨y, hy⟩ : ∃ y : Nat, gt l i = y := ⟨(gt l i).toNat, by omega⟩
      rw [hy] at hcl bl
      by_cases hy0 : y = 0
      · subst hy0
        rw [HH.out.off i hlt hy] at hcc
        clear hy bl bc
        go_wp2
        go_roundw
        case rel => exact ⟨i + 1, n, by go_num, by omega, hw⟩
        case measure => simp [intOf]; omega
      · have hy0i : ¬ (y : Int) = 0 := by omega
        have hft := HH.out.fit i hlt (by omega)
        obtain ⟨v, hv⟩ : ∃ v : Nat, gt c i = v := ⟨(gt c i).toNat, by omega⟩
        rw [hv] at hcc bc hft
        rw [hy, Int.toNat_natCast] at hft
        obtain ⟨hu0, hu1, hu2⟩ := pow_bd y (by omega)
        have hdec : decide (wrap64 (2 ^ y) ≤ (v : Int)) = false := decide_eq_false (by rw [hu2]; omega)
        have hy15 : y ≤ 15 := by omega
        have hv16 : v < 65536 := by omega
        clear hy bl bc hft hv hu0 hu1 hu2
        go_wp2_with fail
        go_quiet (fail)
        go_wp2
        go_roundw
        case rel => exact ⟨i + 1, n + nq, by go_num, by omega, by rw [← hw]; exact drewN_add _ _ _⟩
        case measure => simp [intOf]; omega
    · have hlti : ¬ (i : Int) < N := by omega
      go_wp2
      go_ret
      exact ⟨rfl, n, hw.symm⟩
end Go.Proofs.YbulkkrgDoor.Ck
