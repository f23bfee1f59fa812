/-
  The walk of 'zzs0565arun' (8): what is looked up is what is expected.
-/
import Derived.Test.YbulkkrgIxLookup
namespace Go.Proofs.Ybulkkrg.Ix
open Go.RowKit Go.Proofs.Ybulkkrg.Srt
set_option linter.unusedVariables false

theorem Idx.below {w w' : World} {B xb sb : Nat} {ao : Option Addr} {N c top cb off stride n : Nat} {L : List Int} (h : Idx w B xb sb ao N c top cb off stride n L) (hb : Below w.heap.size w w') : Idx w' B xb sb ao N c top cb off stride n L := by
  refine ⟨?_, ?_, ?_, ?_, ?_, Row_below h.row hb, h.cb32, h.off10, h.ents, h.srd⟩
  · rw [hb.cell (World.block_lt_of_cell? _ _ h.x0)]; exact h.x0
  · rw [hb.cell (World.block_lt_of_cell? _ _ h.x3)]; exact h.x3
  · rw [hb.cell (World.block_lt_of_cell? _ _ h.x4)]; exact h.x4
  · rw [hb.cell (World.block_lt_of_cell? _ _ h.x5)]; exact h.x5
  · rw [hb.cell (World.block_lt_of_cell? _ _ h.x6)]; exact h.x6

/-- two owned rows of one list are equal -/
theorem same_true (B1 B2 : Nat) (v1 v2 : Value) (R : List Int) (w : World) (h1 : w.ownsRow B1 3 1 v1 R.length (ei R)) (h2 : w.ownsRow B2 3 1 v2 R.length (ei R)) (hl : R.length ≤ 100000) :
    Calls Yba.prog 16 #[v1, v2] w fun e w' => e = .returned (.bool true) ∧ Below w.heap.size w w' := by
  have cellsOf : ∀ {B : Nat} {v : Value} {g cap : Nat}, w.ownsRow B 3 1 v R.length (ei R) → v = .slice (some ⟨g, 0, none⟩) R.length cap → ∀ j, j < R.length → w.cell? ⟨g, 0 + j, none⟩ = some (.int .i64 (R.getD j 0)) := by
    intro B v g cap h hv j hj
    subst hv
    have := h.cells rfl j (.int .i64 (R.getD j 0)) (by simp [ei, hj])
    rwa [Addr.add_lit] at this
  by_cases h0 : R.length = 0
  · rw [h0] at h1 h2
    obtain ⟨a1, c1, e1⟩ : ∃ a1 c1, v1 = .slice a1 0 c1 := by
      rcases own_shape h1 with ⟨h, _⟩ | ⟨g, cap, h, _⟩
      · exact ⟨_, _, h⟩
      · exact ⟨_, _, h⟩
    obtain ⟨a2, c2, e2⟩ : ∃ a2 c2, v2 = .slice a2 0 c2 := by
      rcases own_shape h2 with ⟨h, _⟩ | ⟨g, cap, h, _⟩
      · exact ⟨_, _, h⟩
      · exact ⟨_, _, h⟩
    rw [e1, e2]
    refine (Yba.slices_Equal_int_empty a1 a2 c1 0 c2 w (by omega)).mono ?_
    rintro e w' ⟨rfl, rfl⟩
    exact ⟨rfl, Below.refl _ _⟩
  · obtain ⟨g1, c1, e1⟩ : ∃ g1 c1, v1 = .slice (some ⟨g1, 0, none⟩) R.length c1 := by
      rcases own_shape h1 with ⟨_, h⟩ | ⟨g, cap, h, _⟩
      · omega
      · exact ⟨_, _, h⟩
    obtain ⟨g2, c2, e2⟩ : ∃ g2 c2, v2 = .slice (some ⟨g2, 0, none⟩) R.length c2 := by
      rcases own_shape h2 with ⟨_, h⟩ | ⟨g, cap, h, _⟩
      · omega
      · exact ⟨_, _, h⟩
    have q1 := cellsOf h1 e1
    have q2 := cellsOf h2 e2
    rw [e1, e2]
    refine (Yba.slices_Equal_int g1 0 R.length c1 g2 0 R.length c2 R R w (by omega) (by omega) (by omega) (by omega) q1 q2).mono ?_
    rintro e w' ⟨rfl, q, rfl⟩
    refine ⟨by simp, below_drewN (Below.refl _ _) _⟩

set_option maxHeartbeats 1600000 in
set_option maxRecDepth 100000 in
theorem run (bt : Nat → Int) (ao : Option Addr) (g N c stride top ck : Nat) (useRaw : Bool) (raw : Int) (pick : Nat) (lim : Int) (da : Option Addr) (dn dc : Nat) (D : List Int) (w : World) (hN2 : N ≤ 1024) (hNc : N ≤ c) (hst : 1 ≤ stride) (hst2 : stride ≤ 4) (htop : top ≤ 32) (hck : ck ≤ 255)
    (hz : ∀ j, 0 ≤ bt j ∧ bt j ≤ 255) (hao : 6 ≤ N → ao = some ⟨g, 0, none⟩ ∧ ∀ j, j < N → w.cell? ⟨g, j, none⟩ = some (.int .u8 (bt j)))
    (hr0 : 0 ≤ raw) (hr1 : raw < 4294967296) (hp : pick ≤ 65535) (hlim0 : -9223372036854775808 ≤ lim) (hlim1 : lim ≤ 9223372036854775807) (hD : Dst w da dn dc D) (hdn : dn ≤ 1024) :
    Calls Yba.prog 8 #[.slice ao N c, .int .i64 stride, .int .u64 top, .int .u64 ck, .bool useRaw, .int .u32 raw, .int .u16 pick, .int .i64 lim, .slice da dn dc] w fun e w' => e = .returned (.bool true) ∧ Below w.heap.size w w' := by
  obtain ⟨n, hn⟩ : ∃ n, n = if 6 ≤ N then (N - 6) / stride + 1 else 0 := ⟨_, rfl⟩
  have hcase : (N < 6 ∧ n = 0) ∨ (6 ≤ N ∧ n = (N - 6) / stride + 1 ∧ ao = some ⟨g, 0, none⟩ ∧ ∀ j, j < N → w.cell? ⟨g, j, none⟩ = some (.int .u8 (bt j))) := by
    by_cases h : 6 ≤ N
    · rw [if_pos h] at hn; exact .inr ⟨h, hn, hao h⟩
    · rw [if_neg h] at hn; exact .inl ⟨by omega, hn⟩
  have hfit : ∀ i, i < n → i * stride + 6 ≤ N := by
    intro i hi
    rcases hcase with ⟨_, h⟩ | ⟨h6, h, _⟩
    · omega
    · have : i * stride ≤ (N - 6) / stride * stride := Nat.mul_le_mul_right _ (by omega)
      have : (N - 6) / stride * stride ≤ N - 6 := Nat.div_mul_le_self _ _
      omega
  have HFit : Hid (∀ i, i < n → i * stride + 6 ≤ N) := hfit
  have hn1 : n ≤ 1024 := by
    rcases hcase with ⟨_, h⟩ | ⟨h6, h, _⟩
    · omega
    · have : (N - 6) / stride ≤ N - 6 := Nat.div_le_self _ _; omega
  have hao2 : 0 < n → 6 ≤ N ∧ ao = some ⟨g, 0, none⟩ ∧ ∀ j, j < N → w.cell? ⟨g, j, none⟩ = some (.int .u8 (bt j)) := by
    intro h0
    rcases hcase with ⟨_, h⟩ | ⟨h6, h, h1⟩
    · omega
    · exact ⟨h6, h1⟩
  have HAO : Hid (0 < n → 6 ≤ N ∧ ao = some ⟨g, 0, none⟩ ∧ ∀ j, j < N → w.cell? ⟨g, j, none⟩ = some (.int .u8 (bt j))) := hao2
  have HD : Hid (Dst w da dn dc D) := hD
  have HCa : Hid _ := hcase
  clear hn hfit hao2 hao hD hcase
  go_enter Yba.func8, Yba.ntmps8
  go_wp2_with fail
  refine (index bt ao g N c stride top ck n w hN2 hNc hst hst2 htop hck hz HCa.out).mono ?_
  rintro e w1 ⟨B, cb, off, xb, sb, L, rfl, hI, hb1⟩
  have hsz1 := hb1.size
  have HI : Hid (Idx w1 B xb sb ao N c top cb off stride n L) := hI
  clear hI
  obtain ⟨bb, hbb⟩ : ∃ bb : Bool, bb = (!useRaw && decide (0 < n)) := ⟨_, rfl⟩
  have HB : Hid (bb = (!useRaw && decide (0 < n))) := hbb
  clear hbb
  go_upto_region 3 with fail
  go_cut [40] (fun x wx => x = .bool bb ∧ w1 = wx)
  case first =>
    as_aux_lemma =>
    cases useRaw
    · by_cases h0 : 0 < n
      · have h0i : (0 : Int) < n := by omega
        obtain rfl : bb = true := by rw [HB.out]; simpa using h0
        go_wp2_with fail
        go_meet
        case rel => exact ⟨by first | rfl | (simp; omega), rfl⟩
      · have h0i : ¬ (0 : Int) < n := by omega
        obtain rfl : bb = false := by rw [HB.out]; simpa using h0
        go_wp2_with fail
        go_meet
        case rel => exact ⟨by first | rfl | (simp; omega), rfl⟩
    · obtain rfl : bb = false := by rw [HB.out]; simp
      go_wp2_with fail
      go_meet
      case rel => exact ⟨by first | rfl | (simp; omega), rfl⟩
  case rest =>
  obtain ⟨rfl, rfl⟩ := hcut
  go_upto_if 40 with fail
  go_cut [21] (fun x wx => ∃ k : Int, x = .int .u32 k ∧ 0 ≤ k ∧ k < 4294967296 ∧ Below w1.heap.size w1 wx)
  case first =>
    as_aux_lemma =>
    by_cases hb : bb = true
    · subst hb
      have h0 : 0 < n := by have := HB.out; simp at this; omega
      obtain ⟨hN6, rfl, hc⟩ := HAO.out h0
      obtain ⟨i, hi⟩ : ∃ i, i = pick % n := ⟨_, rfl⟩
      have hin : i < n := by rw [hi]; exact Nat.mod_lt _ h0
      have hii : Int.tmod (pick : Int) n = i := by rw [hi, Int.tmod_eq_emod_of_nonneg (by omega)]; simp
      have hf := HFit.out i hin
      obtain ⟨p, hpp⟩ : ∃ p, p = i * stride := ⟨_, rfl⟩
      rw [← hpp] at hf
      have hpi : (i : Int) * stride = p := by rw [hpp]; simp
      have HC : Hid (∀ j, j < N → w1.cell? ⟨g, j, none⟩ = some (.int .u8 (bt j))) := fun j hj => by rw [hb1.cell (World.block_lt_of_cell? _ _ (hc j hj))]; exact hc j hj
      clear hi hpp hc
      go_wp2_with fail
      refine (key bt N g p (c - p) w1 hf HC.out hz).mono ?_
      rintro e2 w2 ⟨rfl, hb2⟩
      have hkb := kf_bd bt N p
      go_wp2_with fail
      go_meet
      case rel => exact ⟨_, rfl, hkb.1, hkb.2, hb2⟩
    · obtain rfl : bb = false := by simpa using hb
      go_wp2_with fail
      go_meet
      case rel => exact ⟨raw, rfl, hr0, hr1, Below.refl _ _⟩
  case rest =>
  obtain ⟨k, rfl, hk0, hk1, hb2⟩ := hcut
  have hb2' : Below w.heap.size w wc := hb1.trans (hb2.mono hsz1)
  have hsz2 := hb2'.size
  have HI2 : Hid (Idx wc B xb sb ao N c top cb off stride n L) := HI.out.below hb2
  have HAO2 : Hid (0 < n → 6 ≤ N ∧ ao = some ⟨g, 0, none⟩ ∧ ∀ j, j < N → wc.cell? ⟨g, j, none⟩ = some (.int .u8 (bt j))) := fun h0 =>
    let ⟨a1, a2, a3⟩ := HAO.out h0
    ⟨a1, a2, fun j hj => by rw [hb2'.cell (World.block_lt_of_cell? _ _ (a3 j hj))]; exact a3 j hj⟩
  clear HI HB
  go_wp2_with fail
  refine (expect bt ao g N c B xb sb top cb off stride n L da dn dc D k lim wc hN2 hNc hst hst2 htop hz HI2.out hn1 HAO2.out hk0 hk1 hlim0 hlim1 (HD.out.below hb2') hdn).mono ?_
  rintro e3 w3 ⟨v3, R, rfl, hR, hown3, hb3⟩
  have hb3' : Below w.heap.size w w3 := hb2'.trans (hb3.mono hsz2)
  have hsz3 := hb3'.size
  have HI3 : Hid (Idx w3 B xb sb ao N c top cb off stride n L) := HI2.out.below hb3
  have HAO3 : Hid (0 < n → 6 ≤ N ∧ ao = some ⟨g, 0, none⟩ ∧ ∀ j, j < N → w3.cell? ⟨g, j, none⟩ = some (.int .u8 (bt j))) := fun h0 =>
    let ⟨a1, a2, a3⟩ := HAO.out h0
    ⟨a1, a2, fun j hj => by rw [hb3'.cell (World.block_lt_of_cell? _ _ (a3 j hj))]; exact a3 j hj⟩
  have HR : Hid (R = D ++ cut dn lim (fd (cnd bt N stride off cb (k * 2 ^ top % 4294967296) k) off stride L)) := hR
  clear hR
  go_wp2_with fail
  refine (clone da dn dc D w3 (HD.out.below hb3') hdn).mono ?_
  rintro e4 w4 ⟨v4, rfl, hown4, hb4⟩
  go_wp2_with fail
  refine (lookup bt ao g N c B xb sb top cb off stride n L v4 dn D k lim w3 w4 hN2 hNc hst hst2 htop hz HI3.out hn1 HAO3.out hk0 hk1 hlim0 hlim1 hb4 hown4 HD.out.1 hdn).mono ?_
  rintro e5 w5 ⟨v5, R2, rfl, hR2, hown5, hb5⟩
  obtain rfl : R = R2 := HR.out.trans hR2.symm
  clear hR2
  have hown3' := owns_below hown3 hb5
  have hRl : R.length ≤ 100000 := by
    have h1 := cut_le dn lim (fd (cnd bt N stride off cb (k * 2 ^ top % 4294967296) k) off stride L)
    have h2 := fd_le (cnd bt N stride off cb (k * 2 ^ top % 4294967296) k) off stride L
    have h3 := HI3.out.row.len
    have h4 := HD.out.1
    rw [HR.out, List.length_append]
    omega
  have hb5' : Below w.heap.size w w5 := hb3'.trans (hb5.mono hsz3)
  clear hown3 hown4 hb4 hb5
  go_wp2_with fail
  refine (same_true _ _ v5 v3 R w5 hown5 hown3' hRl).mono ?_
  rintro e6 w6 ⟨rfl, hb6⟩
  go_wp2
  go_ret
  exact ⟨rfl, hb5'.trans (hb6.mono hb5'.size)⟩
end Go.Proofs.Ybulkkrg.Ix
