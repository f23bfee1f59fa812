/-
  The walk of 'lookupStretch' (14): the search by the top byte, the early stop, the stop at the limit.
-/
import Derived.Test.YbulkkrgIxExpect
namespace Go.Proofs.Ybulkkrg.Ix
open Go.RowKit Go.Proofs.Ybulkkrg.Srt
set_option linter.unusedVariables false

theorem mem_drop_gt {L : List Int} {d : Nat} {x : Int} (h : x ∈ L.drop d) : ∃ j, d ≤ j ∧ j < L.length ∧ x = gt L j := by
  obtain ⟨i, hi, hx⟩ := List.mem_iff_getElem.1 h
  rw [List.length_drop] at hi
  rw [List.getElem_drop] at hx
  refine ⟨d + i, by omega, by omega, ?_⟩
  have := gt_get L (d + i) (by omega)
  rw [List.getElem?_eq_getElem (by omega)] at this
  rw [← hx]; exact Option.some.inj this
theorem mem_take_gt {L : List Int} {d : Nat} {x : Int} (h : x ∈ L.take d) : ∃ j, j < d ∧ j < L.length ∧ x = gt L j := by
  obtain ⟨i, hi, hx⟩ := List.mem_iff_getElem.1 h
  rw [List.length_take] at hi
  rw [List.getElem_take] at hx
  refine ⟨i, by omega, by omega, ?_⟩
  have := gt_get L i (by omega)
  rw [List.getElem?_eq_getElem (by omega)] at this
  rw [← hx]; exact Option.some.inj this
theorem gt_drop (L : List Int) (d i : Nat) : gt (L.drop d) i = gt L (d + i) := by simp [gt]

/-- nothing is lost below the place that the search leaves -/
theorem fd_low (bt : Nat → Int) (N stride off cb low : Nat) (y k wt : Int) (L : List Int) (hw : wt = y / 2 ^ (32 - cb) * 2 ^ (32 - cb)) (h : ∀ j, j < low → j < L.length → gt L j / 16777216 < wt / 16777216) :
    fd (cnd bt N stride off cb y k) off stride L = fd (cnd bt N stride off cb y k) off stride (L.drop low) := by
  conv => lhs; rw [← List.take_append_drop low L]
  rw [fd_append, fd_none _ _ _ (L.take low), List.nil_append]
  intro e he
  obtain ⟨j, h1, h2, rfl⟩ := mem_take_gt he
  exact cnd_low _ _ _ _ _ _ _ _ (by rw [← hw]; exact h j h1 h2)

/-- nothing is lost behind the early stop -/
theorem fd_stop (bt : Nat → Int) (N stride off cb low i : Nat) (y k wt : Int) (L : List Int) (hcb : cb ≤ 32) (hw : wt = y / 2 ^ (32 - cb) * 2 ^ (32 - cb)) (hs : Srd (fun x => x / 16777216) 0 L.length L)
    (hi : low + i < L.length) (h0 : wt / 16777216 ≤ gt L (low + i) / 16777216) (h1 : gt L (low + i) / 2 ^ (32 - min cb 8) * 2 ^ (32 - min cb 8) ≠ wt / 2 ^ (32 - min cb 8) * 2 ^ (32 - min cb 8)) :
    fd (cnd bt N stride off cb y k) off stride (L.drop low) = fd (cnd bt N stride off cb y k) off stride ((L.drop low).take i) := by
  conv => lhs; rw [← List.take_append_drop i (L.drop low)]
  rw [fd_append, fd_none _ _ _ ((L.drop low).drop i), List.append_nil]
  intro e he
  rw [List.drop_drop] at he
  obtain ⟨j, j1, j2, rfl⟩ := mem_drop_gt he
  refine cnd_stop _ _ _ _ _ y k (gt L (low + i)) _ hcb (by rw [← hw]; exact h0) (fun h => h1 (by rw [h, hw])) ?_
  by_cases hj : j = low + i
  · rw [hj]; omega
  · exact hs (low + i) j (by omega) (by omega) j2

set_option maxHeartbeats 3200000 in
set_option maxRecDepth 100000 in
theorem lookup (bt : Nat → Int) (ao : Option Addr) (g N c B xb sb top cb off stride n : Nat) (L : List Int) (dv : Value) (dn : Nat) (D : List Int) (k lim : Int) (w0 w : World) (hN2 : N ≤ 1024) (hNc : N ≤ c) (hst : 1 ≤ stride) (hst2 : stride ≤ 4) (htop : top ≤ 32)
    (hz : ∀ j, 0 ≤ bt j ∧ bt j ≤ 255) (hI : Idx w0 B xb sb ao N c top cb off stride n L) (hn : n ≤ 1024)
    (hao : 0 < n → 6 ≤ N ∧ ao = some ⟨g, 0, none⟩ ∧ ∀ j, j < N → w0.cell? ⟨g, j, none⟩ = some (.int .u8 (bt j)))
    (hk0 : 0 ≤ k) (hk1 : k < 4294967296) (hlim0 : -9223372036854775808 ≤ lim) (hlim1 : lim ≤ 9223372036854775807) (hbw : Below w0.heap.size w0 w) (hD : w.ownsRow w0.heap.size 3 1 dv dn (ei D)) (hDl : D.length = dn) (hdn : dn ≤ 1024) :
    Calls Yba.prog 14 #[.pointer (some ⟨xb, 0, none⟩), dv, .int .u32 k, .int .i64 lim, .slice (some ⟨sb, 0, none⟩) n n] w fun e w' =>
      ∃ v' R, e = .returned v' ∧ R = D ++ cut dn lim (fd (cnd bt N stride off cb (k * 2 ^ top % 4294967296) k) off stride L) ∧ w'.ownsRow w0.heap.size 3 1 v' R.length (ei R) ∧ Below w0.heap.size w0 w' := by
  obtain ⟨i3, hi3, hz30, hz31, hz32⟩ := info_parts info3
  have hlen := hI.row.len
  have HLen : Hid (L.length = n) := hlen
  have hcb := hI.cb32
  have hoff := hI.off10
  have hszw := hbw.size
  have hrow : ∀ j, j < n → w.cell? ⟨sb, j, none⟩ = some (.int .u32 (gt L j)) := fun j hj => by rw [hbw.cell (World.block_lt_of_cell? _ _ (hI.row.cell j hj))]; exact hI.row.cell j hj
  have HR : Hid (∀ j, j < n → w.cell? ⟨sb, j, none⟩ = some (.int .u32 (gt L j))) := hrow
  have x3 : w.cell? ⟨xb, 3, none⟩ = some (.int .u64 top) := by rw [hbw.cell (World.block_lt_of_cell? _ _ hI.x3)]; exact hI.x3
  have x4 : w.cell? ⟨xb, 4, none⟩ = some (.int .u64 off) := by rw [hbw.cell (World.block_lt_of_cell? _ _ hI.x4)]; exact hI.x4
  have x5 : w.cell? ⟨xb, 5, none⟩ = some (.int .u64 cb) := by rw [hbw.cell (World.block_lt_of_cell? _ _ hI.x5)]; exact hI.x5
  have hE : ∀ j, j < n → 0 ≤ gt L j ∧ gt L j < 4294967296 := fun j hj => by have := hI.ents (gt L j) (gt_mem L j (by omega)); exact ⟨this.1, this.2.1⟩
  have HE : Hid (∀ j, j < n → 0 ≤ gt L j ∧ gt L j < 4294967296) := hE
  have HS : Hid (128 < n → Srd (fun x => x / 16777216) 0 n L) := hI.srd
  clear hrow hE hlen
  go_enter Yba.func14, Yba.ntmps14
  go_wp2_with fail
  refine (checkMask xb cb w hcb x5).mono ?_
  rintro e w2 ⟨rfl, rfl⟩
  obtain ⟨m, hm⟩ : ∃ m, m = mk cb := ⟨_, rfl⟩
  have hmb := mk_bd cb (by omega)
  rw [← hm] at hmb ⊢
  have HM : Hid (m = mk cb) := hm
  have hm0 := hmb.1
  have hm1 := hmb.2
  clear hm hmb
  go_upto_if 35 with fail
  obtain ⟨y, hy⟩ : ∃ y, y = k * 2 ^ top % 4294967296 := ⟨_, rfl⟩
  rw [← hy]
  have HY : Hid (y = k * 2 ^ top % 4294967296) := hy
  have hy0 : 0 ≤ y := by omega
  have hy1 : y < 4294967296 := by omega
  clear hy
  obtain ⟨wt, hwt⟩ : ∃ wt, wt = bits .and .u32 y m := ⟨_, rfl⟩
  rw [← hwt]
  have hwt2 : wt = y / 2 ^ (32 - cb) * 2 ^ (32 - cb) := by rw [hwt, HM.out, and_mk y cb hcb hy0 hy1]
  have hwtb := u32_and_bd y m hy0 hy1 hm0 hm1
  rw [← hwt] at hwtb
  have hwt0 := hwtb.1
  have hwt1 := hwtb.2
  have HW : Hid (wt = y / 2 ^ (32 - cb) * 2 ^ (32 - cb)) := hwt2
  clear hwt hwt2 hwtb
  obtain ⟨srt, hsrt⟩ : ∃ srt : Bool, srt = decide ((128 : Int) < n) := ⟨_, rfl⟩
  rw [← hsrt]
  have HT : Hid (srt = decide ((128 : Int) < n)) := hsrt
  clear hsrt
  go_cut [4] (fun sl wx => ∃ (ad : Addr) (low : Nat), sl = .slice (some ad) (n - low) (n - low) ∧ low ≤ n ∧ Hid (low < n → ad = ⟨sb, low, none⟩) ∧ Hid (∀ j, j < low → gt L j / 16777216 < wt / 16777216) ∧ Hid (128 < n → ∀ j, low ≤ j → j < n → wt / 16777216 ≤ gt L j / 16777216) ∧ w2 = wx)
  case first =>
    as_aux_lemma =>
    by_cases hl : 128 < n
    · obtain rfl : srt = true := by rw [HT.out]; simp; omega
      go_wp2
      go_loopw [14, 15] (fun x z wr => ∃ lo hi : Nat, x = .int .i64 lo ∧ z = .int .i64 hi ∧ lo ≤ hi ∧ hi ≤ n ∧ Hid (∀ j, j < lo → gt L j / 16777216 < wt / 16777216) ∧ Hid (∀ j, hi ≤ j → j < n → wt / 16777216 ≤ gt L j / 16777216) ∧ w2 = wr) (fun x z _ => ((intOf z) - (intOf x)).toNat)
      case atStart => exact ⟨0, n, rfl, rfl, by omega, by omega, fun j hj => by omega, fun j h1 h2 => by omega, rfl⟩
      case round =>
        obtain ⟨lo, hi, rfl, rfl, hlh, hhn, HA, HZ, rfl⟩ := hrel
        by_cases hlt : lo < hi
        · have hlti : (lo : Int) < hi := by omega
          obtain ⟨q, hq⟩ : ∃ q, q = (lo + hi) / 2 := ⟨_, rfl⟩
          have hqi : ((lo : Int) + hi) / 2 = q := by omega
          have q1 : lo ≤ q := by omega
          have q2 : q < hi := by omega
          clear hq
          have hcell := HR.out q (by omega)
          have heq := HE.out q (by omega)
          obtain ⟨e0, e1⟩ := heq
          by_cases hless : gt L q / 16777216 < wt / 16777216
          · have HA' : Hid (∀ j, j < q + 1 → gt L j / 16777216 < wt / 16777216) := fun j hj => by
              by_cases h : j = q
              · rw [h]; exact hless
              · have := HS.out hl j q (by omega) (by omega) (by omega)
                simp only at this
                omega
            go_wp2
            go_roundw
            case rel => exact ⟨q + 1, hi, by go_num, rfl, by omega, by omega, HA', HZ, by first | trivial | rfl⟩
            case measure => simp [intOf]; omega
          · have HZ' : Hid (∀ j, q ≤ j → j < n → wt / 16777216 ≤ gt L j / 16777216) := fun j h1 h2 => by
              by_cases h : j = q
              · rw [h]; omega
              · have := HS.out hl q j (by omega) (by omega) (by omega)
                simp only at this
                omega
            go_wp2
            go_roundw
            case rel => exact ⟨lo, q, rfl, rfl, by omega, by omega, HA, HZ', by first | trivial | rfl⟩
            case measure => simp [intOf]; omega
        · obtain rfl : lo = hi := by omega
          have hlti : ¬ (lo : Int) < lo := by omega
          by_cases hfull : lo = n
          · subst hfull
            go_wp2
            go_meet
            case rel => exact ⟨⟨sb, 0, none⟩, lo, by simp, by omega, fun h => by omega, HA, fun _ j h1 h2 => by omega, by first | trivial | rfl⟩
          · go_wp2
            go_meet
            case rel => exact ⟨⟨sb, lo, none⟩, lo, rfl, by omega, fun _ => rfl, HA, fun _ => HZ, by first | trivial | rfl⟩
    · obtain rfl : srt = false := by rw [HT.out]; simp; omega
      go_wp2_with fail
      go_meet
      case rel => exact ⟨⟨sb, 0, none⟩, 0, rfl, by omega, fun _ => rfl, fun j hj => by omega, fun h => absurd h hl, rfl⟩
  case rest =>
  obtain ⟨ad, low, rfl, hlow, HAd, HA, HZ, rfl⟩ := hcut
  go_wp2_with fail
  obtain ⟨lm, hlm⟩ : ∃ lm : Int, lm = (2 ^ off % 4294967296 - 1) % 4294967296 := ⟨_, rfl⟩
  rw [← hlm]
  have hpow : (2 : Nat) ^ off ≤ 2 ^ 10 := Nat.pow_le_pow_right (by omega) hoff
  have hpow1 : 0 < (2 : Nat) ^ off := Nat.pow_pos (by omega)
  have hlm2 : lm = 2 ^ off - 1 := by
    have e2 : ((2 : Int) ^ off) = ((2 ^ off : Nat) : Int) := by simp
    rw [hlm, e2]; omega
  have hlm0 : 0 ≤ lm := by omega
  have hlm1 : lm < 4294967296 := by omega
  have HL : Hid (lm = 2 ^ off - 1) := hlm2
  clear hlm hlm2 hpow hpow1
  obtain ⟨tc, htc⟩ : ∃ tc : Int, tc = bits .and .u32 m 4278190080 := ⟨_, rfl⟩
  rw [← htc]
  have htc2 : tc = mk (min cb 8) := by rw [htc, HM.out, mk_top cb hcb]
  have htcb := mk_bd (min cb 8) (by omega)
  rw [← htc2] at htcb
  have htc0 := htcb.1
  have htc1 := htcb.2
  have HTC : Hid (tc = mk (min cb 8)) := htc2
  clear htc htc2 htcb
  obtain ⟨tw, htw⟩ : ∃ tw, tw = bits .and .u32 wt tc := ⟨_, rfl⟩
  have htwb := u32_and_bd wt tc hwt0 hwt1 htc0 htc1
  rw [← htw] at htwb
  have htw0 := htwb.1
  have htw1 := htwb.2
  have htw2 : tw = wt / 2 ^ (32 - min cb 8) * 2 ^ (32 - min cb 8) := by rw [htw, HTC.out, and_mk wt _ (by omega) hwt0 hwt1]
  have HTW : Hid (tw = wt / 2 ^ (32 - min cb 8) * 2 ^ (32 - min cb 8)) := htw2
  have htws := htw.symm
  clear htw htw2 htwb
  have HFL : Hid (fd (cnd bt N stride off cb y k) off stride L = fd (cnd bt N stride off cb y k) off stride (L.drop low)) := fd_low bt N stride off cb low y k wt L HW.out (fun j h1 _ => HA.out j h1)
  go_loopw [1, 71] (fun v iv wr => ∃ (i q : Nat), iv = .int .i64 i ∧ i ≤ n - low ∧ q ≤ dn + i ∧ dn ≤ q ∧ Hid (q = dn + (fd (cnd bt N stride off cb y k) off stride ((L.drop low).take i)).length) ∧ (lim ≤ dn ∨ (q : Int) < lim) ∧ wr.ownsRow w0.heap.size 3 1 v q (ei (D ++ fd (cnd bt N stride off cb y k) off stride ((L.drop low).take i))) ∧ Below w0.heap.size w0 wr) (fun _ iv _ => n - (intOf iv).toNat)
  case atStart =>
    refine ⟨0, dn, rfl, by omega, by omega, by omega, by simp [Hid, fd], ?_, by simpa [fd, ei] using hD, hbw⟩
    omega
  case round =>
    obtain ⟨i, q, rfl, hin, hqi, hqd, HQ, hql, hown, hbr⟩ := hrel
    obtain ⟨wo, hwo⟩ : ∃ wo : World, wo = wr := ⟨_, rfl⟩
    rw [← hwo] at hown hbr ⊢
    clear hwo
    have hszr := hbr.size
    by_cases hlt : i < n - low
    · have hlti : (i : Int) < ((n - low : Nat) : Int) := by omega
      obtain ⟨hN, rfl, hc⟩ := hao (by omega)
      obtain rfl : ad = ⟨sb, low, none⟩ := HAd.out (by omega)
      have hLL := HLen.out
      have hcell : wo.cell? ⟨sb, low + i, none⟩ = some (.int .u32 (gt L (low + i))) := by rw [hbr.cell (World.block_lt_of_cell? _ _ (hI.row.cell (low + i) (by omega)))]; exact hI.row.cell (low + i) (by omega)
      have z0 : wo.cell? ⟨xb, 0, none⟩ = some (.slice (some ⟨g, 0, none⟩) N c) := by rw [hbr.cell (World.block_lt_of_cell? _ _ hI.x0)]; exact hI.x0
      have z6 : wo.cell? ⟨xb, 6, none⟩ = some (.int .i64 stride) := by rw [hbr.cell (World.block_lt_of_cell? _ _ hI.x6)]; exact hI.x6
      have hent := hI.ents (gt L (low + i)) (gt_mem L (low + i) (by omega))
      have htake : (L.drop low).take (i + 1) = (L.drop low).take i ++ [gt L (low + i)] := by rw [List.take_add_one, gt_get (L.drop low) i (by rw [List.length_drop]; omega), gt_drop]; rfl
      obtain ⟨e, he⟩ : ∃ e, e = gt L (low + i) := ⟨_, rfl⟩
      rw [← he] at hcell hent htake
      have HEe : Hid (e = gt L (low + i)) := he
      clear he
      obtain ⟨he0, he1, hfit⟩ := hent
      obtain ⟨r, hr⟩ : ∃ r, r = (e % 2 ^ off).toNat := ⟨_, rfl⟩
      have hr2 : e % 2 ^ off = (r : Int) := by
        have hp : (0 : Int) < 2 ^ off := Int.pow_pos (by omega)
        have := Int.emod_nonneg e (Int.ne_of_gt hp)
        omega
      have hand : bits .and .u32 e lm = (r : Int) := by rw [HL.out, and_low e off (by omega) he0 he1, hr2]
      rw [← hr] at hfit
      obtain ⟨p, hp⟩ : ∃ p, p = r * stride := ⟨_, rfl⟩
      rw [← hp] at hfit
      have hpi : (r : Int) * stride = p := by rw [hp]; simp
      have hrN : r ≤ 1024 := by
        have : r * 1 ≤ r * stride := Nat.mul_le_mul_left _ hst
        omega
      have hand2 : bits .and .u32 e m = e / 2 ^ (32 - cb) * 2 ^ (32 - cb) := by rw [HM.out, and_mk e cb hcb he0 he1]
      have hab := u32_and_bd e m he0 he1 hm0 hm1
      obtain ⟨a, ha⟩ : ∃ a, a = bits .and .u32 e m := ⟨_, rfl⟩
      rw [← ha] at hand2 hab
      have ham := ha.symm
      have ha0 := hab.1
      have ha1 := hab.2
      have hsnoc : fd (cnd bt N stride off cb y k) off stride ((L.drop low).take (i + 1)) = if a = wt ∧ kf bt N p = k then fd (cnd bt N stride off cb y k) off stride ((L.drop low).take i) ++ [(p : Int)] else fd (cnd bt N stride off cb y k) off stride ((L.drop low).take i) := by
        rw [htake, fd_snoc]
        have : (cnd bt N stride off cb y k e = true) ↔ (a = wt ∧ kf bt N p = k) := by
          unfold cnd
          rw [Bool.and_eq_true, decide_eq_true_eq, decide_eq_true_eq, ← hand2, ← HW.out, ← hr, ← hp]
        simp only [this, hr2, hpi]
      have HSn : Hid (fd (cnd bt N stride off cb y k) off stride ((L.drop low).take (i + 1)) = if a = wt ∧ kf bt N p = k then fd (cnd bt N stride off cb y k) off stride ((L.drop low).take i) ++ [(p : Int)] else fd (cnd bt N stride off cb y k) off stride ((L.drop low).take i)) := hsnoc
      have HC : Hid (∀ j, j < N → wo.cell? ⟨g, j, none⟩ = some (.int .u8 (bt j))) := fun j hj => by rw [hbr.cell (World.block_lt_of_cell? _ _ (hc j hj))]; exact hc j hj
      have hta := and_mk e (min cb 8) (by omega) he0 he1
      rw [← HTC.out] at hta
      have HTA : Hid (bits .and .u32 e tc = e / 2 ^ (32 - min cb 8) * 2 ^ (32 - min cb 8)) := hta
      have htab := u32_and_bd e tc he0 he1 htc0 htc1
      have HFS : Hid (srt = true → bits .and .u32 e tc ≠ tw → fd (cnd bt N stride off cb y k) off stride (L.drop low) = fd (cnd bt N stride off cb y k) off stride ((L.drop low).take i)) := fun hs hne => by
        have hl : 128 < n := by rw [HT.out] at hs; simp at hs; omega
        refine fd_stop bt N stride off cb low i y k wt L hcb HW.out (by rw [hLL]; exact HS.out hl) (by omega) (HZ.out hl _ (by omega) (by omega)) ?_
        rw [← HEe.out, ← HTA.out, ← HTW.out]; exact hne
      obtain ⟨ta, hta⟩ : ∃ ta, ta = bits .and .u32 e tc := ⟨_, rfl⟩
      rw [← hta] at htab HFS
      have hta0 := htab.1
      have hta1 := htab.2
      have htas := hta.symm
      clear hsnoc hab ha hand2 hr hr2 hp htake hc hta htab
      have hskip : ¬ (a = wt ∧ kf bt N p = k) → wo.ownsRow w0.heap.size 3 1 u1 q (ei (D ++ fd (cnd bt N stride off cb y k) off stride ((L.drop low).take (i + 1)))) ∧ q = dn + (fd (cnd bt N stride off cb y k) off stride ((L.drop low).take (i + 1))).length := fun h => by
        have hsn := HSn.out
        rw [if_neg h] at hsn
        rw [hsn]
        exact ⟨hown, HQ.out⟩
      have HSK : Hid _ := hskip
      clear hskip
      by_cases h1 : a = wt
      · as_aux_lemma =>
        subst h1
        go_wp2_with fail
        refine (key bt N g p (c - p) wo hfit HC.out hz).mono ?_
        rintro e1 w4 ⟨rfl, hb4⟩
        have hown4 := owns_below hown hb4
        have hb4' : Below w0.heap.size w0 w4 := hbr.trans (hb4.mono (by omega))
        have hsz4 := hb4'.size
        obtain ⟨kk, hkk⟩ : ∃ kk, kk = kf bt N p := ⟨_, rfl⟩
        have hkb := kf_bd bt N p
        rw [← hkk] at hkb ⊢
        have HK : Hid (kk = kf bt N p) := hkk
        have hkk0 := hkb.1
        have hkk1 := hkb.2
        clear hkk hkb
        by_cases h2 : kk = k
        · subst h2
          clear hown hbr
          go_wp2_with (at_builtin; refine wpList_append_own _ rfl _ _ 25 rfl w0.heap.size 3 i3 (.int .i64 0) 1 8 Yba.underlying25 hi3 hz30 hz31 hz32 rfl (by decide) _ _ _ rfl (hown4.alloc _) ⟨w4.heap.size, 0, none⟩ 1 1 [Value.int .i64 p] rfl rfl ?c1 ?c2 ?c3 ?c4 ?c5 ?_)
          case c1 =>
            intro j u' hj
            match j, hj with
            | 0, hj => simp at hj; subst hj; simp [Addr.add]
          case c2 => intro u' hu'; simp at hu'; subst hu'; rfl
          case c3 => unfold maxLen; omega
          case c4 => omega
          case c5 => simp; omega
          intro v1 w5 hown5 hgrow5 _
          have hb5 : Below w0.heap.size w0 w5 := (hb4'.alloc (by omega) _).grown hgrow5 (by have := (World.grownBy_alloc w4 (.cells #[Value.int .i64 p] 3) none).size; omega) (fun j hj => (hown4.lt j hj).1)
          have hsn := HSn.out
          rw [if_pos ⟨by first | trivial | rfl, HK.out.symm⟩] at hsn
          have hown6 : w5.ownsRow w0.heap.size 3 1 v1 (q + 1) (ei (D ++ fd (cnd bt N stride off cb y kk) off stride ((L.drop low).take (i + 1)))) := by rw [hsn, ← List.append_assoc, ei_append]; exact hown5
          have HQ6 : Hid (q + 1 = dn + (fd (cnd bt N stride off cb y kk) off stride ((L.drop low).take (i + 1))).length) := by
            have := HQ.out
            show q + 1 = _
            rw [hsn, List.length_append]; simp; omega
          clear hown5 hgrow5 hsn hown4 hb4'
          obtain ⟨g1, c1, rfl, _, _⟩ : ∃ g1 c1, v1 = .slice (some ⟨g1, 0, none⟩) (q + 1) c1 ∧ w0.heap.size ≤ g1 ∧ q + 1 ≤ c1 := by
            rcases own_shape hown6 with ⟨_, h⟩ | h
            · omega
            · exact h
          by_cases hhit : (q : Int) + 1 = lim
          · go_wp2
            go_ret
            have hcut : cut dn lim (fd (cnd bt N stride off cb y kk) off stride L) = fd (cnd bt N stride off cb y kk) off stride ((L.drop low).take (i + 1)) := by
              rw [HFL.out]
              conv => lhs; rw [← List.take_append_drop (i + 1) (L.drop low), fd_append]
              have := HQ6.out
              exact cut_hit dn lim _ _ (by omega) (by omega)
            refine ⟨_, D ++ fd (cnd bt N stride off cb y kk) off stride ((L.drop low).take (i + 1)), rfl, by rw [← HY.out, hcut], ?_, hb5⟩
            rw [List.length_append, hDl, ← HQ6.out]
            exact hown6
          · go_wp2
            go_roundw
            case rel => exact ⟨i + 1, q + 1, by go_num, by omega, by omega, by omega, HQ6, by omega, hown6, hb5⟩
            case measure => simp [intOf]; omega
        · have hsk := HSK.out (by rintro ⟨_, h⟩; exact h2 (HK.out.trans h))
          have hown6 := owns_below hsk.1 hb4
          have HQ6 : Hid (q = dn + (fd (cnd bt N stride off cb y k) off stride ((L.drop low).take (i + 1))).length) := hsk.2
          clear hsk
          go_wp2
          go_roundw
          case rel => exact ⟨i + 1, q, by go_num, by omega, by omega, by omega, HQ6, hql, hown6, hb4'⟩
          case measure => simp [intOf]; omega
      · as_aux_lemma =>
        have hsk := HSK.out (by rintro ⟨h, _⟩; exact h1 h)
        have hown6 := hsk.1
        have HQ6 : Hid (q = dn + (fd (cnd bt N stride off cb y k) off stride ((L.drop low).take (i + 1))).length) := hsk.2
        clear hsk
        by_cases h3 : srt = true ∧ ta ≠ tw
        · obtain ⟨rfl, h3⟩ := h3
          have HFs : Hid (fd (cnd bt N stride off cb y k) off stride (L.drop low) = fd (cnd bt N stride off cb y k) off stride ((L.drop low).take i)) := HFS.out rfl h3
          go_wp2
          go_ret
          refine ⟨u1, rfl, ?_, hbr⟩
          rw [← HY.out, HFL.out, HFs.out, cut_all _ _ _ (by have := HQ.out; omega), ← HQ.out]
          exact hown
        · by_cases h4 : srt = true
          · subst h4
            obtain rfl : ta = tw := Classical.byContradiction fun h => h3 ⟨rfl, h⟩
            clear h3
            go_wp2
            go_roundw
            case rel => exact ⟨i + 1, q, by go_num, by omega, by omega, by omega, HQ6, hql, hown6, hbr⟩
            case measure => simp [intOf]; omega
          · obtain rfl : srt = false := by simpa using h4
            clear h3 h4
            go_wp2
            go_roundw
            case rel => exact ⟨i + 1, q, by go_num, by omega, by omega, by omega, HQ6, hql, hown6, hbr⟩
            case measure => simp [intOf]; omega
    · as_aux_lemma =>
      have hlti : ¬ (i : Int) < ((n - low : Nat) : Int) := by omega
      go_wp2_with fail
      go_ret
      have hLL := HLen.out
      have hall : (L.drop low).take i = L.drop low := List.take_of_length_le (by rw [List.length_drop]; omega)
      rw [hall] at hown HQ
      refine ⟨u1, rfl, ?_, hbr⟩
      rw [← HY.out, HFL.out, cut_all _ _ _ (by have := HQ.out; omega), ← HQ.out]
      exact hown
end Go.Proofs.Ybulkkrg.Ix
