/-
  'LawS0565BBits' (5) returns true.
-/
import Derived.Test.YbulkkrgDoorLawCode
namespace Go.Proofs.YbulkkrgDoor.La
open Go.RowKit Go.Proofs.YbulkkrgDoor.Srt Go.Proofs.YbulkkrgDoor.Mm Go.Proofs.YbulkkrgDoor.Hu Go.Proofs.YbulkkrgDoor.Co Go.Proofs.YbulkkrgDoor.Fb Go.Proofs.YbulkkrgDoor.De Go.Proofs.YbulkkrgDoor.Bl Go.Proofs.YbulkkrgDoor.Bu Go.Proofs.YbulkkrgDoor.Ck Go.Proofs.YbulkkrgDoor.Sm
set_option linter.unusedVariables false

theorem clX_lt (p : Nat) (h : p < 16) : gt clX p = 0 := (by decide : ∀ p : Fin 16, gt clX p.val = 0) ⟨p, h⟩
theorem lX_mid (t : Nat) (h1 : 8 ≤ t) (h2 : t < 28) : gt lX t = (((t - 4) / 4 : Nat) : Int) := by
  have := (by decide : ∀ t : Fin 28, 8 ≤ t.val → gt lX t.val = (((t.val - 4) / 4 : Nat) : Int)) ⟨t, h2⟩
  exact this h1
theorem lX_lo (t : Nat) (h : t < 8 ∨ t = 28) : gt lX t = 0 := by
  rcases h with h | rfl
  · exact (by decide : ∀ t : Fin 8, gt lX t.val = 0) ⟨t, h⟩
  · rfl
theorem dX_hi (t : Nat) (h1 : 4 ≤ t) (h2 : t < 30) : gt dX t = ((t / 2 - 1 : Nat) : Int) := by
  have := (by decide : ∀ t : Fin 30, 4 ≤ t.val → gt dX t.val = ((t.val / 2 - 1 : Nat) : Int)) ⟨t, h2⟩
  exact this h1
theorem dX_lo (t : Nat) (h : t < 4) : gt dX t = 0 := (by decide : ∀ t : Fin 4, gt dX t.val = 0) ⟨t, h⟩

set_option maxHeartbeats 1600000 in
set_option maxRecDepth 100000 in
theorem bitsLaw (a0 a1 : Option Addr) (n0 c0 n1 c1 : Nat) (w : World) (h0 : Hits w a0 n0) (h1 : Hits w a1 n1) (hm0 : n0 ≤ maxLen) (hm1 : n1 ≤ maxLen) (hT : Tb w) (h4 : 4 ≤ w.heap.size) :
    Calls Ybad.prog 5 #[.slice a0 n0 c0, .slice a1 n1 c1] w fun e w' => e = .returned (.bool true) ∧ Below w.heap.size w w' := by
  unfold maxLen at hm0 hm1
  have H0 : Hid (Hits w a0 n0) := h0
  have H1 : Hid (Hits w a1 n1) := h1
  clear h0 h1
  by_cases k0 : 1024 < n0
  · have k0i : (1024 : Int) < n0 := by omega
    go_enter Ybad.func5, Ybad.ntmps5
    go_wp2
    go_ret
    exact ⟨rfl, Below.refl _ _⟩
  have k0i : ¬ (1024 : Int) < n0 := by omega
  by_cases k1 : 1024 < n1
  · have k1i : (1024 : Int) < n1 := by omega
    go_enter Ybad.func5, Ybad.ntmps5
    go_wp2
    go_ret
    exact ⟨rfl, Below.refl _ _⟩
  have k1i : ¬ (1024 : Int) < n1 := by omega
  go_enter Ybad.func5, Ybad.ntmps5
  go_wp2_with fail
  refine (build a0 a1 n0 c0 n1 c1 w H0.out H1.out (by omega) (by omega)).mono ?_
  rintro e w1 ⟨rfl, ⟨Fl, Fd, hn, hbl, hbd⟩, hg1⟩
  have HBl : Hid (Bd32 Fl 286) := hbl
  have HBd : Hid (Bd32 Fd 30) := hbd
  have hT1 := hT.kept hg1 (fun k hk => by have := Option.some.inj hk; omega)
  have hB1 : Below w.heap.size w w1 := (Below.refl _ _).grown hg1 (Nat.le_refl _) (fun k hk => by have := Option.some.inj hk; omega)
  have hnb := hn.lt
  obtain ⟨s, hs⟩ : ∃ s, s = w.heap.size := ⟨_, rfl⟩
  rw [← hs] at hn hnb hB1 h4 ⊢
  have HS : Hid (s = w.heap.size) := hs
  clear hbl hbd hT hg1 H0 H1 hs
  go_upto_region 4 with fail
  go_step
  refine wpList_alloc31 rfl rfl ?_
  intro cs1 hcs1
  obtain ⟨za, zd, zca, zcd, hC2⟩ := cb_new w1 cs1 hcs1
  have hn2 := Cn.alloc hn (.cells cs1 31)
  have hT2 := hT1.kept (World.grownBy_alloc w1 (.cells cs1 31) none) (fun k hk => by cases hk)
  have hB2 := hB1.alloc (by omega) (.cells cs1 31)
  obtain ⟨cb, hcb⟩ : ∃ cb, cb = w1.heap.size := ⟨_, rfl⟩
  have hsz2 : (w1.alloc (.cells cs1 31)).heap.size = cb + 1 := by rw [hcb]; exact Array.size_push _
  rw [← hcb] at hC2 hnb ⊢
  clear hcb hcs1 hn hT1 hB1
  generalize w1.alloc (.cells cs1 31) = w2 at *
  go_upto_region 5 with fail
  go_step
  refine wpList_alloc37 rfl rfl ?_
  intro cs2 hcs2
  obtain ⟨zl, zc, hH3⟩ := hb_new w2 cs2 hcs2
  have hC3 := Cb.kept' hC2 (World.grownBy_alloc w2 (.cells cs2 37) none) (by simp)
  have hn3 := Cn.alloc hn2 (.cells cs2 37)
  have hT3 := hT2.kept (World.grownBy_alloc w2 (.cells cs2 37) none) (fun k hk => by cases hk)
  have hB3 := hB2.alloc (by omega) (.cells cs2 37)
  have hsz3 : (w2.alloc (.cells cs2 37)).heap.size = cb + 1 + 1 := by rw [← hsz2]; exact Array.size_push _
  rw [hsz2] at hH3 ⊢
  clear hcs2 hC2 hn2 hT2 hB2
  generalize w2.alloc (.cells cs2 37) = w3 at *
  go_wp2_with fail
  have hcall := fitBlock cb (cb + 1) s Fl Fd za zd zca zcd zl zc 0 0 0 w3 hC3 hH3 hn3 HBl.out HBd.out (by omega) (by omega) (by omega) hT3 (by omega) (by omega)
  refine hcall.mono ?_
  clear hcall
  rintro e w4 ⟨a, d, ca, cd, L, D, C, R, cl, cc, rv, lv, rfl, hK, hbel⟩
  have hB4 := hB3.trans (hbel s (by omega) (by omega) (by omega))
  have hC4 := hK.hC
  have hH4 := hK.hH
  have hn4 := hK.cn
  have hR4 := hK.hR
  have HFt : Hid (Ft Fl Fd a d ca cd) := hK.ft
  have HDs : Hid (Dd a d L D C R cl) := hK.dd
  clear hK hbel hB3 hC3 hH3 hn3 hT3
  have HA : Hid (∀ j, j < 286 → 0 ≤ gt a j ∧ gt a j ≤ 15) := fun j hj => by have := Hf.bd15 HFt.out.ha j hj; omega
  have HD : Hid (∀ j, j < 30 → 0 ≤ gt d j ∧ gt d j ≤ 15) := fun j hj => by have := Hf.bd15 HFt.out.hd j hj; omega
  have HCl : Hid (∀ j, j < 19 → 0 ≤ gt cl j ∧ gt cl j ≤ 15) := fun j hj => by have := Hf.bd15 HDs.out.hf j hj; omega
  obtain ⟨hp0, hp1⟩ := Dd.pos HDs.out hC4.la hC4.ld
  have hC19 := HDs.out.c2
  have HRb : Hid (∀ k, k ≤ R.length → 0 ≤ rb cl R k ∧ rb cl R k ≤ 22 * k) := rb_bd cl R HCl.out (fun k hk => ⟨(HDs.out.hr.bd k hk).1, (HDs.out.hr.bd k hk).2.1⟩)
  have HD1 : Hid (∀ k, k ≤ 286 → 0 ≤ db1 Fl a k ∧ db1 Fl a k ≤ 4294967296 * 20 * k) := db1_bd HBl.out HA.out
  have HD2 : Hid (∀ k, k ≤ 30 → 0 ≤ db2 Fd d k ∧ db2 Fd d k ≤ 4294967296 * 28 * k) := db2_bd HBd.out HD.out
  obtain ⟨gr, cr, hrv⟩ : ∃ gr cr, rv = .slice (some ⟨gr, 0, none⟩) R.length cr := by
    rcases hR4.2 with ⟨_, h⟩ | ⟨g1, c1, cur, h, _⟩
    · omega
    · exact ⟨g1, c1, h⟩
  subst hrv
  obtain ⟨X, hX⟩ : ∃ X, X = 17 + 3 * (C : Int) + rb cl R R.length + (db1 Fl a 286 + db2 Fd d 30) := ⟨_, rfl⟩
  have HX : Hid (X = 17 + 3 * (C : Int) + rb cl R R.length + (db1 Fl a 286 + db2 Fd d 30)) := hX
  rw [← hX]
  clear hX
  have hc2 := hH4.c2
  have hc41 := hH4.c41
  go_wp2_with fail
  go_loopw [9, 10] (fun bv kv wr => ∃ (k : Nat) (b : Int), bv = .int .i64 b ∧ kv = .int .i64 k ∧ k ≤ R.length ∧ Hid (b = 17 + 3 * (C : Int) + rb cl R k) ∧ 0 ≤ b ∧ b ≤ 10000 ∧ w4 = wr) (fun _ kv _ => R.length - (intOf kv).toNat)
  case atStart => exact ⟨0, _, rfl, rfl, by omega, by show _ = 17 + 3 * (C : Int) + rb cl R 0; unfold rb; omega, by omega, by omega, rfl⟩
  case round =>
    obtain ⟨k, b, rfl, rfl, hk, HBb, hb0, hb1, rfl⟩ := hrel
    by_cases hlt : k < R.length
    · have hlti : (k : Int) < R.length := by omega
      have g1 := rc_get R k hlt
      have l := rc_len R
      have hp1' : w4.cell? ⟨gr, k * 2, none⟩ = some (.int .u8 (R[k]).1) := by
        rw [hR4.cellAt (k * 2) (by omega), show k * 2 = 2 * k by omega]; exact g1.1
      have hbd := HDs.out.hr.bd k hlt
      obtain ⟨p, hp⟩ : ∃ p : Nat, (R[k]).1 = p := ⟨(R[k]).1.toNat, by omega⟩
      have HSt : Hid (rb cl R (k + 1) = rb cl R k + (gt cl p + gt clX p)) := by
        show rb cl R (k + 1) = _
        rw [rb, show R.getD k (0, 0) = R[k] by rw [List.getD_eq_getElem?_getD, List.getElem?_eq_getElem hlt]; rfl, hp, Int.toNat_natCast]
      rw [hp] at hp1' hbd
      have hp19 : p < 19 := by omega
      have hp19i : (p : Int) < 19 := by omega
      have hp18i : ¬ (18 : Int) < p := by omega
      have hcl := hH4.ccl p hp19
      have b1 := HCl.out p hp19
      obtain ⟨y, hy⟩ : ∃ y : Nat, gt cl p = y := ⟨(gt cl p).toNat, by omega⟩
      rw [hy] at hcl b1 HSt
      have hy15 : y ≤ 15 := by omega
      have hbt := HRb.out (k + 1) (by omega)
      clear hp hy hbd l g1 b1
      by_cases h16 : p = 16
      · subst h16
        have HE : Hid (b + y + 2 = 17 + 3 * (C : Int) + rb cl R (k + 1)) := by
          show _ = _; rw [HSt.out, show gt clX 16 = 2 from rfl]; have := HBb.out; omega
        have hbn : b + y + 2 ≤ 10000 := by have := HE.out; omega
        go_wp2
        go_roundw
        case rel => exact ⟨k + 1, _, rfl, by go_num, by omega, HE, by omega, hbn, by first | trivial | rfl⟩
        case measure => simp [intOf]; omega
      by_cases h17 : p = 17
      · subst h17
        have HE : Hid (b + y + 3 = 17 + 3 * (C : Int) + rb cl R (k + 1)) := by
          show _ = _; rw [HSt.out, show gt clX 17 = 3 from rfl]; have := HBb.out; omega
        have hbn : b + y + 3 ≤ 10000 := by have := HE.out; omega
        go_wp2
        go_roundw
        case rel => exact ⟨k + 1, _, rfl, by go_num, by omega, HE, by omega, hbn, by first | trivial | rfl⟩
        case measure => simp [intOf]; omega
      by_cases h18 : p = 18
      · subst h18
        have HE : Hid (b + y + 7 = 17 + 3 * (C : Int) + rb cl R (k + 1)) := by
          show _ = _; rw [HSt.out, show gt clX 18 = 7 from rfl]; have := HBb.out; omega
        have hbn : b + y + 7 ≤ 10000 := by have := HE.out; omega
        go_wp2
        go_roundw
        case rel => exact ⟨k + 1, _, rfl, by go_num, by omega, HE, by omega, hbn, by first | trivial | rfl⟩
        case measure => simp [intOf]; omega
      have h16i : ¬ (p : Int) = 16 := by omega
      have h17i : ¬ (p : Int) = 17 := by omega
      have h18i : ¬ (p : Int) = 18 := by omega
      have HE : Hid (b + y = 17 + 3 * (C : Int) + rb cl R (k + 1)) := by
        show _ = _; rw [HSt.out, clX_lt p (by omega)]; have := HBb.out; omega
      have hbn : b + y ≤ 10000 := by have := HE.out; omega
      go_wp2
      go_roundw
      case rel => exact ⟨k + 1, _, rfl, by go_num, by omega, HE, by omega, hbn, by first | trivial | rfl⟩
      case measure => simp [intOf]; omega
    · have hlti : ¬ (k : Int) < R.length := by omega
      have e : k = R.length := by omega
      rw [e] at HBb
      clear hc2 HRb
      go_wp2_with fail
      go_loopw [9, 12] (fun bv iv wr => ∃ (i : Nat) (b' : Int), bv = .int .i64 b' ∧ iv = .int .i64 i ∧ i ≤ 286 ∧ Hid (b' = b + db1 Fl a i) ∧ 0 ≤ b' ∧ b' ≤ 10000 + 4294967296 * 20 * i ∧ w4 = wr) (fun _ iv _ => 286 - (intOf iv).toNat)
      case atStart => exact ⟨0, b, rfl, rfl, by omega, by show b = b + db1 Fl a 0; unfold db1; omega, by omega, by omega, rfl⟩
      case round =>
        obtain ⟨i, b', rfl, rfl, hi, HB, hb0', hb1', rfl⟩ := hrel
        by_cases hlt2 : i < 286
        · have hlti2 : (i : Int) < 286 := by omega
          have hcf := hn4.cl i hlt2
          rw [Nat.zero_add] at hcf
          have hcl := Seg.cell0 hC4.segA i (by rw [hC4.la]; exact hlt2)
          have bf := HBl.out i hlt2
          have ba := HA.out i hlt2
          obtain ⟨f, hf⟩ : ∃ f : Nat, gt Fl i = f := ⟨(gt Fl i).toNat, by omega⟩
          obtain ⟨y, hy⟩ : ∃ y : Nat, gt a i = y := ⟨(gt a i).toNat, by omega⟩
          rw [hf] at hcf bf
          rw [hy] at hcl ba
          have m1 := mul_bd f y 15 bf.1 bf.2 ba.1 ba.2
          obtain ⟨P, hP⟩ : ∃ P : Int, (f : Int) * y = P := ⟨_, rfl⟩
          rw [hP] at m1
          obtain ⟨p0, p1⟩ := m1
          obtain ⟨bf0, bf1⟩ := bf
          have hy15 : y ≤ 15 := by omega
          by_cases hm : 265 ≤ i ∧ i < 285
          · have hm1i : (265 : Int) ≤ i := by omega
            have hm2i : (i : Int) < 285 := by omega
            obtain ⟨z, hz⟩ : ∃ z : Nat, z = (i - 257 - 4) / 4 := ⟨_, rfl⟩
            have hlx : gt lX (i - 257) = (z : Int) := by rw [hz]; exact lX_mid (i - 257) (by omega) (by omega)
            have hz5 : z ≤ 5 := by omega
            have hq : Int.tdiv ((i : Int) - 261) 4 = z := by
              rw [show (i : Int) - 261 = ((i - 261 : Nat) : Int) by omega, Int.tdiv_eq_ediv_of_nonneg (by omega)]
              omega
            have HSt : Hid (db1 Fl a (i + 1) = db1 Fl a i + f * y + f * z) := by
              show db1 Fl a (i + 1) = _
              rw [db1, if_pos (by omega), hf, hy, hlx]
            have m2 := mul_bd f z 5 bf0 bf1 (by omega) (by omega)
            obtain ⟨Q, hQ⟩ : ∃ Q : Int, (f : Int) * z = Q := ⟨_, rfl⟩
            rw [hQ] at m2
            rw [hP, hQ] at HSt
            obtain ⟨q0, q1⟩ := m2
            clear hf hy hz hlx ba hm
            go_wp2
            go_roundw
            case rel => exact ⟨i + 1, _, rfl, by go_num, by omega, by show _ = _; rw [HSt.out]; have := HB.out; omega, by omega, by omega, by first | trivial | rfl⟩
            case measure => simp [intOf]; omega
          · have HSt : Hid (db1 Fl a (i + 1) = db1 Fl a i + f * y) := by
              show db1 Fl a (i + 1) = _
              rw [db1, hf, hy]
              by_cases h257 : 257 ≤ i
              · rw [if_pos h257, lX_lo (i - 257) (by omega)]; omega
              · rw [if_neg h257]; omega
            rw [hP] at HSt
            by_cases h265 : 265 ≤ i
            · have h265i : (265 : Int) ≤ i := by omega
              have h285i : ¬ (i : Int) < 285 := by omega
              clear hf hy ba hm
              go_wp2
              go_roundw
              case rel => exact ⟨i + 1, _, rfl, by go_num, by omega, by show _ = _; rw [HSt.out]; have := HB.out; omega, by omega, by omega, by first | trivial | rfl⟩
              case measure => simp [intOf]; omega
            · have h265i : ¬ (265 : Int) ≤ i := by omega
              clear hf hy ba hm
              go_wp2
              go_roundw
              case rel => exact ⟨i + 1, _, rfl, by go_num, by omega, by show _ = _; rw [HSt.out]; have := HB.out; omega, by omega, by omega, by first | trivial | rfl⟩
              case measure => simp [intOf]; omega
        · have hlti2 : ¬ (i : Int) < 286 := by omega
          have e2 : i = 286 := by omega
          rw [e2] at HB
          have hb1'' : b' ≤ 10000 + 4294967296 * 20 * 286 := by omega
          go_wp2_with fail
          go_loopw [9, 14] (fun bv iv wr => ∃ (i : Nat) (b3 : Int), bv = .int .i64 b3 ∧ iv = .int .i64 i ∧ i ≤ 30 ∧ Hid (b3 = b' + db2 Fd d i) ∧ 0 ≤ b3 ∧ b3 ≤ 10000 + 4294967296 * 20 * 286 + 4294967296 * 28 * i ∧ w4 = wr) (fun _ iv _ => 30 - (intOf iv).toNat)
          case atStart => exact ⟨0, b', rfl, rfl, by omega, by show b' = b' + db2 Fd d 0; unfold db2; omega, by omega, by omega, rfl⟩
          case round =>
            obtain ⟨j, b3, rfl, rfl, hj, HB3, hb30, hb31, rfl⟩ := hrel
            by_cases hlt3 : j < 30
            · have hlti3 : (j : Int) < 30 := by omega
              have hcf := hn4.cd j hlt3
              have hcl := hC4.segD.cell 286 j (by rw [List.length_map]; exact hC4.la.symm) (by rw [hC4.ld]; exact hlt3)
              have bf := HBd.out j hlt3
              have ba := HD.out j hlt3
              obtain ⟨f, hf⟩ : ∃ f : Nat, gt Fd j = f := ⟨(gt Fd j).toNat, by omega⟩
              obtain ⟨y, hy⟩ : ∃ y : Nat, gt d j = y := ⟨(gt d j).toNat, by omega⟩
              rw [hf] at hcf bf
              rw [hy] at hcl ba
              have m1 := mul_bd f y 15 bf.1 bf.2 ba.1 ba.2
              obtain ⟨P, hP⟩ : ∃ P : Int, (f : Int) * y = P := ⟨_, rfl⟩
              obtain ⟨bf0, bf1⟩ := bf
              have hy15 : y ≤ 15 := by omega
              by_cases h4j : 4 ≤ j
              · have h4ji : (4 : Int) ≤ j := by omega
                obtain ⟨z, hz⟩ : ∃ z : Nat, z = j / 2 - 1 := ⟨_, rfl⟩
                have hdx : gt dX j = (z : Int) := by rw [hz]; exact dX_hi j h4j hlt3
                have hz13 : z ≤ 13 := by omega
                obtain ⟨v, hv⟩ : ∃ v : Nat, v = j / 2 := ⟨_, rfl⟩
                have hq : Int.tdiv (j : Int) 2 = v := by
                  rw [Int.tdiv_eq_ediv_of_nonneg (by omega), hv]; omega
                have hq2 : (v : Int) - 1 = z := by omega
                have hv15 : v ≤ 15 := by omega
                have HSt : Hid (db2 Fd d (j + 1) = db2 Fd d j + f * y + f * z) := by
                  show db2 Fd d (j + 1) = _
                  rw [db2, hf, hy, hdx, Int.mul_add]; omega
                have m2 := mul_bd f z 13 bf0 bf1 (by omega) (by omega)
                obtain ⟨Q, hQ⟩ : ∃ Q : Int, (f : Int) * z = Q := ⟨_, rfl⟩
                rw [hQ] at m2
                rw [hP] at m1
                rw [hP, hQ] at HSt
                obtain ⟨p0, p1⟩ := m1
                obtain ⟨q0, q1⟩ := m2
                clear hf hy hz hdx ba hv
                go_wp2
                go_roundw
                case rel => exact ⟨j + 1, _, rfl, by go_num, by omega, by show _ = _; rw [HSt.out]; have := HB3.out; omega, by omega, by omega, by first | trivial | rfl⟩
                case measure => simp [intOf]; omega
              · have h4ji : ¬ (4 : Int) ≤ j := by omega
                have HSt : Hid (db2 Fd d (j + 1) = db2 Fd d j + f * y) := by
                  show db2 Fd d (j + 1) = _
                  rw [db2, hf, hy, dX_lo j (by omega), Int.add_zero]
                rw [hP] at HSt m1
                obtain ⟨p0, p1⟩ := m1
                clear hf hy ba
                go_wp2
                go_roundw
                case rel => exact ⟨j + 1, _, rfl, by go_num, by omega, by show _ = _; rw [HSt.out]; have := HB3.out; omega, by omega, by omega, by first | trivial | rfl⟩
                case measure => simp [intOf]; omega
            · have hlti3 : ¬ (j : Int) < 30 := by omega
              have e3 : j = 30 := by omega
              rw [e3] at HB3
              have hXb : X = b3 := by have := HX.out; have := HBb.out; have := HB.out; have := HB3.out; omega
              subst hXb
              go_wp2
              go_ret
              exact ⟨by first | rfl | simp, by rw [← HS.out]; exact hB4⟩
end Go.Proofs.YbulkkrgDoor.La
