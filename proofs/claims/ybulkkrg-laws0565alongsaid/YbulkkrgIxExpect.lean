/-
  The walk of 'zzs0565aexpect' (13): all found offsets, cut at the limit, behind dst's clone.
-/
import Derived.Test.YbulkkrgIxIndex
import Derived.Laws.AppendOwnNone
namespace Go.Proofs.Ybulkkrg.Ix
open Go.RowKit Go.Proofs.Ybulkkrg.Srt
set_option linter.unusedVariables false
theorem info3 : (Yba.prog.info? 3).map (fun i => (i.zero, i.size, i.bytes)) = some (some (.int .i64 0), 1, 8) := by kernel_rfl
def ei (l : List Int) : List Value := l.map (Value.int .i64)
theorem ei_append (l m : List Int) : ei (l ++ m) = ei l ++ ei m := by simp [ei]
theorem ei_length (l : List Int) : (ei l).length = l.length := by simp [ei]

theorem u32_and_bd (a b : Int) (h1 : 0 ≤ a) (h2 : a < 4294967296) (h3 : 0 ≤ b) (h4 : b < 4294967296) : 0 ≤ bits .and .u32 a b ∧ bits .and .u32 a b < 4294967296 := by
  rw [u32_and a b h1 h2 h3 h4]
  have : a.toNat &&& b.toNat ≤ a.toNat := Nat.and_le_left
  omega
/-- dst as it came in -/
def Dst (w : World) (a : Option Addr) (len cap : Nat) (D : List Int) : Prop := D.length = len ∧
  ((a = none ∧ len = 0 ∧ cap = 0) ∨ (∃ x, a = some x ∧ len = 0) ∨ (∃ b o, a = some ⟨b, o, none⟩ ∧ ∀ j, j < D.length → w.cell? ⟨b, o + j, none⟩ = some (.int .i64 (D.getD j 0))))

theorem Dst.below {w w' : World} {a : Option Addr} {len cap : Nat} {D : List Int} (h : Dst w a len cap D) (hb : Below w.heap.size w w') : Dst w' a len cap D := by
  refine ⟨h.1, ?_⟩
  rcases h.2 with h | h | ⟨b, o, h1, h2⟩
  · exact .inl h
  · exact .inr (.inl h)
  · refine .inr (.inr ⟨b, o, h1, fun j hj => ?_⟩)
    rw [hb.cell (World.block_lt_of_cell? _ _ (h2 j hj))]; exact h2 j hj

theorem clone (a : Option Addr) (len cap : Nat) (D : List Int) (w : World) (h : Dst w a len cap D) (hl : len ≤ 1024) :
    Calls Yba.prog 15 #[.slice a len cap] w fun e w' => ∃ v', e = .returned v' ∧ w'.ownsRow w.heap.size 3 1 v' len (ei D) ∧ Below w.heap.size w w' := by
  obtain ⟨hD, ⟨rfl, rfl, rfl⟩ | ⟨x, rfl, rfl⟩ | ⟨b, o, rfl, hc⟩⟩ := h
  · obtain rfl : D = [] := List.eq_nil_of_length_eq_zero hD
    refine (Yba.slices_Clone_int_nil 0 0 w).mono ?_
    rintro e w' ⟨rfl, rfl⟩
    exact ⟨_, rfl, World.ownsRow_nil _ _ _ _, Below.refl _ _⟩
  · obtain rfl : D = [] := List.eq_nil_of_length_eq_zero hD
    refine (Yba.slices_Clone_int_zero x cap w).mono ?_
    rintro e w' ⟨v', rfl, h1, _, h2⟩
    exact ⟨v', rfl, h1, h2⟩
  · refine (Yba.slices_Clone_int b o len cap D w (by omega) (by omega) hc).mono ?_
    rintro e w' ⟨v', rfl, h1, _, h2⟩
    rw [← hD, List.take_length] at h1
    rw [← hD]
    exact ⟨v', rfl, h1, h2⟩

theorem own_shape {w : World} {B : Nat} {e : TypeId} {v : Value} {n : Nat} {xs : List Value} (h : w.ownsRow B e 1 v n xs) : (v = .slice none 0 0 ∧ n = 0) ∨ ∃ g cap, v = .slice (some ⟨g, 0, none⟩) n cap ∧ B ≤ g ∧ n ≤ cap := by
  rcases h.2 with ⟨h1, h0⟩ | ⟨g, cap, cur, hv, hb, _, hc, _⟩
  · exact .inl ⟨h1, h0⟩
  · exact .inr ⟨g, cap, hv, hb, hc⟩

theorem own_mono {w : World} {B B' : Nat} {e : TypeId} {v : Value} {n : Nat} {xs : List Value} (h : w.ownsRow B e 1 v n xs) (hB : B' ≤ B) : w.ownsRow B' e 1 v n xs := by
  refine ⟨h.1, ?_⟩
  rcases h.2 with h | ⟨g, cap, cur, a1, a2, a3⟩
  · exact .inl h
  · exact .inr ⟨g, cap, cur, a1, by omega, a3⟩
theorem cut_take (d : Nat) (lim : Int) (G : List Int) : cut d lim G = G.take (cut d lim G).length := by
  unfold cut; split
  · rw [List.length_take, List.take_eq_take_iff]; omega
  · rw [List.take_length]
theorem cut_len (d : Nat) (lim : Int) (G : List Int) : (cut d lim G).length = if (d : Int) < lim ∧ lim - d < G.length then (lim - d).toNat else G.length := by
  unfold cut; split
  · rw [List.length_take]; omega
  · rfl
theorem cut_le (d : Nat) (lim : Int) (G : List Int) : (cut d lim G).length ≤ G.length := by rw [cut_len]; split <;> omega

set_option maxHeartbeats 1600000 in
set_option maxRecDepth 100000 in
theorem expect (bt : Nat → Int) (ao : Option Addr) (g N c B xb sb top cb off stride n : Nat) (L : List Int) (da : Option Addr) (dn dc : Nat) (D : List Int) (k lim : Int) (w : World) (hN2 : N ≤ 1024) (hNc : N ≤ c) (hst : 1 ≤ stride) (hst2 : stride ≤ 4) (htop : top ≤ 32)
    (hz : ∀ j, 0 ≤ bt j ∧ bt j ≤ 255) (hI : Idx w B xb sb ao N c top cb off stride n L) (hn : n ≤ 1024)
    (hao : 0 < n → 6 ≤ N ∧ ao = some ⟨g, 0, none⟩ ∧ ∀ j, j < N → w.cell? ⟨g, j, none⟩ = some (.int .u8 (bt j)))
    (hk0 : 0 ≤ k) (hk1 : k < 4294967296) (hlim0 : -9223372036854775808 ≤ lim) (hlim1 : lim ≤ 9223372036854775807) (hD : Dst w da dn dc D) (hdn : dn ≤ 1024) :
    Calls Yba.prog 13 #[.pointer (some ⟨xb, 0, none⟩), .slice da dn dc, .int .u32 k, .int .i64 lim, .slice (some ⟨sb, 0, none⟩) n n] w fun e w' =>
      ∃ v' R, e = .returned v' ∧ R = D ++ cut dn lim (fd (cnd bt N stride off cb (k * 2 ^ top % 4294967296) k) off stride L) ∧ w'.ownsRow w.heap.size 3 1 v' R.length (ei R) ∧ Below w.heap.size w w' := by
  obtain ⟨i3, hi3, hz30, hz31, hz32⟩ := info_parts info3
  have hlen := hI.row.len
  have x3 := hI.x3
  have x4 := hI.x4
  have x5 := hI.x5
  have hcb := hI.cb32
  have hoff := hI.off10
  go_enter Yba.func13, Yba.ntmps13
  go_wp2_with fail
  refine (mask cb w (by omega)).mono ?_
  rintro e w2 ⟨rfl, rfl⟩
  obtain ⟨m, hm⟩ : ∃ m, m = mk cb := ⟨_, rfl⟩
  have hmb := mk_bd cb (by omega)
  rw [← hm] at hmb ⊢
  have HM : Hid (m = mk cb) := hm
  have hm0 := hmb.1
  have hm1 := hmb.2
  clear hm hmb
  go_wp2_with fail
  obtain ⟨y, hy⟩ : ∃ y, y = k * 2 ^ top % 4294967296 := ⟨_, rfl⟩
  rw [← hy]
  have HY : Hid (y = k * 2 ^ top % 4294967296) := hy
  have hy0 : 0 ≤ y := by omega
  have hy1 : y < 4294967296 := by omega
  clear hy
  obtain ⟨wt, hwt⟩ : ∃ wt, wt = bits .and .u32 y m := ⟨_, rfl⟩
  rw [← hwt]
  obtain ⟨lm, hlm⟩ : ∃ lm : Int, lm = (2 ^ off % 4294967296 - 1) % 4294967296 := ⟨_, rfl⟩
  rw [← hlm]
  have hpow : (2 : Nat) ^ off ≤ 2 ^ 10 := Nat.pow_le_pow_right (by omega) hoff
  have hpow1 : 0 < (2 : Nat) ^ off := Nat.pow_pos (by omega)
  have hlm2 : lm = 2 ^ off - 1 := by
    have e2 : ((2 : Int) ^ off) = ((2 ^ off : Nat) : Int) := by simp
    rw [hlm, e2]; omega
  have hlm0 : 0 ≤ lm := by omega
  have hlm1 : lm < 4294967296 := by omega
  have hwt2 : wt = y / 2 ^ (32 - cb) * 2 ^ (32 - cb) := by rw [hwt, HM.out, and_mk y cb hcb hy0 hy1]
  have hwtb := u32_and_bd y m hy0 hy1 hm0 hm1
  rw [← hwt] at hwtb
  have hwt0 := hwtb.1
  have hwt1 := hwtb.2
  have HW : Hid (wt = y / 2 ^ (32 - cb) * 2 ^ (32 - cb)) := hwt2
  have HL : Hid (lm = 2 ^ off - 1) := hlm2
  clear hwt hlm hwt2 hlm2 hwtb hpow hpow1
  go_loopw [14, 41] (fun v iv wr => ∃ i q : Nat, iv = .int .i64 i ∧ i ≤ n ∧ q ≤ i ∧ Hid (q = (fd (cnd bt N stride off cb y k) off stride (L.take i)).length) ∧ wr.ownsRow w2.heap.size 3 1 v q (ei (fd (cnd bt N stride off cb y k) off stride (L.take i))) ∧ Below w2.heap.size w2 wr) (fun _ iv _ => n - (intOf iv).toNat)
  case atStart => exact ⟨0, 0, rfl, by omega, by omega, by simp [Hid, fd], by simpa [fd, ei] using World.ownsRow_nil _ _ _ _, Below.refl _ _⟩
  case round =>
    obtain ⟨i, q, rfl, hin, hqi, HQ, hown, hbr⟩ := hrel
    obtain ⟨wo, hwo⟩ : ∃ wo : World, wo = wr := ⟨_, rfl⟩
    rw [← hwo] at hown hbr ⊢
    clear hwo
    have hszr := hbr.size
    have z0 : wo.cell? ⟨xb, 0, none⟩ = some (.slice ao N c) := by rw [hbr.cell (World.block_lt_of_cell? _ _ hI.x0)]; exact hI.x0
    have z6 : wo.cell? ⟨xb, 6, none⟩ = some (.int .i64 stride) := by rw [hbr.cell (World.block_lt_of_cell? _ _ hI.x6)]; exact hI.x6
    by_cases hlt : i < n
    · have hlti : (i : Int) < n := by omega
      obtain ⟨hN, rfl, hc⟩ := hao (by omega)
      have hcell : wo.cell? ⟨sb, i, none⟩ = some (.int .u32 (gt L i)) := by rw [hbr.cell (World.block_lt_of_cell? _ _ (hI.row.cell i hlt))]; exact hI.row.cell i hlt
      have hent := hI.ents (gt L i) (gt_mem L i (by omega))
      have htake : L.take (i + 1) = L.take i ++ [gt L i] := by rw [List.take_add_one, gt_get L i (by omega)]; rfl
      obtain ⟨e, he⟩ : ∃ e, e = gt L i := ⟨_, rfl⟩
      rw [← he] at hcell hent htake
      clear he
      obtain ⟨he0, he1, hfit⟩ := hent
      obtain ⟨r, hr⟩ : ∃ r, r = (e % 2 ^ off).toNat := ⟨_, rfl⟩
      have hr2 : e % 2 ^ off = (r : Int) := by
        have hp : (0 : Int) < 2 ^ off := Int.pow_pos (by omega)
        have := Int.emod_nonneg e (Int.ne_of_gt hp)
        omega
      have hand : bits .and .u32 e lm = (r : Int) := by rw [HL.out, and_low e off (by omega) he0 he1, hr2]
      rw [← hr] at hfit
      obtain ⟨p, hp⟩ : ∃ p, p = r * stride := ⟨_, rfl⟩
      rw [← hp] at hfit
      have hpi : (r : Int) * stride = p := by rw [hp]; simp
      have hrN : r ≤ 1024 := by
        have : r * 1 ≤ r * stride := Nat.mul_le_mul_left _ hst
        omega
      have hand2 : bits .and .u32 e m = e / 2 ^ (32 - cb) * 2 ^ (32 - cb) := by rw [HM.out, and_mk e cb hcb he0 he1]
      have hab := u32_and_bd e m he0 he1 hm0 hm1
      obtain ⟨a, ha⟩ : ∃ a, a = bits .and .u32 e m := ⟨_, rfl⟩
      rw [← ha] at hand2 hab
      have ham := ha.symm
      have ha0 := hab.1
      have ha1 := hab.2
      have hsnoc : fd (cnd bt N stride off cb y k) off stride (L.take (i + 1)) = if a = wt ∧ kf bt N p = k then fd (cnd bt N stride off cb y k) off stride (L.take i) ++ [(p : Int)] else fd (cnd bt N stride off cb y k) off stride (L.take i) := by
        rw [htake, fd_snoc]
        have : (cnd bt N stride off cb y k e = true) ↔ (a = wt ∧ kf bt N p = k) := by
          unfold cnd
          rw [Bool.and_eq_true, decide_eq_true_eq, decide_eq_true_eq, ← hand2, ← HW.out, ← hr, ← hp]
        simp only [this, hr2, hpi]
      have HS : Hid (fd (cnd bt N stride off cb y k) off stride (L.take (i + 1)) = if a = wt ∧ kf bt N p = k then fd (cnd bt N stride off cb y k) off stride (L.take i) ++ [(p : Int)] else fd (cnd bt N stride off cb y k) off stride (L.take i)) := hsnoc
      have HC : Hid (∀ j, j < N → wo.cell? ⟨g, j, none⟩ = some (.int .u8 (bt j))) := fun j hj => by rw [hbr.cell (World.block_lt_of_cell? _ _ (hc j hj))]; exact hc j hj
      clear hsnoc hab ha hand2 hr hr2 hp htake hc
      by_cases h1 : a = wt
      · as_aux_lemma =>
        subst h1
        go_wp2_with fail
        refine (key bt N g p (c - p) wo hfit HC.out hz).mono ?_
        rintro e1 w4 ⟨rfl, hb4⟩
        have hown4 := owns_below hown hb4
        have hb4' : Below w2.heap.size w2 w4 := hbr.trans (hb4.mono (by omega))
        have hsz4 := hb4'.size
        obtain ⟨kk, hkk⟩ : ∃ kk, kk = kf bt N p := ⟨_, rfl⟩
        have hkb := kf_bd bt N p
        rw [← hkk] at hkb ⊢
        have HK : Hid (kk = kf bt N p) := hkk
        have hkk0 := hkb.1
        have hkk1 := hkb.2
        have hsz4 := hb4'.size
        clear hkk hkb hown hbr hb4
        by_cases h2 : kk = k
        · subst h2
          go_wp2_with (at_builtin; refine wpList_append_own _ rfl _ _ 25 rfl w2.heap.size 3 i3 (.int .i64 0) 1 8 Yba.underlying25 hi3 hz30 hz31 hz32 rfl (by decide) _ _ _ rfl (hown4.alloc _) ⟨w4.heap.size, 0, none⟩ 1 1 [Value.int .i64 p] rfl rfl ?c1 ?c2 ?c3 ?c4 ?c5 ?_)
          case c1 =>
            intro j u' hj
            match j, hj with
            | 0, hj => simp at hj; subst hj; simp [Addr.add]
          case c2 => intro u' hu'; simp at hu'; subst hu'; rfl
          case c3 => unfold maxLen; omega
          case c4 => omega
          case c5 => simp; omega
          intro v1 w5 hown5 hgrow5 _
          have hb5 : Below w2.heap.size w2 w5 := (hb4'.alloc (by omega) _).grown hgrow5 (by have := (World.grownBy_alloc w4 (.cells #[Value.int .i64 p] 3) none).size; omega) (fun j hj => (hown4.lt j hj).1)
          have hsn := HS.out
          rw [if_pos ⟨by first | trivial | rfl, HK.out.symm⟩] at hsn
          have hown6 : w5.ownsRow w2.heap.size 3 1 v1 (q + 1) (ei (fd (cnd bt N stride off cb y kk) off stride (L.take (i + 1)))) := by rw [hsn, ei_append]; exact hown5
          have HQ6 : Hid (q + 1 = (fd (cnd bt N stride off cb y kk) off stride (L.take (i + 1))).length) := by
            have := HQ.out
            show q + 1 = _
            rw [hsn, List.length_append]; simp; omega
          clear hown5 hgrow5 hsn hown4 hb4'
          go_wp2
          go_roundw
          case rel => exact ⟨i + 1, q + 1, by go_num, by omega, by omega, HQ6, hown6, hb5⟩
          case measure => simp [intOf]; omega
        · have hsn := HS.out
          rw [if_neg (by rintro ⟨_, h⟩; exact h2 (HK.out.trans h))] at hsn
          have hown6 : w4.ownsRow w2.heap.size 3 1 u14 q (ei (fd (cnd bt N stride off cb y k) off stride (L.take (i + 1)))) := by rw [hsn]; exact hown4
          have HQ6 : Hid (q = (fd (cnd bt N stride off cb y k) off stride (L.take (i + 1))).length) := by
            have := HQ.out
            show q = _
            rw [hsn]; omega
          clear hsn
          go_wp2
          go_roundw
          case rel => exact ⟨i + 1, q, by go_num, by omega, by omega, HQ6, hown6, hb4'⟩
          case measure => simp [intOf]; omega
      · as_aux_lemma =>
        have hsn := HS.out
        rw [if_neg (by rintro ⟨h, _⟩; exact h1 h)] at hsn
        have hown6 : wo.ownsRow w2.heap.size 3 1 u14 q (ei (fd (cnd bt N stride off cb y k) off stride (L.take (i + 1)))) := by rw [hsn]; exact hown
        have HQ6 : Hid (q = (fd (cnd bt N stride off cb y k) off stride (L.take (i + 1))).length) := by
          have := HQ.out
          show q = _
          rw [hsn]; omega
        clear hsn
        go_wp2
        go_roundw
        case rel => exact ⟨i + 1, q, by go_num, by omega, by omega, HQ6, hown6, hbr⟩
        case measure => simp [intOf]; omega
    · as_aux_lemma =>
      have hlti : ¬ (i : Int) < n := by omega
      obtain rfl : i = n := by omega
      rw [List.take_of_length_le (by omega)] at HQ hown
      obtain ⟨F, hF⟩ : ∃ F, F = fd (cnd bt N stride off cb y k) off stride L := ⟨_, rfl⟩
      rw [← hF] at HQ hown
      have HF : Hid (F = fd (cnd bt N stride off cb y k) off stride L) := hF
      clear hF
      have hD2 : Dst wo da dn dc D := hD.below hbr
      have HD : Hid (Dst wo da dn dc D) := hD2
      have hDl : D.length = dn := hD.1
      have HDl : Hid (D.length = dn) := hDl
      clear hD hD2 hDl hI
      have hshape := own_shape hown
      have hcase : (u14 = .slice none 0 0 ∧ q = 0) ∨ ∃ gg cap, u14 = .slice (some ⟨gg, 0, none⟩) q cap ∧ q ≤ cap := by
        rcases hshape with h | ⟨gg, cap, h1, h2, h3⟩
        · exact .inl h
        · exact .inr ⟨gg, cap, h1, h3⟩
      clear hshape
      obtain ⟨mm, hmm⟩ : ∃ mm, mm = (cut dn lim F).length := ⟨_, rfl⟩
      have hmq : mm ≤ q := by have := HQ.out; have := cut_le dn lim F; omega
      have HM2 : Hid (mm = (cut dn lim F).length) := hmm
      rw [cut_len, ← HQ.out] at hmm
      rcases hcase with ⟨rfl, rfl⟩ | ⟨gg, cap, rfl, hqc⟩
      · obtain rfl : mm = 0 := by omega
        clear hmm
        go_upto_region 13 with fail
        go_cut [88] (fun x wx => x = .bool false ∧ wo = wx)
        case first =>
          as_aux_lemma =>
          by_cases hd1 : (dn : Int) < lim
          · have hov : -9223372036854775808 ≤ lim - dn ∧ lim - dn ≤ 9223372036854775807 := by omega
            have hd2 : ¬ lim - dn < 0 := by omega
            go_wp2_with fail
            go_meet
            case rel => exact ⟨by simp, rfl⟩
          · go_wp2_with fail
            go_meet
            case rel => exact ⟨by simp, rfl⟩
        case rest =>
        obtain ⟨rfl, rfl⟩ := hcut
        go_wp2_with fail
        refine (clone da dn dc D wo HD.out hdn).mono ?_
        rintro e1 w5 ⟨v1, rfl, hown5, hb5⟩
        have hownD := own_mono hown5 hszr
        have hb5' : Below w2.heap.size w2 w5 := hbr.trans (hb5.mono hszr)
        clear hown5 hb5 hown hbr
        go_wp2_with (at_builtin; refine wpList_append_own_none rfl _ _ 25 rfl w2.heap.size 3 i3 1 Yba.underlying25 hi3 _ _ _ rfl hownD rfl ?_)
        go_wp2
        go_ret
        have hc0 : cut dn lim F = [] := List.eq_nil_of_length_eq_zero HM2.out.symm
        refine ⟨v1, D ++ cut dn lim F, rfl, by rw [HF.out, HY.out], ?_, hb5'⟩
        rw [hc0, List.append_nil, HDl.out]
        exact hownD
      · go_upto_region 13 with fail
        obtain ⟨bb, hbb⟩ : ∃ bb : Bool, bb = decide ((dn : Int) < lim ∧ lim - dn < q) := ⟨_, rfl⟩
        have HB : Hid (bb = decide ((dn : Int) < lim ∧ lim - dn < q)) := hbb
        clear hbb
        go_cut [88] (fun x wx => x = .bool bb ∧ wo = wx)
        case first =>
          as_aux_lemma =>
          by_cases hd1 : (dn : Int) < lim
          · have hov : -9223372036854775808 ≤ lim - dn ∧ lim - dn ≤ 9223372036854775807 := by omega
            by_cases hd2 : lim - dn < q
            · go_wp2_with fail
              go_meet
              case rel => exact ⟨by rw [HB.out]; simp [hd1, hd2], rfl⟩
            · go_wp2_with fail
              go_meet
              case rel => exact ⟨by rw [HB.out]; simp [hd1, hd2], rfl⟩
          · go_wp2_with fail
            go_meet
            case rel => exact ⟨by rw [HB.out]; simp; omega, rfl⟩
        case rest =>
        obtain ⟨rfl, rfl⟩ := hcut
        go_upto_if 88 with fail
        go_cut [18] (fun x wx => x = .int .i64 mm ∧ wo = wx)
        case first =>
          as_aux_lemma =>
          by_cases hd : (dn : Int) < lim ∧ lim - dn < q
          · have hb : bb = true := by rw [HB.out]; simpa using hd
            rw [if_pos hd] at hmm
            have hmm2 : lim - dn = (mm : Int) := by omega
            clear hmm hd
            subst hb
            go_wp2_with fail
            go_meet
            case rel => exact ⟨by go_num, rfl⟩
          · have hb : bb = false := by rw [HB.out]; simpa using hd
            rw [if_neg hd] at hmm
            subst hmm hb
            clear hd
            go_wp2_with fail
            go_meet
            case rel => exact ⟨rfl, rfl⟩
        case rest =>
        obtain ⟨rfl, rfl⟩ := hcut
        clear hmm
        go_wp2_with fail
        refine (clone da dn dc D wo HD.out hdn).mono ?_
        rintro e1 w5 ⟨v1, rfl, hown5, hb5⟩
        have hsz5 := hb5.size
        have hownF := owns_below hown hb5
        have hownD := own_mono hown5 hszr
        have hb5' : Below w2.heap.size w2 w5 := hbr.trans (hb5.mono hszr)
        have hcells : ∀ (j : Nat) (u : Value), (ei (F.take mm))[j]? = some u → w5.cell? ((⟨gg, 0, none⟩ : Addr).add j) = some u := by
          intro j u hj
          refine hownF.cells rfl j u ?_
          rw [ei, List.map_take, List.getElem?_take] at hj
          split at hj
          · exact hj
          · cases hj
        have hone : ∀ u ∈ ei (F.take mm), u.oneCell' = true := by
          intro u hu; simp only [ei, List.mem_map] at hu; obtain ⟨z, _, rfl⟩ := hu; rfl
        have hnl : (ei (F.take mm)).length = mm * 1 := by have := HQ.out; rw [ei_length, List.length_take]; omega
        clear hown5 hb5 hown hbr
        go_wp2_with (at_builtin; refine wpList_append_own _ rfl _ _ 25 rfl w2.heap.size 3 i3 (.int .i64 0) 1 8 Yba.underlying25 hi3 hz30 hz31 hz32 rfl (by decide) _ _ _ rfl hownD ⟨gg, 0, none⟩ mm cap (ei (F.take mm)) rfl hnl hcells hone ?c3 ?c4 ?c5 ?_)
        case c3 => unfold maxLen; omega
        case c4 => omega
        case c5 => omega
        intro v6 w6 hown6 hgrow6 _
        have hb6 : Below w2.heap.size w2 w6 := hb5'.grown hgrow6 (by omega) (fun j hj => (hownD.lt j hj).1)
        clear hgrow6 hownD hownF hcells hone hnl
        go_wp2
        go_ret
        refine ⟨v6, D ++ cut dn lim F, rfl, by rw [HF.out, HY.out], ?_, hb6⟩
        rw [List.length_append, HDl.out, ← HM2.out, ei_append, cut_take, ← HM2.out]
        exact hown6
end Go.Proofs.Ybulkkrg.Ix
