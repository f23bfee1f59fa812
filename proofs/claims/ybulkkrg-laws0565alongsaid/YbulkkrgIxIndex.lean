/-
  The walk of 'zzs0565aindex' (11): the index's block, and the stretch: entries in order, sorted by the top byte where it is long.
-/
import Derived.Test.YbulkkrgIxMask
import Derived.Test.YbulkkrgIxNew
import Derived.Test.YbulkkrgSrtTop
import Derived.OwnWalk
import Derived.Deep.DeepCutAuto
namespace Go.Proofs.Ybulkkrg.Ix
open Go.RowKit Go.Proofs.Ybulkkrg.Srt
set_option linter.unusedVariables false
theorem info24 : (Yba.prog.info? 24).map (fun i => (i.zero, i.size, i.bytes)) = some (some (.int .u32 0), 1, 4) := by kernel_rfl
theorem bl_fin : ∀ n : Fin 1024, n.val < 2 ^ Lib.bitLen n.val ∧ Lib.bitLen n.val ≤ 10 := by decide +kernel
theorem bl (n : Nat) (h : n ≤ 1019) : n < 2 ^ Lib.bitLen n ∧ Lib.bitLen n ≤ 10 := bl_fin ⟨n, by omega⟩

theorem grown_of_below {w w' : World} (h : Below w.heap.size w w') : w.grownBy w' none := ⟨h.os, h.tape, h.output, h.size, fun k hk _ => h.block k hk⟩
theorem owns_below {w w' : World} {B : Nat} {e : TypeId} {v : Value} {n : Nat} {xs : List Value} (h : w.ownsRow B e 1 v n xs) (hb : Below w.heap.size w w') : w'.ownsRow B e 1 v n xs := by
  refine h.kept (grown_of_below hb) ?_
  cases hv : v.ownBlock
  · exact .inl rfl
  · right; simp
theorem Row_below {w w' : World} {B g n cap : Nat} {l : List Int} (h : Row w B g n cap l) (hb : Below w.heap.size w w') : Row w' B g n cap l := ⟨owns_below h.own hb⟩
/-- the comparison by the top byte -/
theorem cmpOk (g : Nat) (w : World) : Cmp g w (fun x => x / 16777216) (fun x => 0 ≤ x ∧ x < 4294967296) := fun x y W hx hy _ =>
  (cmp x y W hx.1 hx.2 hy.1 hy.2).mono fun e W' h => ⟨h.1, 0, h.2⟩

/-- the first i entries -/
def ens (bt : Nat → Int) (N stride top cb i : Nat) : List Int := (List.range i).map (en bt N stride top cb)
theorem ens_succ (bt : Nat → Int) (N stride top cb i : Nat) : ens bt N stride top cb (i + 1) = ens bt N stride top cb i ++ [en bt N stride top cb i] := by simp [ens, List.range_succ]

/-- the index and its stretch in memory -/
structure Idx (w : World) (B xb sb : Nat) (ao : Option Addr) (N c top cb off stride n : Nat) (L : List Int) : Prop where
  x0 : w.cell? ⟨xb, 0, none⟩ = some (.slice ao N c)
  x3 : w.cell? ⟨xb, 3, none⟩ = some (.int .u64 top)
  x4 : w.cell? ⟨xb, 4, none⟩ = some (.int .u64 off)
  x5 : w.cell? ⟨xb, 5, none⟩ = some (.int .u64 cb)
  x6 : w.cell? ⟨xb, 6, none⟩ = some (.int .i64 stride)
  row : Row w B sb n n L
  cb32 : cb ≤ 32
  off10 : off ≤ 10
  ents : ∀ e ∈ L, 0 ≤ e ∧ e < 4294967296 ∧ (e % 2 ^ off).toNat * stride + 6 ≤ N
  srd : 128 < n → Srd (fun x => x / 16777216) 0 n L

theorem cell_at (w : World) (cs : Array Value) (t : TypeId) (j : Nat) (v : Value) (h : cs[j]? = some v) : (w.alloc (.cells cs t)).cell? ⟨w.heap.size, j, none⟩ = some v := by
  rw [World.cell?_alloc_new]; exact h

set_option maxHeartbeats 1600000 in
set_option maxRecDepth 100000 in
theorem index (bt : Nat → Int) (ao : Option Addr) (g N c stride top ck n : Nat) (w : World) (hN2 : N ≤ 1024) (hNc : N ≤ c) (hst : 1 ≤ stride) (hst2 : stride ≤ 4) (htop : top ≤ 32) (hck : ck ≤ 255)
    (hz : ∀ j, 0 ≤ bt j ∧ bt j ≤ 255)
    (hcase : (N < 6 ∧ n = 0) ∨ (6 ≤ N ∧ n = (N - 6) / stride + 1 ∧ ao = some ⟨g, 0, none⟩ ∧ ∀ j, j < N → w.cell? ⟨g, j, none⟩ = some (.int .u8 (bt j)))) :
    Calls Yba.prog 11 #[.slice ao N c, .int .i64 stride, .int .u64 top, .int .u64 ck] w fun e w' => ∃ B cb off xb sb L, e = .returned (.tuple #[.pointer (some ⟨xb, 0, none⟩), .slice (some ⟨sb, 0, none⟩) n n]) ∧
      Idx w' B xb sb ao N c top cb off stride n L ∧ Below w.heap.size w w' := by
  obtain ⟨i24, hi24, hz240, hz241, hz242⟩ := info_parts info24
  have hn1 : n ≤ 1019 := by
    rcases hcase with ⟨_, h⟩ | ⟨_, h, _⟩
    · omega
    · have : (N - 6) / stride ≤ N - 6 := Nat.div_le_self _ _; omega
  go_enter Yba.func11, Yba.ntmps11
  go_upto_if 20 with fail
  go_cut [10] (fun x wx => x = .int .i64 n ∧ w = wx)
  case first =>
    as_aux_lemma =>
    rcases hcase with ⟨hN, rfl⟩ | ⟨hN, hn, rfl, hc⟩
    · have hN3 : ¬ (6 : Int) ≤ N := by omega
      go_wp2_with fail
      go_meet
      case rel => exact ⟨rfl, rfl⟩
    · have hN3 : (6 : Int) ≤ N := by omega
      have hd : Int.tdiv ((N : Int) - 6) stride = (n : Int) - 1 := by
        rw [show ((N : Int) - 6) = ((N - 6 : Nat) : Int) by omega, Int.tdiv_eq_ediv_of_nonneg (by omega), hn]
        simp
      clear hn hc
      go_wp2_with fail
      go_meet
      case rel => exact ⟨rfl, rfl⟩
  case rest =>
  obtain ⟨rfl, rfl⟩ := hcut
  go_wp2_with fail
  refine (Yba.bits_Len n w (by omega) (by omega)).mono ?_
  rintro e w' ⟨rfl, rfl⟩
  rw [Int.toNat_natCast]
  have hbl := bl n hn1
  obtain ⟨off, hoff⟩ : ∃ off, off = Lib.bitLen n := ⟨_, rfl⟩
  rw [← hoff] at hbl ⊢
  clear hoff
  have hb1 : off ≤ 10 := hbl.2
  have hb2 : Hid (n < 2 ^ off) := hbl.1
  clear hbl
  go_upto_if 36 with fail
  go_cut [12] (fun x wx => ∃ cb : Nat, x = .int .u64 cb ∧ cb + off ≤ 32 ∧ w' = wx)
  case first =>
    as_aux_lemma =>
    by_cases hg : 32 - off < ck % 33
    · have hgi : (32 : Int) - off < (ck : Int) % 33 := by omega
      go_wp2_with fail
      go_meet
      case rel => exact ⟨32 - off, by go_num, by omega, rfl⟩
    · have hgi : ¬ (32 : Int) - off < (ck : Int) % 33 := by omega
      go_wp2_with fail
      go_meet
      case rel => exact ⟨ck % 33, by go_num, by omega, rfl⟩
  case rest =>
  obtain ⟨cb, rfl, hcb, rfl⟩ := hcut
  go_wp2_with (refine wpList_new54 rfl rfl _ _ _ _ _ _ rfl rfl ao N c top off cb stride rfl rfl rfl rfl rfl (fun _ => rfl) ?_)
  intro cs hcs h0 h3 h4 h5 h6
  have hsz1 : (w'.alloc (.cells cs 54)).heap.size = w'.heap.size + 1 := Array.size_push _
  have y0 := cell_at w' cs 54 0 _ h0
  have y3 := cell_at w' cs 54 3 _ h3
  have y4 := cell_at w' cs 54 4 _ h4
  have y5 := cell_at w' cs 54 5 _ h5
  have y6 := cell_at w' cs 54 6 _ h6
  have hB1 : Below w'.heap.size w' (w'.alloc (.cells cs 54)) := (Below.refl _ _).alloc (by omega) _
  generalize w'.alloc (.cells cs 54) = w1 at *
  have X0 : Hid (w1.cell? ⟨w'.heap.size, 0, none⟩ = some (.slice ao N c)) := y0
  have X3 : Hid (w1.cell? ⟨w'.heap.size, 3, none⟩ = some (.int .u64 top)) := y3
  have X4 : Hid (w1.cell? ⟨w'.heap.size, 4, none⟩ = some (.int .u64 off)) := y4
  have X5 : Hid (w1.cell? ⟨w'.heap.size, 5, none⟩ = some (.int .u64 cb)) := y5
  have X6 : Hid (w1.cell? ⟨w'.heap.size, 6, none⟩ = some (.int .i64 stride)) := y6
  clear h0 h3 h4 h5 h6 y0 y3 y4 y5 y6 hcs
  go_wp2_with fail
  refine (mask cb w1 (by omega)).mono ?_
  rintro e w2 ⟨rfl, rfl⟩
  obtain ⟨m, hm⟩ : ∃ m, m = mk cb := ⟨_, rfl⟩
  have hmb := mk_bd cb (by omega)
  rw [← hm] at hmb ⊢
  have HM : Hid (m = mk cb) := hm
  have hm0 := hmb.1
  have hm1 := hmb.2
  clear hm hmb
  go_wp2_with (at_make; refine wpList_make_own _ rfl _ _ 34 rfl (w'.heap.size + 1) 24 i24 (.int .u32 0) 1 Yba.underlying34 hi24 hz240 hz241 .i64 .i64 n n rfl rfl rfl ?c1 ?c2 ?c3 ?_)
  case c1 => rw [hz242]; omega
  case c2 => unfold maxLen; omega
  case c3 => omega
  intro w3 hown hgrow
  have hsz3 := hgrow.size
  have hb3 : Below (w'.heap.size + 1) w2 w3 := (Below.refl _ _).grown hgrow (by omega) (fun k hk => by cases hk)
  go_wp2
  go_loopw [15, 16] (fun v iv wr => ∃ i : Nat, v = .slice (some ⟨w'.heap.size + 1, 0, none⟩) i n ∧ iv = .int .i64 i ∧ i ≤ n ∧ Row wr (w'.heap.size + 1) (w'.heap.size + 1) i n (ens bt N stride top cb i) ∧ Below (w'.heap.size + 1) w2 wr) (fun _ iv _ => n - (intOf iv).toNat)
  case atStart => exact ⟨0, rfl, rfl, by omega, ⟨hown⟩, hb3⟩
  case round =>
    obtain ⟨i, rfl, rfl, hin, hR, hbr⟩ := hrel
    obtain ⟨wo, hwo⟩ : ∃ wo : World, wo = wr := ⟨_, rfl⟩
    rw [← hwo] at hR hbr ⊢
    clear hwo
    have hszr := hbr.size
    by_cases hlt : i < n
    · as_aux_lemma =>
      have hlti : (i : Int) < n := by omega
      obtain ⟨hN, hn, rfl, hc⟩ : 6 ≤ N ∧ n = (N - 6) / stride + 1 ∧ ao = some ⟨g, 0, none⟩ ∧ ∀ j, j < N → w'.cell? ⟨g, j, none⟩ = some (.int .u8 (bt j)) := by
        rcases hcase with ⟨_, h⟩ | h
        · omega
        · exact h
      clear hcase
      have hfit : i * stride + 6 ≤ N := by
        have : i * stride ≤ (N - 6) / stride * stride := Nat.mul_le_mul_right _ (by omega)
        have : (N - 6) / stride * stride ≤ N - 6 := Nat.div_mul_le_self _ _
        omega
      obtain ⟨p, hp⟩ : ∃ p, p = i * stride := ⟨_, rfl⟩
      rw [← hp] at hfit
      have hpi : (i : Int) * stride = p := by rw [hp]; simp
      have HP : Hid (p = i * stride) := hp
      have HN : Hid (n = (N - 6) / stride + 1) := hn
      clear hn hp
      have hg : g < w'.heap.size := World.block_lt_of_cell? _ _ (hc 0 (by omega))
      have hco : ∀ j, j < N → wo.cell? ⟨g, j, none⟩ = some (.int .u8 (bt j)) := fun j hj => by
        rw [hbr.cell (by show g < _; omega), hB1.cell (by exact hg)]; exact hc j hj
      have HCO : Hid (∀ j, j < N → wo.cell? ⟨g, j, none⟩ = some (.int .u8 (bt j))) := hco
      clear hco hc
      go_wp2_with fail
      refine (key bt N g p (c - p) wo hfit HCO.out hz).mono ?_
      rintro e w4 ⟨rfl, hb4⟩
      have hR4 := Row_below hR hb4
      have hb4' : Below (w'.heap.size + 1) w2 w4 := hbr.trans (hb4.mono (by omega))
      obtain ⟨kk, hkk⟩ : ∃ kk, kk = kf bt N p := ⟨_, rfl⟩
      have hkb := kf_bd bt N p
      rw [← hkk] at hkb ⊢
      have HK : Hid (kk = kf bt N p) := hkk
      have hk0 := hkb.1
      have hk1 := hkb.2
      have hsz4 := hb4'.size
      clear hkk hkb hR hbr hb4
      go_wp2_with (at_builtin; refine wpList_append_fits _ rfl _ _ 34 rfl (w'.heap.size + 1) 24 i24 1 Yba.underlying34 hi24 hz241 (w'.heap.size + 1) i n _ rfl (hR4.own.alloc _) ⟨w4.heap.size, 0, none⟩ 1 1 [Value.int .u32 (bits .or .u32 (bits .and .u32 (kk * 2 ^ top % 4294967296) m) i)] rfl rfl ?c1 ?c2 ?c3 ?_)
      case c1 =>
        intro j u' hj
        match j, hj with
        | 0, hj => simp at hj; subst hj; simp [Addr.add]
      case c2 => intro u' hu'; simp at hu'; subst hu'; rfl
      case c3 => omega
      intro w5 hown5 hgrow5
      have hR5 : Row w5 (w'.heap.size + 1) (w'.heap.size + 1) (i + 1) n (ens bt N stride top cb (i + 1)) := by
        refine ⟨?_⟩
        have he := en_or bt N stride top cb off i hcb (by have := hb2.out; omega)
        rw [← HP.out, ← HK.out, ← HM.out] at he
        rw [he] at hown5
        rw [ens_succ]
        simpa [enc] using hown5
      have hb5 : Below (w'.heap.size + 1) w2 w5 := (hb4'.alloc (by omega) _).grown hgrow5 (by have := (World.grownBy_alloc w4 (.cells #[Value.int .u32 (bits .or .u32 (bits .and .u32 (kk * 2 ^ top % 4294967296) m) i)] 24) none).size; omega) (fun k hk => by cases hk; omega)
      clear hown5 hgrow5 hR4 hb4'
      go_wp2
      go_roundw
      case rel => exact ⟨i + 1, rfl, by go_num, by omega, hR5, hb5⟩
      case measure => simp [intOf]; omega
    · as_aux_lemma =>
      obtain rfl : i = n := by omega
      have hVV : ∀ x ∈ ens bt N stride top cb i, 0 ≤ x ∧ x < 4294967296 ∧ (x % 2 ^ off).toNat * stride + 6 ≤ N := by
        intro x hx
        simp only [ens, List.mem_map, List.mem_range] at hx
        obtain ⟨q, hq, rfl⟩ := hx
        have hE := en_bd bt N stride top cb off q hcb (by have := hb2.out; omega)
        refine ⟨hE.1, hE.2.1, ?_⟩
        rw [hE.2.2, Int.toNat_natCast]
        rcases hcase with ⟨_, h⟩ | ⟨h6, h, _⟩
        · omega
        · have : q * stride ≤ (N - 6) / stride * stride := Nat.mul_le_mul_right _ (by omega)
          have : (N - 6) / stride * stride ≤ N - 6 := Nat.div_mul_le_self _ _
          omega
      by_cases hlong : 128 < i
      · have hli : (128 : Int) < i := by omega
        have HV : Hid (∀ x ∈ ens bt N stride top cb i, 0 ≤ x ∧ x < 4294967296 ∧ (x % 2 ^ off).toNat * stride + 6 ≤ N) := hVV
        clear hVV
        go_wp2_with fail
        refine (sortStable (w'.heap.size + 1) (w'.heap.size + 1) i i _ _ _ wo (cmpOk _ _) (fun x hx => ⟨(HV.out x hx).1, (HV.out x hx).2.1⟩) hR (by omega)).mono ?_
        rintro e w6 ⟨rfl, ⟨L, hRL, hperm, hsrd⟩, hsame⟩
        go_wp2
        go_ret2
        have hb6 : Below (w'.heap.size + 1) w2 w6 := hbr.trans ((Below.refl _ _).grown hsame (by omega) (fun k hk => by cases hk; omega))
        refine ⟨w'.heap.size + 1, cb, off, w'.heap.size, w'.heap.size + 1, L, rfl, ?_, hB1.trans (hb6.mono (by omega))⟩
        refine ⟨?_, ?_, ?_, ?_, ?_, hRL, by omega, by omega, fun e he => HV.out e (hperm.mem_iff.1 he), fun _ => hsrd⟩
        · rw [hb6.cell (by show w'.heap.size < _; omega)]; exact X0
        · rw [hb6.cell (by show w'.heap.size < _; omega)]; exact X3
        · rw [hb6.cell (by show w'.heap.size < _; omega)]; exact X4
        · rw [hb6.cell (by show w'.heap.size < _; omega)]; exact X5
        · rw [hb6.cell (by show w'.heap.size < _; omega)]; exact X6
      · have hli : ¬ (128 : Int) < i := by omega
        go_wp2
        go_ret2
        refine ⟨w'.heap.size + 1, cb, off, w'.heap.size, w'.heap.size + 1, rfl, ⟨ens bt N stride top cb i, ?_⟩, hB1.trans (hbr.mono (by omega))⟩
        refine ⟨?_, ?_, ?_, ?_, ?_, hR, by omega, by omega, hVV, fun h => by omega⟩
        · rw [hbr.cell (by show w'.heap.size < _; omega)]; exact X0
        · rw [hbr.cell (by show w'.heap.size < _; omega)]; exact X3
        · rw [hbr.cell (by show w'.heap.size < _; omega)]; exact X4
        · rw [hbr.cell (by show w'.heap.size < _; omega)]; exact X5
        · rw [hbr.cell (by show w'.heap.size < _; omega)]; exact X6
end Go.Proofs.Ybulkkrg.Ix
