/-
  The walk of 'huffmanLengths' (14).
-/
import Derived.Test.YbulkkrgDoorHuMem
import Derived.Test.YbulkkrgDoorHuFns
import Derived.Test.YbulkkrgDoorRows
import Derived.WalkKit
import Derived.ProofKit
import Derived.WalkSmall
import Derived.BigRegion
import Derived.BigQuiet
import Derived.Outline
import Derived.Deep.CutBlock
import Derived.Deep.DeepCutAuto
namespace Go.Proofs.YbulkkrgDoor.Hu
open Go.RowKit Go.Proofs.YbulkkrgDoor.Srt Go.Proofs.YbulkkrgDoor.Mm
set_option linter.unusedVariables false

theorem same_cell {g : Nat} {a b : World} (h : Same g a b) {p : Addr} {v : Value} (hc : a.cell? p = some v) (hp : p.block ≠ g) : b.cell? p = some v := grown_cell h hc hp
theorem cmp_of (fb g nb fo N c : Nat) (F : List Int) (W0 : World) (hA : At W0 fb 42 [.slice (some ⟨nb, fo, none⟩) N c]) (hc : ∀ s, s < N → W0.cell? ⟨nb, fo + s, none⟩ = some (.int .u32 (gt F s))) (hb : ∀ s, s < N → 0 ≤ gt F s ∧ gt F s < 4294967296) (h1 : fb ≠ g) (h2 : nb ≠ g) :
    Cmp fb g W0 (fun x => gt F x.toNat) (fun x => 0 ≤ x ∧ x < N) := by
  intro x y W hx hy hS
  obtain ⟨x, rfl⟩ : ∃ k : Nat, x = k := ⟨x.toNat, by omega⟩
  obtain ⟨y, rfl⟩ : ∃ k : Nat, y = k := ⟨y.toNat, by omega⟩
  have bx := hb x (by omega)
  have by_ := hb y (by omega)
  exact cmp fb nb fo N c x y _ _ W (same_cell hS (hA.cell 0 _ rfl) h1) (by omega) (by omega) (same_cell hS (hc x (by omega)) h2) (same_cell hS (hc y (by omega)) h2) bx.1 bx.2 by_.1 by_.2

theorem At.new2 (w : World) (o : Obj) (τ : TypeId) (cs : List Value) : At ((w.alloc o).alloc (.cells cs.toArray τ)) (w.heap.size + 1) τ cs := by
  have := At.new (w.alloc o) τ cs
  rwa [show (w.alloc o).heap.size = w.heap.size + 1 from Array.size_push _] at this
theorem light {fq : Value} {lb : Nat} {τ : TypeId} {pre post : List Value} {s g n K bn bw bb bp : Nat} {spare : List Value} {w0 wx : World} {l U Wt P : List Int} (hM : M fq lb τ pre post s g n K bn bw bb bp spare w0 wx l U Wt P) (b1 b2 m lf nd : Nat) (hK : K = 2 * n - 1) (hn : n ≤ 1000) (hm : m ≤ K) (h1 : At wx b1 3 [.int .i64 lf]) (h2 : At wx b2 3 [.int .i64 nd]) (h12 : b1 ≠ b2) (hb1 : bp < b1) (hb2 : bp < b2)
    (hWl : Wt.length = K) (hW : ∀ j, j < K → 0 ≤ gt Wt j ∧ gt Wt j < 18446744073709551616) (hok : lf < n ∨ nd < m) (hlf : lf ≤ n) (hnd : nd ≤ m) :
    Calls Ybad.prog 18 #[.int .i64 m, .pointer (some ⟨b1, 0, none⟩), .pointer (some ⟨bn, 0, none⟩), .pointer (some ⟨b2, 0, none⟩), .pointer (some ⟨bb, 0, none⟩)] wx fun e w' => ∃ a lf' nd' : Nat, e = .returned (.int .i64 a) ∧
      Hid (Pick n m lf nd a lf' nd') ∧ M fq lb τ pre post s g n K bn bw bb bp spare w0 w' l U Wt P ∧ At w' b1 3 [.int .i64 lf'] ∧ At w' b2 3 [.int .i64 nd'] := by
  subst hK
  refine (lightest b1 bn b2 bb bw n m lf nd wx hn hm (h1.cell 0 _ rfl) (hM.hN.cell 0 _ rfl) (h2.cell 0 _ rfl) (hM.hWb.cell 0 _ rfl) (h1.free 0) (h2.free 0) (fun j hj => ⟨_, Seg.cell0 hM.hW j (by omega), hW j hj⟩) hok hlf hnd).mono ?_
  rintro e w' ⟨a, k, rfl, ⟨rfl, h3, rfl⟩ | ⟨rfl, h3, rfl⟩⟩
  · exact ⟨a, a + 1, nd, rfl, .inl ⟨rfl, h3, rfl, rfl⟩, (hM.drewN k).other _ _ hb1, (h1.drewN k).set 0 _, (h2.drewN k).other _ _ (Ne.symm h12)⟩
  · exact ⟨a, lf, a + 1, rfl, .inr ⟨rfl, h3, rfl, rfl⟩, (hM.drewN k).other _ _ hb2, (h1.drewN k).other _ _ h12, (h2.drewN k).set 0 _⟩

/-- the lengths while they are taken off the depths -/
structure Cut5 (N lim : Nat) (U dl l : List Int) (i : Nat) (lg : Int) : Prop where
  len : l.length = N
  eq : ∀ t, t < i → ln l (gt U t) = min (gt dl t) lim
  off : ∀ s, s < N → (∀ t, t < i → gt U t ≠ s) → gt l s = 0
  le : ∀ t, t < i → gt dl t ≤ lg
  at_ : lg = 0 ∨ ∃ t, t < i ∧ gt dl t = lg
theorem Cut5.start (N lim : Nat) (U dl : List Int) : Cut5 N lim U dl (List.replicate N 0) 0 0 :=
  ⟨by simp, fun t ht => by omega, fun s _ _ => gt_replicate _ _, fun t ht => by omega, .inl rfl⟩
theorem Cut5.step {N lim : Nat} {U dl l : List Int} {i : Nat} {lg : Int} (h : Cut5 N lim U dl l i lg) (hU : Us N U) (hi : i < U.length) : Cut5 N lim U dl (l.set (gt U i).toNat (min (gt dl i) lim)) (i + 1) (max lg (gt dl i)) := by
  have bi := hU.bd i hi
  have hl := h.len
  refine ⟨by rw [List.length_set]; exact h.len, fun t ht => ?_, fun s hs hn => ?_, fun t ht => ?_, ?_⟩
  · by_cases e : t = i
    · subst e; exact ln_set_self bi.1 (by omega)
    · rw [ln_set_ne bi.1 (hU.bd t (by omega)).1 (hU.ne i t hi (by omega) (Ne.symm e))]; exact h.eq t (by omega)
  · have := hn i (by omega)
    rw [gt_set_ne _ _ _ _ (by omega)]; exact h.off s hs (fun t ht => hn t (by omega))
  · by_cases e : t = i
    · subst e; omega
    · have := h.le t (by omega); omega
  · by_cases hc : gt dl i ≤ lg
    · rw [Int.max_eq_left hc]
      rcases h.at_ with h1 | ⟨t, h1, h2⟩
      · exact .inl h1
      · exact .inr ⟨t, by omega, h2⟩
    · rw [Int.max_eq_right (by omega)]; exact .inr ⟨i, by omega, rfl⟩
theorem Cut5.fin {N lim q lf nd : Nat} {U dl l P : List Int} {lg : Int} (h : Cut5 N lim U dl l q lg) (hq : U.length = q) (hl : 1 ≤ lim) (hD : Dep q 0 P dl) (hT : Tr q (2 * q - 1) lf nd P) :
    Ln N lim U l ∧ (lg ≤ lim → Ks lim U l = 2 ^ lim) ∧ (lim < lg → 2 ^ lim - Ks lim U l < 0) := by
  have h2 := hT.n2
  have pos : ∀ t, t < q → 1 ≤ gt dl t := fun t ht => by
    have h1 := hD.one t (by omega) (by omega)
    obtain ⟨p, p1, p2, p3⟩ := hT.par t (by have := hT.last; omega)
    rw [p1, Int.toNat_natCast] at h1
    have := hD.bd p (by omega) (by omega)
    omega
  obtain ⟨k1, k2⟩ := off_depths (N := N) hD hT hq (fun i hi => h.eq i hi)
  refine ⟨⟨h.len, fun i hi => ?_, fun s hs hn => h.off s hs (fun t ht => hn t (by omega))⟩, fun hg => k1 fun i hi => by have := h.le i hi; omega, fun hg => k2 ?_⟩
  · rw [h.eq i (by omega)]
    have := pos i (by omega)
    omega
  · rcases h.at_ with h1 | ⟨t, h1, h3⟩
    · omega
    · exact ⟨t, h1, by omega⟩

theorem pow_bd (z : Nat) (h : z ≤ 15) : 1 ≤ (2 : Int) ^ z ∧ (2 : Int) ^ z ≤ 32768 ∧ wrap64 ((2 : Int) ^ z) = 2 ^ z := by
  have h1 : (2 : Nat) ^ 0 ≤ 2 ^ z := Nat.pow_le_pow_right (by omega) (by omega)
  have h2 : (2 : Nat) ^ z ≤ 2 ^ 15 := Nat.pow_le_pow_right (by omega) h
  have h3 : (2 : Int) ^ z = ((2 ^ z : Nat) : Int) := (Int.natCast_pow 2 z).symm
  refine ⟨by omega, by omega, by unfold wrap64; omega⟩
theorem un_bd {N lim : Nat} {U l : List Int} (h : Ln N lim U l) (hU : Us N U) (hl : lim ≤ 15) (i : Nat) (hi : i < U.length) : ∃ x y z : Nat, gt U i = x ∧ x < N ∧ gt l x = y ∧ 1 ≤ y ∧ y ≤ lim ∧ (lim : Int) - y = z ∧ z ≤ 14 ∧ un lim l (gt U i) = 2 ^ z := by
  have b := hU.bd i hi
  have c := h.bd i hi
  obtain ⟨x, hx⟩ : ∃ x : Nat, gt U i = x := ⟨(gt U i).toNat, by omega⟩
  rw [hx] at c
  have hln : ln l x = gt l x := rfl
  obtain ⟨y, hy⟩ : ∃ y : Nat, gt l x = y := ⟨(gt l x).toNat, by omega⟩
  refine ⟨x, y, lim - y, hx, by omega, hy, by omega, by omega, by omega, by omega, ?_⟩
  unfold un
  rw [hx, hln, hy]
  rfl

theorem w64 (x : Int) (h1 : -9223372036854775808 ≤ x) (h2 : x ≤ 9223372036854775807) : wrap64 x = x := by unfold wrap64; omega

/-- the pick so far: none, and none was fit; or a fit one -/
def Pk (ok : Int → Prop) (U : List Int) (seen : Nat → Prop) (p : Int) : Prop := (p = -1 ∧ ∀ t, seen t → t < U.length → ¬ ok (gt U t)) ∨ ∃ t, t < U.length ∧ p = gt U t ∧ ok (gt U t)
theorem Pk.yes {ok : Int → Prop} {U : List Int} {seen : Nat → Prop} {i : Nat} (hi : i < U.length) (h : ok (gt U i)) : Pk ok U seen (gt U i) := .inr ⟨i, hi, rfl, h⟩
theorem Pk.keep {ok : Int → Prop} {U : List Int} {seen seen' : Nat → Prop} {p : Int} (h : Pk ok U seen p) (hp : p ≠ -1) : Pk ok U seen' p := by
  rcases h with ⟨h, _⟩ | h
  · exact absurd h hp
  · exact .inr h
theorem Pk.no {ok : Int → Prop} {U : List Int} {seen seen' : Nat → Prop} {p : Int} {i : Nat} (h : Pk ok U seen p) (hs : ∀ t, seen' t → seen t ∨ t = i) (hi : ¬ ok (gt U i)) : Pk ok U seen' p := by
  rcases h with ⟨h, h2⟩ | h
  · refine .inl ⟨h, fun t ht hl => ?_⟩
    rcases hs t ht with h3 | rfl
    · exact h2 t h3 hl
    · exact hi
  · exact .inr h

set_option maxHeartbeats 3200000 in
set_option maxRecDepth 100000 in
theorem lengths (nb fo N c0 lb lo c1 lim : Nat) (τ : TypeId) (pre post : List Value) (l0 F : List Int) (w : World) (hN1 : 1 ≤ N) (hN2 : N ≤ 300) (hl1 : 2 ≤ lim) (hl2 : lim ≤ 15) (hNl : N ≤ 2 ^ lim) (hc0 : N ≤ c0) (hc1 : N ≤ c1)
    (hFb : ∀ s, s < N → 0 ≤ gt F s ∧ gt F s < 4294967296) (hFc : ∀ s, s < N → w.cell? ⟨nb, fo + s, none⟩ = some (.int .u32 (gt F s))) (hS : Seg w lb τ .u8 pre l0 post) (hlo : lo = pre.length) (hl0 : l0.length = N) (hne : nb ≠ lb) :
    Calls Ybad.prog 14 #[.slice (some ⟨nb, fo, none⟩) N c0, .slice (some ⟨lb, lo, none⟩) N c1, .int .i64 lim] w fun e w' => e = .returned (.tuple #[]) ∧ (∃ l, Seg w' lb τ .u8 pre l post ∧ Hf N lim F l) ∧ w.grownBy w' (some lb) := by
  have hlb := hS.lt
  have hnbl : nb < w.heap.size := World.block_lt_of_cell? _ _ (hFc 0 (by omega))
  obtain ⟨W2, hrun, hS2, hg2⟩ := (hS.alloc (.cells #[.slice (some ⟨nb, fo, none⟩) N c0] 42)).clear lo N c1 0 hlo hl0.symm
  have hfb : At W2 w.heap.size 42 [.slice (some ⟨nb, fo, none⟩) N c0] := by
    exact (At.new w 42 [.slice (some ⟨nb, fo, none⟩) N c0]).kept hg2 (by omega)
  have hgr : w.grownBy W2 (some lb) := grown_own (grown_alloc (World.grownBy.refl w (some lb)) _) hg2 (fun k hk => .inr (Option.some.inj hk).symm)
  have hfc := hfb.cell 0 _ rfl
  have HF : Hid (∀ s, s < N → 0 ≤ gt F s ∧ gt F s < 4294967296) := hFb
  have HC : Hid (∀ s, s < N → w.cell? ⟨nb, fo + s, none⟩ = some (.int .u32 (gt F s))) := hFc
  have HLo : Hid (lo = pre.length) := hlo
  have HNl : Hid (N ≤ 2 ^ lim) := hNl
  have hsz2 : w.heap.size + 1 ≤ W2.heap.size := hfb.lt
  clear hFb hFc hlo hl0 hS hg2 hNl
  obtain ⟨i3, hi3, hz30, hz31, hz32⟩ := info_parts info3
  obtain ⟨i67, hi67, hz670, hz671, hz672⟩ := info_parts info67
  go_enter Ybad.func14, Ybad.ntmps14
  go_upto_block 0 with fail
  go_cut [6] from 34 to 48 (fun v wx => wx.ownsRow (w.heap.size + 1) 3 1 v (usd F N).length ((usd F N).map (Value.int .i64)) ∧ Seg wx lb τ .u8 pre (List.replicate N 0) post ∧ At wx w.heap.size 42 [.slice (some ⟨nb, fo, none⟩) N c0] ∧ w.grownBy wx (some lb))
  case first => as_aux_lemma =>
    go_wp2_with fail
    go_loopw [6, 37] (fun v iv wr => ∃ i q : Nat, iv = .int .i64 i ∧ i ≤ N ∧ Hid (q = (usd F i).length) ∧ q ≤ i ∧ wr.ownsRow (w.heap.size + 1) 3 1 v q ((usd F i).map (Value.int .i64)) ∧ Seg wr lb τ .u8 pre (List.replicate N 0) post ∧ At wr w.heap.size 42 [.slice (some ⟨nb, fo, none⟩) N c0] ∧ w.grownBy wr (some lb)) (fun _ iv _ => N - (intOf iv).toNat)
    case atStart => exact ⟨0, 0, rfl, by omega, rfl, by omega, ⟨by simp [usd_zero], .inl ⟨rfl, rfl⟩⟩, hS2, hfb, hgr⟩
    case round =>
      clear hS2 hfb hgr hfc hrun hsz2
      obtain ⟨i, q, rfl, hi, HQ, hqi, ho, hSr, hB, hG⟩ := hrel
      obtain ⟨wo, hwo⟩ : ∃ wo : World, wo = wr := ⟨_, rfl⟩
      rw [← hwo] at ho hSr hB hG ⊢
      clear hwo
      have hbl := hB.lt
      by_cases hlt : i < N
      · have hlti : (i : Int) < N := by omega
        have hc := grown_cell hG (HC.out i hlt) hne
        have hbd := HF.out i hlt
        by_cases h0 : 0 < gt F i
        · have HU : Hid (usd F (i + 1) = usd F i ++ [(i : Int)]) := usd_yes F i h0
          obtain ⟨f, hf⟩ : ∃ f, f = gt F i := ⟨_, rfl⟩
          rw [← hf] at hc hbd h0
          clear hf
          go_wp2_with (at_builtin; refine wpList_append_own _ rfl _ _ 63 rfl (w.heap.size + 1) 3 i3 (.int .i64 0) 1 8 Ybad.underlying63 hi3 hz30 hz31 hz32 rfl (by decide) _ _ _ rfl (ho.alloc _) ⟨wo.heap.size, 0, none⟩ 1 1 [Value.int .i64 i] rfl rfl ?c1 ?c2 ?c3 ?c4 ?c5 ?_)
          case c1 =>
            intro j u' hj
            match j, hj with
            | 0, hj => simp at hj; subst hj; simp [Addr.add]
          case c2 => intro u' hu'; simp at hu'; subst hu'; rfl
          case c3 => unfold maxLen; omega
          case c4 => omega
          case c5 => simp; omega
          intro v1 w5 ho5 hg5 _
          have ho6 : w5.ownsRow (w.heap.size + 1) 3 1 v1 (q + 1) ((usd F (i + 1)).map (Value.int .i64)) := by rw [HU.out, List.map_append]; exact ho5
          have hown : ∀ k, Value.ownBlock _ = some k → w.heap.size + 1 ≤ k ∧ k < wo.heap.size := fun k hk => ho.lt k hk
          have hS6 : Seg w5 lb τ .u8 pre (List.replicate N 0) post := by
            refine ⟨?_⟩
            rw [hg5.block lb (hSr.alloc _).lt (fun e => by have := (hown lb e.symm).1; omega)]
            exact (hSr.alloc _).at_
          have hB6 : At w5 w.heap.size 42 [.slice (some ⟨nb, fo, none⟩) N c0] := by
            refine ⟨?_⟩
            rw [hg5.block _ (hB.alloc _).lt (fun e => by have := (hown _ e.symm).1; omega)]
            exact (hB.alloc _).at_
          have hG6 : w.grownBy w5 (some lb) := grown_own (grown_alloc hG _) hg5 (fun k hk => .inl (by have := (hown k hk).1; omega))
          clear ho5 hg5 ho hSr hB hG hown
          go_wp2
          go_roundw
          case rel => exact ⟨i + 1, q + 1, by go_num, by omega, by show q + 1 = _; rw [HU.out, List.length_append]; have := HQ.out; simp; omega, by omega, ho6, hS6, hB6, hG6⟩
          case measure => simp [intOf]; omega
        · have HU : Hid (usd F (i + 1) = usd F i) := usd_no F i h0
          obtain ⟨f, hf⟩ : ∃ f, f = gt F i := ⟨_, rfl⟩
          rw [← hf] at hc hbd h0
          clear hf
          go_wp2
          go_roundw
          case rel => exact ⟨i + 1, q, by go_num, by omega, by show q = _; rw [HU.out]; exact HQ.out, by omega, by rw [HU.out]; exact ho, hSr, hB, hG⟩
          case measure => simp [intOf]; omega
      · have hlti : ¬ (i : Int) < N := by omega
        have e : i = N := by omega
        subst e
        go_wp2
        go_meet
        case rel => exact ⟨by rw [← HQ.out]; exact ho, hSr, hB, hG⟩
  case rest =>
    obtain ⟨ho, hSc, hBc, hGc⟩ := hcut
    clear hS2 hfb hgr hfc hrun hsz2
    obtain ⟨s, hs⟩ : ∃ s, s = w.heap.size := ⟨_, rfl⟩
    have HSz : Hid (s = w.heap.size) := hs
    rw [← hs] at ho hBc hlb hnbl ⊢
    clear hs
    obtain ⟨q, hq⟩ : ∃ q, q = (usd F N).length := ⟨_, rfl⟩
    have hqN : q ≤ N := by rw [hq]; exact usd_len F N
    have HQ : Hid (q = (usd F N).length) := hq
    rw [← hq] at ho
    clear hq
    rcases ho.2 with ⟨rfl, rfl⟩ | ⟨g, cap, cur, rfl, hg1, hg2, hg3, hg4⟩
    · as_aux_lemma =>
      go_wp2
      refine bodyPost_ret (results_none rfl _ _ _) rfl ?_
      exact ⟨rfl, ⟨_, hSc, Hf.none (fun s hs => (HF.out s hs).1) HQ.out.symm⟩, hGc⟩
    have hgl : g < wc.heap.size := (Array.getElem?_eq_some_iff.1 hg2).1
    by_cases hq1 : q = 0
    · as_aux_lemma =>
      subst hq1
      go_wp2
      refine bodyPost_ret (results_none rfl _ _ _) rfl ?_
      exact ⟨rfl, ⟨_, hSc, Hf.none (fun s hs => (HF.out s hs).1) HQ.out.symm⟩, hGc⟩
    by_cases hq2 : q = 1
    · as_aux_lemma =>
      subst hq2
      obtain ⟨x, hx⟩ : ∃ x : Nat, usd F N = [(x : Int)] := by
        obtain ⟨y, hy⟩ := List.length_eq_one_iff.1 HQ.out.symm
        obtain ⟨t, _, _, h3⟩ := (mem_usd F N y).1 (by rw [hy]; exact List.mem_singleton.2 rfl)
        exact ⟨t, by rw [hy, h3]⟩
      obtain ⟨hxN, hHf⟩ := Hf.single (lim := lim) (by omega) (fun s hs => (HF.out s hs).1) hx
      rw [hx] at ho
      have hxi : (x : Int) < N := by omega
      have hcx := ho.cellAt 0 (by omega)
      simp at hcx
      have hcl := hSc.cell lo x HLo.out (by simpa using hxN)
      have hfr := hSc.free (lo + x)
      have hS' := hSc.set lo x HLo.out (by simpa using hxN) 1
      have hG' := grown_set hGc ⟨lb, lo + x, none⟩ (.int .u8 1) (.inr rfl)
      clear hSc
      go_wp2
      refine bodyPost_ret (results_none rfl _ _ _) rfl ?_
      exact ⟨rfl, ⟨_, hS', hHf⟩, hG'⟩
    have hR : Row wc (s + 1) g q cap (usd F N) := ⟨ho⟩
    have hC : Cmp s g wc (fun x => gt F x.toNat) (fun x => 0 ≤ x ∧ x < N) := cmp_of s g nb fo N c0 F wc hBc (fun t ht => grown_cell hGc (HC.out t ht) hne) HF.out (by omega) (by omega)
    have hq0i : ¬ (q : Int) = 0 := by omega
    have hq1i : ¬ (q : Int) = 1 := by omega
    go_wp2_with fail
    refine (sortStable s (s + 1) g q cap _ _ (usd F N) wc hC (fun x hx => by obtain ⟨t, h1, _, h3⟩ := (mem_usd F N x).1 hx; omega) hR (by omega)).mono ?_
    rintro e w1 ⟨rfl, ⟨U, hRU, hPU, _⟩, hSm⟩
    have hS1 : Seg w1 lb τ .u8 pre (List.replicate N 0) post := hSc.kept hSm (by omega)
    have hB1 : At w1 s 42 [.slice (some ⟨nb, fo, none⟩) N c0] := hBc.kept hSm (by omega)
    have hG1 : w.grownBy w1 (some lb) := grown_own hGc hSm (fun k hk => .inl (by have := HSz.out; have := Option.some.inj hk; omega))
    have hUl : U.length = q := hRU.len
    have hg1l : g < w1.heap.size := hRU.lt.2
    obtain ⟨spare, hU1⟩ := seg_of_row hRU
    have HP : Hid (U.Perm (usd F N)) := hPU
    clear hSc hBc hGc ho hR hC hSm hRU hPU hg2 hg4 cur hgl
    obtain ⟨s1, hs1⟩ : ∃ s1, s1 = w1.heap.size := ⟨_, rfl⟩
    obtain ⟨K, HK, hKi, hK9⟩ : ∃ K : Nat, Hid (K = 2 * q - 1) ∧ 2 * (q : Int) - 1 = K ∧ K ≤ 600 := ⟨2 * q - 1, rfl, by omega, by omega⟩
    have hs1i : w1.heap.size = s1 := hs1.symm
    clear hs1
    go_wp2_with (at_make; refine wpList_make_full _ rfl _ _ 66 rfl (s1 + 1) 67 i67 (.int .u64 0) 1 Ybad.underlying66 hi67 hz670 hz671 .i64 .i64 K K K rfl rfl rfl rfl ?c1 ?c2 ?c3 ?_)
    case c1 => rw [hz672]; omega
    case c2 => unfold maxLen; omega
    case c3 => have := (World.grownBy_alloc w1 (.cells #[Value.int .i64 q] 3) none).size; simp only [World.alloc, Array.size_push]; omega
    intro w2 ho2 hg2
    have hW2 : Seg w2 (s1 + 1) 67 .u64 [] (List.replicate K 0) [] := seg_made (by rw [toList_madeCells_one] at ho2; exact ho2)
    have hN2' : At w2 s1 3 [.int .i64 q] := by
      have h1 := At.new w1 3 [Value.int .i64 q]
      rw [hs1i] at h1
      exact h1.kept0 hg2
    have hL2 := (hS1.alloc (.cells #[Value.int .i64 q] 3)).kept0 hg2
    have hB2 := (hB1.alloc (.cells #[Value.int .i64 q] 3)).kept0 hg2
    have hU2 := (hU1.alloc (.cells #[Value.int .i64 q] 3)).kept0 hg2
    have hG2 := grown_own (grown_alloc hG1 (.cells #[Value.int .i64 q] 3)) hg2 (fun k hk => by cases hk)
    have hs2 := hW2.lt
    clear ho2 hg2 hS1 hB1 hU1 hG1
    have hNc := hN2'.cell 0 _ rfl
    have hNc2 : (w2.alloc (Obj.cells #[.slice (some ⟨s1 + 1, 0, none⟩) K K] 66)).cell? ⟨s1, 0, none⟩ = some (.int .i64 q) := (hN2'.alloc _).cell 0 _ rfl
    go_wp2_with (at_make; refine wpList_make_full _ rfl _ _ 63 rfl (s1 + 1) 3 i3 (.int .i64 0) 1 Ybad.underlying63 hi3 hz30 hz31 .i64 .i64 K K K rfl rfl rfl rfl ?c1 ?c2 ?c3 ?_)
    case c1 => rw [hz32]; omega
    case c2 => unfold maxLen; omega
    case c3 => simp; omega
    intro w3 ho3 hg3
    have hP3 : Seg w3 (w2.heap.size + 1) 3 .i64 [] (List.replicate K 0) [] := seg_made (by rw [toList_madeCells_one] at ho3; exact ho3)
    have hM : M (.slice (some ⟨nb, fo, none⟩) N c0) lb τ pre post s g q K s1 (s1 + 1) w2.heap.size (w2.heap.size + 1) spare w w3 (List.replicate N 0) U (List.replicate K 0) (List.replicate K 0) := by
      have hb := (At.new w2 66 [Value.slice (some ⟨s1 + 1, 0, none⟩) K K])
      exact ⟨(hL2.alloc _).kept0 hg3, (hB2.alloc _).kept0 hg3, (hU2.alloc _).kept0 hg3, (hN2'.alloc _).kept0 hg3, (hW2.alloc _).kept0 hg3, hb.kept0 hg3, hP3, grown_own (grown_alloc hG2 _) hg3 (fun k hk => by cases hk), ⟨hlb, by omega, by omega, by omega, by omega, by omega, HSz.out.symm⟩⟩
    clear hNc hNc2 hL2 hB2 hU2 hN2' hW2 hP3 hG2 ho3 hg3
    go_upto_region 17 with fail
    go_cut [9, 10, 11, 73, 74, 75] from 49 to 75 (fun v9 v10 v11 v73 v74 v75 wx => ∃ bn bw bb bp : Nat, v9 = .pointer (some ⟨bn, 0, none⟩) ∧ v10 = .pointer (some ⟨bb, 0, none⟩) ∧ v11 = .slice (some ⟨bp, 0, none⟩) K K ∧ v73 = .slice (some ⟨g, 0, none⟩) q cap ∧ v74 = .int .i64 q ∧ v75 = .int .i64 0 ∧ M (.slice (some ⟨nb, fo, none⟩) N c0) lb τ pre post s g q K bn bw bb bp spare w wx (List.replicate N 0) U (List.replicate K 0) (List.replicate K 0))
    case first =>
      go_wp2_with fail
      go_meet
      case rel => exact ⟨_, _, _, _, rfl, rfl, rfl, rfl, rfl, rfl, hM⟩
    case rest =>
    obtain ⟨bn, bw, bb, bp, rfl, rfl, rfl, rfl, rfl, rfl, hM0⟩ := hcut
    clear hM hs1i hs2 hg1l
    clear w3 w2 s1 w1
    go_upto_block 3 with fail
    go_cut [] from 73 to 88 (fun wx => ∃ Wt : List Int, Wt.length = K ∧ (∀ j, j < K → 0 ≤ gt Wt j ∧ gt Wt j < 18446744073709551616) ∧ M (.slice (some ⟨nb, fo, none⟩) N c0) lb τ pre post s g q K bn bw bb bp spare w wx (List.replicate N 0) U Wt (List.replicate K 0))
    case first => as_aux_lemma =>
      go_wp2_with fail
      go_loopw [75] (fun iv wr => ∃ (i : Nat) (Wt : List Int), iv = .int .i64 i ∧ i ≤ q ∧ Wt.length = K ∧ Hid (∀ j, j < K → 0 ≤ gt Wt j ∧ gt Wt j < 18446744073709551616) ∧ M (.slice (some ⟨nb, fo, none⟩) N c0) lb τ pre post s g q K bn bw bb bp spare w wr (List.replicate N 0) U Wt (List.replicate K 0)) (fun iv _ => q - (intOf iv).toNat)
      case atStart => exact ⟨0, _, rfl, by omega, by simp, fun j hj => by rw [gt_replicate]; omega, hM0⟩
      case round =>
        clear hM0
        obtain ⟨i, Wt, rfl, hi, hWl, HW, hM⟩ := hrel
        obtain ⟨wo, hwo⟩ : ∃ wo : World, wo = wr := ⟨_, rfl⟩
        rw [← hwo] at hM ⊢
        clear hwo
        by_cases hlt : i < q
        · as_aux_lemma =>
          have hlti : (i : Int) < q := by omega
          have hU0 := us_of HP.out
          have hiU : i < U.length := by omega
          have hub := hU0.bd i hiU
          obtain ⟨x, hx⟩ : ∃ x : Nat, gt U i = x := ⟨(gt U i).toNat, by omega⟩
          have hxN : x < N := by omega
          have hxi : (x : Int) < N := by omega
          have hcu := Seg.cell0 hM.hU i hiU
          rw [hx] at hcu
          have hcb := hM.hB.cell 0 _ rfl
          have hcw := hM.hWb.cell 0 _ rfl
          have hcf := grown_cell hM.hG (HC.out x hxN) hne
          have hfb := HF.out x hxN
          have hiK : i < K := by have := HK.out; omega
          have hiKi : (i : Int) < K := by omega
          have hcW := Seg.cell0 hM.hW i (by omega)
          have hfr := hM.hW.free i
          obtain ⟨f, hf⟩ : ∃ f, f = gt F x := ⟨_, rfl⟩
          rw [← hf] at hcf hfb
          obtain ⟨f0, f1⟩ := hfb
          have HW' : Hid (∀ j, j < K → 0 ≤ gt (Wt.set i f) j ∧ gt (Wt.set i f) j < 18446744073709551616) := fun j hj => by
            by_cases e : j = i
            · subst e; rw [gt_set_self _ _ _ (by omega)]; omega
            · rw [gt_set_ne _ _ _ _ (by omega)]; exact HW.out j hj
          clear hf hU0 hub hx
          go_wp2_with fail
          go_region
          go_wp2
          go_roundw
          case rel => exact ⟨i + 1, _, by go_num, by omega, by rw [List.length_set]; exact hWl, HW', (hM.setW i (by omega) f).drewN 1⟩
          case measure => simp [intOf]; omega
        · have hlti : ¬ (i : Int) < q := by omega
          go_wp2
          go_meet
          case rel => exact ⟨Wt, hWl, HW.out, hM⟩
    case rest =>
    obtain ⟨Wt0, hWl0, hWb0, hM1⟩ := hcut
    clear hM0
    have HW0 : Hid (∀ j, j < K → 0 ≤ gt Wt0 j ∧ gt Wt0 j < 18446744073709551616) := hWb0
    clear hWb0
    have hNc := hM1.hN.cell 0 _ rfl
    have hbnl := hM1.bnd
    have hNc1 : ∀ o, (wc.alloc o).cell? ⟨bn, 0, none⟩ = some (.int .i64 q) := fun o => (hM1.hN.alloc o).cell 0 _ rfl
    have hNc2 : ∀ o o', ((wc.alloc o).alloc o').cell? ⟨bn, 0, none⟩ = some (.int .i64 q) := fun o o' => ((hM1.hN.alloc o).alloc o').cell 0 _ rfl
    go_upto_region 22 with fail
    go_cut [14, 15] from 89 to 89 (fun v14 v15 wx => ∃ b1 b2 : Nat, v14 = .pointer (some ⟨b1, 0, none⟩) ∧ v15 = .pointer (some ⟨b2, 0, none⟩) ∧ b1 ≠ b2 ∧ bp < b1 ∧ bp < b2 ∧ At wx b1 3 [.int .i64 0] ∧ At wx b2 3 [.int .i64 q] ∧ M (.slice (some ⟨nb, fo, none⟩) N c0) lb τ pre post s g q K bn bw bb bp spare w wx (List.replicate N 0) U Wt0 (List.replicate K 0))
    case first => as_aux_lemma =>
      go_region
      · go_wp2_with fail
        go_meet
        case rel => exact ⟨_, _, rfl, rfl, by omega, by omega, by omega, ((At.new wc 3 [.int .i64 0]).alloc _).drewN 1, (At.new2 wc _ 3 [.int .i64 q]).drewN 1, ((hM1.alloc _).alloc _).drewN 1⟩
      · go_wp2_with fail
        go_meet
        case rel => exact ⟨_, _, rfl, rfl, by omega, by omega, by omega, (At.new2 wc _ 3 [.int .i64 0]).drewN 1, ((At.new wc 3 [.int .i64 q]).alloc _).drewN 1, ((hM1.alloc _).alloc _).drewN 1⟩
    case rest =>
    obtain ⟨b1, b2, rfl, rfl, h12, hb1, hb2, hA1, hA2, hM2⟩ := hcut
    clear hNc hNc1 hNc2 hbnl hM1
    have hNc := hM2.hN.cell 0 _ rfl
    go_upto_block 5 with fail
    go_cut [] from 90 to 124 (fun wx => ∃ (Wt P : List Int) (lf nd : Nat), Tr q K lf nd P ∧ M (.slice (some ⟨nb, fo, none⟩) N c0) lb τ pre post s g q K bn bw bb bp spare w wx (List.replicate N 0) U Wt P)
    case first => as_aux_lemma =>
      go_wp2_with fail
      go_loopw [17] (fun iv wr => ∃ (m lf nd : Nat) (Wt P : List Int), iv = .int .i64 m ∧ q ≤ m ∧ m ≤ K ∧ Hid (Tr q m lf nd P) ∧ Wt.length = K ∧ Hid (∀ j, j < K → 0 ≤ gt Wt j ∧ gt Wt j < 18446744073709551616) ∧ At wr b1 3 [.int .i64 lf] ∧ At wr b2 3 [.int .i64 nd] ∧ M (.slice (some ⟨nb, fo, none⟩) N c0) lb τ pre post s g q K bn bw bb bp spare w wr (List.replicate N 0) U Wt P) (fun iv _ => K - (intOf iv).toNat)
      case atStart => exact ⟨q, 0, q, Wt0, _, rfl, by omega, by have := HK.out; omega, Tr.start q _ (by rw [List.length_replicate]; exact HK.out) (by omega), hWl0, HW0, hA1, hA2, hM2⟩
      case round =>
        clear hA1 hA2 hM2 hNc HW0 hWl0
        obtain ⟨m, lf, nd, Wt, P, rfl, hqm, hmK, HT, hWl, HW, hA1, hA2, hM⟩ := hrel
        obtain ⟨wo, hwo⟩ : ∃ wo : World, wo = wr := ⟨_, rfl⟩
        rw [← hwo] at hM hA1 hA2 ⊢
        clear hwo
        have hNc := hM.hN.cell 0 _ rfl
        by_cases hlt : m < K
        · as_aux_lemma =>
          have hlti : (m : Int) < K := by omega
          have hT := HT.out
          have ht1 := hT.cnt
          have ht2 := hT.lfn
          have ht3 := hT.ndm
          have hPl : P.length = K := by rw [hT.len]; exact HK.out.symm
          clear hT
          go_wp2_with fail
          refine (light hM b1 b2 m lf nd HK.out (by omega) hmK hA1 hA2 h12 hb1 hb2 hWl HW.out (by have := HK.out; omega) (by omega) (by omega)).mono ?_
          rintro e w1 ⟨a, lf1, nd1, rfl, HK1, hM1, hA1', hA2'⟩
          have hp1 : a < m ∧ lf1 ≤ q ∧ nd1 ≤ m ∧ lf1 + nd1 = lf + nd + 1 := by
            rcases HK1.out with ⟨rfl, h, rfl, rfl⟩ | ⟨rfl, h, rfl, rfl⟩ <;> omega
          clear hA1 hA2 hM hNc
          go_wp2_with fail
          refine (light hM1 b1 b2 m lf1 nd1 HK.out (by omega) hmK hA1' hA2' h12 hb1 hb2 hWl HW.out (by have := HK.out; omega) (by omega) (by omega)).mono ?_
          rintro e w2 ⟨b, lf2, nd2, rfl, HK2, hM2, hA1, hA2⟩
          have hp2 : b < m ∧ lf2 ≤ q ∧ nd2 ≤ m ∧ lf2 + nd2 = lf1 + nd1 + 1 := by
            rcases HK2.out with ⟨rfl, h, rfl, rfl⟩ | ⟨rfl, h, rfl, rfl⟩ <;> omega
          clear hA1' hA2' hM1
          have hai : (a : Int) < K := by omega
          have hbi : (b : Int) < K := by omega
          have hcb := hM2.hWb.cell 0 _ rfl
          have hca := Seg.cell0 hM2.hW a (by omega)
          have hcc := Seg.cell0 hM2.hW b (by omega)
          have hcm := Seg.cell0 hM2.hW m (by omega)
          have hfr := hM2.hW.free m
          have hxa := HW.out a (by omega)
          have hxb := HW.out b (by omega)
          obtain ⟨x, hx⟩ : ∃ x, x = gt Wt a := ⟨_, rfl⟩
          obtain ⟨y, hy⟩ : ∃ y, y = gt Wt b := ⟨_, rfl⟩
          rw [← hx] at hca hxa
          rw [← hy] at hcc hxb
          obtain ⟨x0, x1⟩ := hxa
          obtain ⟨y0, y1⟩ := hxb
          clear hx hy
          go_wp2_with fail
          go_region
          clear hca hcc hcm hfr hcb
          have hM3 := (hM2.setW m (by omega) (IntKind.u64.wrap (x + y))).drewN 1
          have hA13 := (hA1.other ⟨bw, m, none⟩ (Value.int .u64 (IntKind.u64.wrap (x + y))) (by have := hM2.ord; show b1 ≠ bw; omega)).drewN 1
          have hA23 := (hA2.other ⟨bw, m, none⟩ (Value.int .u64 (IntKind.u64.wrap (x + y))) (by have := hM2.ord; show b2 ≠ bw; omega)).drewN 1
          have hWl' : (Wt.set m (IntKind.u64.wrap (x + y))).length = K := by rw [List.length_set]; exact hWl
          have HW' : Hid (∀ j, j < K → 0 ≤ gt (Wt.set m (IntKind.u64.wrap (x + y))) j ∧ gt (Wt.set m (IntKind.u64.wrap (x + y))) j < 18446744073709551616) := fun j hj => by
            by_cases e : j = m
            · subst e; rw [gt_set_self _ _ _ (by omega), IntKind.wrap_u64]; omega
            · rw [gt_set_ne _ _ _ _ (by omega)]; exact HW.out j hj
          have hw3 : (w2.setCell ⟨bw, m, none⟩ (Value.int .u64 (IntKind.u64.wrap (x + y)))).drew = (w2.setCell ⟨bw, m, none⟩ (Value.int .u64 (IntKind.u64.wrap (x + y)))).drewN 1 := rfl
          rw [hw3]
          clear hw3
          generalize Wt.set m (IntKind.u64.wrap (x + y)) = Wt' at *
          generalize (w2.setCell ⟨bw, m, none⟩ (Value.int .u64 (IntKind.u64.wrap (x + y)))).drewN 1 = w3 at *
          clear hM2 hA1 hA2
          have hM4 := hM3.setP a (by omega) m
          have hM5 := hM4.setP b (by rw [List.length_set]; omega) m
          have hA14 := (hA13.other ⟨bp, a, none⟩ (Value.int .i64 m) (by show b1 ≠ bp; omega)).other ⟨bp, b, none⟩ (Value.int .i64 m) (by show b1 ≠ bp; omega)
          have hA24 := (hA23.other ⟨bp, a, none⟩ (Value.int .i64 m) (by show b2 ≠ bp; omega)).other ⟨bp, b, none⟩ (Value.int .i64 m) (by show b2 ≠ bp; omega)
          have hca := Seg.cell0 hM3.hP a (by omega)
          have hfa := hM3.hP.free a
          have hcc := Seg.cell0 hM4.hP b (by rw [List.length_set]; omega)
          have hfc := hM4.hP.free b
          clear hM3 hM4 hA13 hA23
          go_wp2
          go_roundw
          case rel => exact ⟨m + 1, lf2, nd2, Wt', _, by go_num, by omega, by omega, HT.out.step (by have := HK.out; omega) HK1.out HK2.out, hWl', HW', hA14, hA24, hM5⟩
          case measure => simp [intOf]; omega
        · have hlti : ¬ (m : Int) < K := by omega
          have e : m = K := by omega
          subst e
          go_wp2
          go_meet
          case rel => exact ⟨Wt, P, lf, nd, HT.out, hM⟩
    case rest =>
    obtain ⟨Wt1, P, lf, nd, hT0, hM3⟩ := hcut
    have HT : Hid (Tr q (2 * q - 1) lf nd P) := HK.out ▸ hT0
    have hPl : P.length = K := by rw [hT0.len]; exact HK.out.symm
    clear hT0 hA1 hA2 hM2 hNc HW0 hWl0
    have hNc := hM3.hN.cell 0 _ rfl
    have hdb := hM3.bnd
    have hsb : s + 1 ≤ wc.heap.size := by have := hM3.ord; omega
    go_wp2_with (at_make; refine wpList_make_full _ rfl _ _ 63 rfl (s + 1) 3 i3 (.int .i64 0) 1 Ybad.underlying63 hi3 hz30 hz31 .i64 .i64 K K K rfl rfl rfl rfl ?c1 ?c2 ?c3 ?_)
    case c1 => rw [hz32]; omega
    case c2 => unfold maxLen; omega
    case c3 => exact hsb
    intro w4 ho4 hg4
    have hD4 : Seg w4 wc.heap.size 3 .i64 [] (List.replicate K 0) [] := seg_made (by rw [toList_madeCells_one] at ho4; exact ho4)
    have hM4 := hM3.kept0 hg4
    clear hNc hM3 ho4 hg4 hsb
    obtain ⟨bd, hbd⟩ : ∃ bd, bd = wc.heap.size := ⟨_, rfl⟩
    rw [← hbd] at hD4 hdb ⊢
    clear hbd
    have hNc := hM4.hN.cell 0 _ rfl
    go_upto_block 7 with fail
    go_cut [] from 125 to 146 (fun wx => ∃ dl : List Int, Dep q 0 P dl ∧ Seg wx bd 3 .i64 [] dl [] ∧ M (.slice (some ⟨nb, fo, none⟩) N c0) lb τ pre post s g q K bn bw bb bp spare w wx (List.replicate N 0) U Wt1 P)
    case first => as_aux_lemma =>
      go_wp2_with fail
      go_loopw [21] (fun iv wr => ∃ (j : Nat) (x : Int) (dl : List Int), iv = .int .i64 x ∧ x = j - 1 ∧ j + 1 ≤ K ∧ Hid (Dep q j P dl) ∧ Seg wr bd 3 .i64 [] dl [] ∧ M (.slice (some ⟨nb, fo, none⟩) N c0) lb τ pre post s g q K bn bw bb bp spare w wr (List.replicate N 0) U Wt1 P) (fun iv _ => (intOf iv + 1).toNat)
      case atStart => exact ⟨2 * q - 2, _, _, rfl, by omega, by have := HK.out; omega, by have := Dep.start q P (by omega); rwa [← HK.out] at this, hD4, hM4⟩
      case round =>
        clear hD4 hM4 hNc
        obtain ⟨j, x, dl, rfl, hxj, hjK, HD, hD, hM⟩ := hrel
        obtain ⟨wo, hwo⟩ : ∃ wo : World, wo = wr := ⟨_, rfl⟩
        rw [← hwo] at hM hD ⊢
        clear hwo
        by_cases hj : j = 0
        · subst hj
          have hx : x = -1 := by omega
          subst hx
          clear hxj
          go_wp2
          go_meet
          case rel => exact ⟨dl, HD.out, hD, hM⟩
        · as_aux_lemma =>
          obtain ⟨t, rfl⟩ : ∃ t, j = t + 1 := ⟨j - 1, by omega⟩
          have hx : x = t := by omega
          subst hx
          clear hxj hj
          obtain ⟨p, hp1, hp2, hp3, hDp⟩ := HD.out.step HT.out (by have := HK.out; omega)
          have hpK : p < K := by have := HK.out; omega
          have hpi : (p : Int) < K := by omega
          have hti : (t : Int) < K := by omega
          have hdl : dl.length = K := by rw [HD.out.len]; exact HK.out.symm
          have hcp := Seg.cell0 hM.hP t (by omega)
          rw [hp1] at hcp
          have hcd := Seg.cell0 hD p (by omega)
          have hct := Seg.cell0 hD t (by omega)
          have hfr := hD.free t
          have hbd := HD.out.bd p (by omega) (by have := HK.out; omega)
          obtain ⟨d, hd⟩ : ∃ d, d = gt dl p := ⟨_, rfl⟩
          rw [← hd] at hcd hbd hDp
          have hd0 := hbd.1
          have hd1 : d ≤ 1000 := by omega
          have HDp : Hid (Dep q t P (dl.set t (d + 1))) := hDp
          have hD' := Seg.set0 hD t (by omega) (d + 1)
          have hM' := hM.other ⟨bd, t, none⟩ (.int .i64 (d + 1)) hdb
          clear hd hbd hDp hp1 hdl
          go_wp2
          go_roundw
          case rel => exact ⟨t, _, _, rfl, by omega, by omega, HDp, hD', hM'⟩
          case measure => simp [intOf] <;> omega
    case rest =>
    obtain ⟨dl, hDp, hD5, hM5⟩ := hcut
    have HD : Hid (Dep q 0 P dl) := hDp
    have hdl : dl.length = K := by rw [hDp.len]; exact HK.out.symm
    clear hDp hD4 hM4 hNc
    go_upto_block 9 with fail
    go_cut [22] from 147 to 170 (fun v wx => ∃ (l : List Int) (lg : Int), v = .int .i64 lg ∧ 0 ≤ lg ∧ lg ≤ 1000 ∧ Ln N lim U l ∧ (lg ≤ lim → Ks lim U l = 2 ^ lim) ∧ (lim < lg → 2 ^ lim - Ks lim U l < 0) ∧ M (.slice (some ⟨nb, fo, none⟩) N c0) lb τ pre post s g q K bn bw bb bp spare w wx l U Wt1 P)
    case first => as_aux_lemma =>
      go_wp2_with fail
      go_loopw [22, 149] (fun gv iv wr => ∃ (i : Nat) (lg : Int) (l : List Int), gv = .int .i64 lg ∧ iv = .int .i64 i ∧ i ≤ q ∧ 0 ≤ lg ∧ lg ≤ 1000 ∧ Hid (Cut5 N lim U dl l i lg) ∧ Seg wr bd 3 .i64 [] dl [] ∧ M (.slice (some ⟨nb, fo, none⟩) N c0) lb τ pre post s g q K bn bw bb bp spare w wr l U Wt1 P) (fun _ iv _ => q - (intOf iv).toNat)
      case atStart => exact ⟨0, 0, _, rfl, rfl, by omega, by omega, by omega, Cut5.start N lim U dl, hD5, hM5⟩
      case round =>
        clear hD5 hM5
        obtain ⟨i, lg, l, rfl, rfl, hi, hg0, hg1', HCt, hD, hM⟩ := hrel
        obtain ⟨wo, hwo⟩ : ∃ wo : World, wo = wr := ⟨_, rfl⟩
        rw [← hwo] at hM hD ⊢
        clear hwo
        by_cases hlt : i < q
        · as_aux_lemma =>
          have hlti : (i : Int) < q := by omega
          have hU0 := us_of HP.out
          have hiU : i < U.length := by omega
          have hub := hU0.bd i hiU
          have HS' := HCt.out.step hU0 hiU
          obtain ⟨x, hx⟩ : ∃ x : Nat, gt U i = x := ⟨(gt U i).toNat, by omega⟩
          have hxN : x < N := by omega
          have hxi : (x : Int) < N := by omega
          have hcu := Seg.cell0 hM.hU i hiU
          rw [hx] at hcu
          rw [hx, Int.toNat_natCast] at HS'
          have hiK : i < K := by have := HK.out; omega
          have hiKi : (i : Int) < K := by omega
          have hcd := Seg.cell0 hD i (by omega)
          have hbd := HD.out.bd i (by omega) (by have := HK.out; omega)
          have hll : l.length = N := HCt.out.len
          have hcl := hM.hL.cell lo x HLo.out (by omega)
          have hfr := hM.hL.free (lo + x)
          obtain ⟨d, hd⟩ : ∃ d, d = gt dl i := ⟨_, rfl⟩
          rw [← hd] at hcd hbd HS'
          have hd0 := hbd.1
          have hd1 : d ≤ 1000 := by omega
          obtain ⟨mm, hmm⟩ : ∃ mm, mm = min d (lim : Int) := ⟨_, rfl⟩
          obtain ⟨mx, hmx⟩ : ∃ mx, mx = max lg d := ⟨_, rfl⟩
          rw [← hmm, ← hmx] at HS'
          have HS2 : Hid (Cut5 N lim U dl (l.set x mm) (i + 1) mx) := HS'
          have hm0 : 0 ≤ mm ∧ mm ≤ 15 := by omega
          obtain ⟨hm1, hm2⟩ := hm0
          have hx0 : 0 ≤ mx ∧ mx ≤ 1000 := by omega
          have hM' := hM.setL lo x HLo.out (by omega) mm
          have hD' := hD.other ⟨lb, lo + x, none⟩ (.int .u8 mm) (by have := hM.ord; show bd ≠ lb; omega)
          have hcd' := Seg.cell0 hD' i (by omega)
          rw [← hd] at hcd'
          have HMx : Hid (mx = max lg d) := hmx
          clear hd hbd HS' hU0 hub hx hmx
          by_cases hc : d ≤ lim
          · obtain rfl : d = mm := by omega
            clear hmm
            go_wp2
            go_roundw
            case rel => exact ⟨i + 1, mx, _, by (congr 1; rw [HMx.out]; split <;> omega), by go_num, by omega, hx0.1, hx0.2, HS2, hD', hM'⟩
            case measure => simp [intOf] <;> omega
          · obtain rfl : mm = (lim : Int) := by omega
            clear hmm
            go_wp2
            go_roundw
            case rel => exact ⟨i + 1, mx, _, by (congr 1; rw [HMx.out]; split <;> omega), by go_num, by omega, hx0.1, hx0.2, HS2, hD', hM'⟩
            case measure => simp [intOf] <;> omega
        · have hlti : ¬ (i : Int) < q := by omega
          have e : i = q := by omega
          subst e
          obtain ⟨hF1, hF2, hF3⟩ := HCt.out.fin hUl (by omega) HD.out HT.out
          go_wp2
          go_meet
          case rel => exact ⟨l, lg, rfl, hg0, hg1', hF1, hF2, hF3, hM⟩
    case rest =>
    obtain ⟨l1, lg, rfl, hg0, hg1', hLn, hK1, hK2, hM6⟩ := hcut
    have HLn : Hid (Ln N lim U l1) := hLn
    clear hD5 hM5 hLn
    by_cases hle : lg ≤ lim
    · as_aux_lemma =>
      have HKs : Hid (Ks lim U l1 = 2 ^ lim) := hK1 hle
      clear hK1 hK2
      go_wp2
      refine bodyPost_ret (results_none rfl _ _ _) rfl ?_
      exact ⟨rfl, ⟨_, hM6.hL, Hf.fin HP.out (fun s hs => (HF.out s hs).1) HLn.out HKs.out (by omega)⟩, hM6.hG⟩
    have HKs : Hid (2 ^ lim - Ks lim U l1 < 0) := hK2 (by omega)
    clear hK1 hK2
    obtain ⟨hT0, hT1, hTw⟩ := pow_bd lim hl2
    obtain ⟨T, hT⟩ : ∃ T : Int, T = 2 ^ lim := ⟨_, rfl⟩
    have HTw : Hid (wrap64 (2 ^ lim) = T) := by show _ = T; rw [hT]; exact hTw
    rw [← hT] at hT0 hT1
    have HT2 : Hid (T = 2 ^ lim) := hT
    clear hT hTw
    go_upto_block 11 with fail
    go_cut [25] from 171 to 192 (fun v wx => v = .int .i64 (T - Ks lim U l1) ∧ -32768 * (q : Int) ≤ T - Ks lim U l1 ∧ wc = wx)
    case first => as_aux_lemma =>
      go_wp2_with fail
      go_loopw [25, 178] (fun rv iv wr => ∃ (i : Nat) (r : Int), rv = .int .i64 r ∧ iv = .int .i64 i ∧ i ≤ q ∧ Hid (r = T - S (fun i => un lim l1 (gt U i)) 0 i) ∧ -32768 * (i : Int) ≤ r ∧ r ≤ T ∧ wc = wr) (fun _ iv _ => q - (intOf iv).toNat)
      case atStart => exact ⟨0, T, by rw [HTw.out], rfl, by omega, by show T = T - S _ 0 0; simp [S], by omega, by omega, rfl⟩
      case round =>
        obtain ⟨i, r, rfl, rfl, hi, HR, hr0, hr1, rfl⟩ := hrel
        by_cases hlt : i < q
        · as_aux_lemma =>
          have hlti : (i : Int) < q := by omega
          have hiU : i < U.length := by omega
          have HSn : Hid (S (fun i => un lim l1 (gt U i)) 0 (i + 1) = S (fun i => un lim l1 (gt U i)) 0 i + un lim l1 (gt U i)) := S_succ _ (by omega)
          obtain ⟨x, y, z, hx, hxN, hy, hy1, hy2, hz, hz14, hu⟩ := un_bd HLn.out (us_of HP.out) hl2 i hiU
          obtain ⟨hu0, hu1, hu2⟩ := pow_bd z (by omega)
          rw [hu] at HSn
          have hxi : (x : Int) < N := by omega
          have hcu := Seg.cell0 hM6.hU i hiU
          rw [hx] at hcu
          have hcl := hM6.hL.cell lo x HLo.out (by have := HLn.out.len; omega)
          rw [hy] at hcl
          obtain ⟨u, hu'⟩ : ∃ u : Int, u = 2 ^ z := ⟨_, rfl⟩
          rw [← hu'] at hu0 hu1 HSn
          have HW9 : Hid (wrap64 (2 ^ z) = u) := by show _ = u; rw [hu']; exact hu2
          clear hu2 hu' hu hx hy
          go_wp2
          go_roundw
          case rel => exact ⟨i + 1, r - u, by (rw [HW9.out]; exact congrArg _ (w64 _ (by omega) (by omega))), by go_num, by omega, by show _ = _; rw [HSn.out, HR.out]; omega, by omega, by omega, by first | trivial | rfl⟩
          case measure => simp [intOf]; omega
        · have hlti : ¬ (i : Int) < q := by omega
          have e : i = q := by omega
          subst e
          have e2 : r = T - Ks lim U l1 := by rw [HR.out]; unfold Ks; rw [hUl]
          go_wp2
          go_meet
          case rel => exact ⟨by first | rfl | rw [e2], by omega, rfl⟩
    case rest =>
    obtain ⟨rfl, hr9, rfl⟩ := hcut
    obtain ⟨r0, hr0⟩ : ∃ r0, r0 = T - Ks lim U l1 := ⟨_, rfl⟩
    have HR0 : Hid (r0 = 2 ^ lim - Ks lim U l1) := by show r0 = _; rw [← HT2.out]; exact hr0
    rw [← hr0] at hr9 ⊢
    have hrn : r0 < 0 := by have := HKs.out; have := HR0.out; omega
    clear hr0 HKs
    go_upto_block 13 with fail
    go_cut [25] from 193 to 241 (fun v wx => ∃ (r : Int) (l : List Int), v = .int .i64 r ∧ 0 ≤ r ∧ r ≤ 32768 ∧ r = 2 ^ lim - Ks lim U l ∧ r < 2 ^ (lim - 2) ∧ Ln N lim U l ∧ M (.slice (some ⟨nb, fo, none⟩) N c0) lb τ pre post s g q K bn bw bb bp spare w wx l U Wt1 P)
    case first => as_aux_lemma =>
      go_wp2_with fail
      go_loopw [25] (fun rv wr => ∃ (r : Int) (l : List Int), rv = .int .i64 r ∧ -32768 * (q : Int) ≤ r ∧ r ≤ 32768 ∧ Hid (r = 2 ^ lim - Ks lim U l) ∧ Hid (r < 2 ^ (lim - 2)) ∧ Hid (Ln N lim U l) ∧ M (.slice (some ⟨nb, fo, none⟩) N c0) lb τ pre post s g q K bn bw bb bp spare w wr l U Wt1 P) (fun rv _ => (-(intOf rv)).toNat)
      case atStart => exact ⟨r0, l1, rfl, hr9, by omega, HR0.out, by have := (pow_bd (lim - 2) (by omega)).1; show r0 < _; omega, HLn.out, hM6⟩
      case round =>
        clear hM6 HLn HR0 hr9 hrn
        obtain ⟨r, l, rfl, hr0, hr1, HR, HRr, HL, hM⟩ := hrel
        obtain ⟨wo, hwo⟩ : ∃ wo : World, wo = wr := ⟨_, rfl⟩
        rw [← hwo] at hM ⊢
        clear hwo
        by_cases hneg : r < 0
        · as_aux_lemma =>
          go_wp2_with fail
          go_loopw [28, 197] (fun pv iv wr => ∃ (i : Nat) (p : Int), pv = .int .i64 p ∧ iv = .int .i64 i ∧ i ≤ q ∧ Hid (Pk (fun s => ln l s < lim) U (fun t => t < i) p) ∧ M (.slice (some ⟨nb, fo, none⟩) N c0) lb τ pre post s g q K bn bw bb bp spare w wr l U Wt1 P) (fun _ iv _ => q - (intOf iv).toNat)
          case atStart => exact ⟨0, -1, rfl, rfl, by omega, .inl ⟨rfl, fun t ht => by omega⟩, hM⟩
          case round =>
            clear hM
            obtain ⟨i, p, rfl, rfl, hi, HPk, hM⟩ := hrel
            obtain ⟨wp, hwp⟩ : ∃ wp : World, wp = wr := ⟨_, rfl⟩
            rw [← hwp] at hM ⊢
            clear hwp
            by_cases hlt : i < q
            · as_aux_lemma =>
              have hlti : (i : Int) < q := by omega
              have hiU : i < U.length := by omega
              obtain ⟨x, y, z, hx, hxN, hy, hy1, hy2, hz, hz14, hu⟩ := un_bd HL.out (us_of HP.out) hl2 i hiU
              have hxi : (x : Int) < N := by omega
              have hcu := Seg.cell0 hM.hU i hiU
              rw [hx] at hcu
              have hll : l.length = N := HL.out.len
              have hcl := hM.hL.cell lo x HLo.out (by omega)
              rw [hy] at hcl
              have hln : ln l (gt U i) = y := by rw [hx]; exact hy
              clear hu hz
              by_cases hc : y < lim
              · have hci : decide ((y : Int) < lim) = true := decide_eq_true (by omega)
                have HY : Hid (Pk (fun s => ln l s < lim) U (fun t => t < i + 1) x) := hx ▸ Pk.yes hiU (show ln l (gt U i) < lim by omega)
                clear hln hx hy
                by_cases hp : p = -1
                · subst hp
                  go_wp2_with fail
                  go_quiet (fail)
                  go_wp2
                  go_roundw
                  case rel => exact ⟨i + 1, x, rfl, by go_num, by omega, HY, hM.drewN _⟩
                  case measure => simp [intOf] <;> omega
                · have HKp : Hid (Pk (fun s => ln l s < lim) U (fun t => t < i + 1) p) := HPk.out.keep hp
                  obtain ⟨x', y', hx', hxN', hy', hy1'⟩ : ∃ x' y' : Nat, p = x' ∧ x' < N ∧ gt l x' = y' ∧ y' ≤ 15 := by
                    rcases HPk.out with ⟨h, _⟩ | ⟨t, h1, h2, _⟩
                    · exact absurd h hp
                    · obtain ⟨x', y', z', hx', hxN', hy', _, hy2', _⟩ := un_bd HL.out (us_of HP.out) hl2 t h1
                      exact ⟨x', y', h2.trans hx', hxN', hy', by omega⟩
                  subst hx'
                  have hxi' : (x' : Int) < N := by omega
                  have hcl' := hM.hL.cell lo x' HLo.out (by omega)
                  rw [hy'] at hcl'
                  have hp0 : decide ((x' : Int) < 0) = false := decide_eq_false (by omega)
                  clear hy' hp
                  by_cases hgr : y' < y
                  · have hgri : decide ((y' : Int) < y) = true := decide_eq_true (by omega)
                    go_wp2_with fail
                    go_quiet (fail)
                    go_wp2
                    go_roundw
                    case rel => exact ⟨i + 1, x, rfl, by go_num, by omega, HY, hM.drewN _⟩
                    case measure => simp [intOf] <;> omega
                  · have hgri : decide ((y' : Int) < y) = false := decide_eq_false (by omega)
                    go_wp2_with fail
                    go_quiet (fail)
                    go_wp2
                    go_roundw
                    case rel => exact ⟨i + 1, _, rfl, by go_num, by omega, HKp, hM.drewN _⟩
                    case measure => simp [intOf] <;> omega
              · have hci : decide ((y : Int) < lim) = false := decide_eq_false (by omega)
                have HY : Hid (Pk (fun s => ln l s < lim) U (fun t => t < i + 1) p) := HPk.out.no (i := i) (fun t ht => by omega) (show ¬ ln l (gt U i) < lim by omega)
                clear hln hx hy
                go_wp2_with fail
                go_quiet (fail)
                go_wp2
                go_roundw
                case rel => exact ⟨i + 1, _, rfl, by go_num, by omega, HY, hM.drewN _⟩
                case measure => simp [intOf] <;> omega
            · as_aux_lemma =>
              have hlti : ¬ (i : Int) < q := by omega
              have e : i = q := by omega
              subst e
              obtain ⟨t, ht, hpt, hok⟩ : ∃ t, t < U.length ∧ p = gt U t ∧ ln l (gt U t) < lim := by
                rcases HPk.out with ⟨_, h⟩ | h
                · exfalso
                  have := long_fits HL.out (by have := HNl.out; omega) (fun t ht => h t (by omega) ht)
                  have := HR.out
                  omega
                · exact h
              obtain ⟨x, y, z0, hx, hxN, hy, hy1, hy2, hz0, hz14, hu⟩ := un_bd HL.out (us_of HP.out) hl2 t ht
              have hln : ln l (gt U t) = y := by rw [hx]; exact hy
              have hyl : y < lim := by omega
              obtain ⟨h3, h4, h5⟩ := lengthen HL.out (us_of HP.out) t ht hok (by have := HR.out; omega)
              simp only [hln, Int.toNat_natCast] at h3 h4 h5
              simp only [hx, Int.toNat_natCast] at h3 h4
              obtain ⟨z, hz⟩ : ∃ z : Nat, (lim : Int) - y - 1 = z := ⟨lim - y - 1, by omega⟩
              have hz2 : lim - y - 1 = z := by omega
              rw [hz2] at h4 h5
              obtain ⟨hu0, hu1, hu2⟩ := pow_bd z (by omega)
              have hpx : p = x := hpt.trans hx
              have hxi : (x : Int) < N := by omega
              have hll : l.length = N := HL.out.len
              have hcl := hM.hL.cell lo x HLo.out (by omega)
              rw [hy] at hcl
              have hfr := hM.hL.free (lo + x)
              have hM' := hM.setL lo x HLo.out (by omega) (y + 1)
              obtain ⟨u, hu'⟩ : ∃ u : Int, u = 2 ^ z := ⟨_, rfl⟩
              rw [← hu'] at hu0 hu1 h4 h5
              have HW9 : Hid (wrap64 (2 ^ z) = u) := by show _ = u; rw [hu']; exact hu2
              have H3 : Hid (Ln N lim U (l.set x (y + 1))) := h3
              have H4 : Hid (r + u = 2 ^ lim - Ks lim U (l.set x (y + 1))) := by show _ = _; rw [h4, ← HR.out]
              have H5 : Hid (r + u < 2 ^ (lim - 2)) := by show _ < _; rw [HR.out]; exact h5
              subst hpx
              clear hu2 hu' hu hx hy h3 h4 h5 hln hok hz2 hz0 ht hpt
              go_wp2
              go_roundw
              case rel => exact ⟨r + u, _, by (rw [HW9.out]; exact congrArg _ (w64 _ (by omega) (by omega))), by omega, by omega, H4, H5, H3, hM'⟩
              case measure =>
                rw [HW9.out, w64 _ (by omega) (by omega)]
                simp [intOf]; omega
        · have hni : 0 ≤ r := by omega
          go_wp2
          go_meet
          case rel => exact ⟨r, l, rfl, hni, hr1, HR.out, HRr.out, HL.out, hM⟩
    case rest =>
    obtain ⟨r1, l2, rfl, hr2, hr3, hR1, hR2, hLn2, hM7⟩ := hcut
    have HR1 : Hid (r1 = 2 ^ lim - Ks lim U l2) := hR1
    have HR2 : Hid (r1 < 2 ^ (lim - 2)) := hR2
    have HL2 : Hid (Ln N lim U l2) := hLn2
    clear hR1 hR2 hLn2 hM6 HLn HR0 hr9 hrn r0 l1 hg0 hg1' hle
    go_wp2_with fail
    go_loopw [25] (fun rv wr => ∃ (r : Int) (l : List Int), rv = .int .i64 r ∧ 0 ≤ r ∧ r ≤ 32768 ∧ Hid (r = 2 ^ lim - Ks lim U l) ∧ Hid (r < 2 ^ (lim - 2)) ∧ Hid (Ln N lim U l) ∧ M (.slice (some ⟨nb, fo, none⟩) N c0) lb τ pre post s g q K bn bw bb bp spare w wr l U Wt1 P) (fun rv _ => (intOf rv).toNat)
    case atStart => exact ⟨r1, l2, rfl, hr2, hr3, HR1, HR2, HL2, hM7⟩
    case round =>
      clear hM7 HR1 HR2 HL2 hr2 hr3
      obtain ⟨r, l, rfl, hr0, hr1, HR, HRr, HL, hM⟩ := hrel
      obtain ⟨wo, hwo⟩ : ∃ wo : World, wo = wr := ⟨_, rfl⟩
      rw [← hwo] at hM ⊢
      clear hwo
      by_cases hpos : 0 < r
      · as_aux_lemma =>
        have hNc := hM.hN.cell 0 _ rfl
        go_wp2_with fail
        go_loopw [31, 32] (fun pv iv wr => ∃ (j : Nat) (v p : Int), pv = .int .i64 p ∧ iv = .int .i64 v ∧ v = j - 1 ∧ j ≤ q ∧ Hid (Pk (fun s => un lim l s ≤ r) U (fun t => j ≤ t) p) ∧ M (.slice (some ⟨nb, fo, none⟩) N c0) lb τ pre post s g q K bn bw bb bp spare w wr l U Wt1 P) (fun _ iv _ => (intOf iv + 1).toNat)
        case atStart => exact ⟨q, _, -1, rfl, rfl, rfl, by omega, .inl ⟨rfl, fun t ht hl => by omega⟩, hM⟩
        case round =>
          clear hM hNc
          obtain ⟨j, v, p, rfl, rfl, hvj, hj, HPk, hM⟩ := hrel
          obtain ⟨wp, hwp⟩ : ∃ wp : World, wp = wr := ⟨_, rfl⟩
          rw [← hwp] at hM ⊢
          clear hwp
          by_cases hj0 : j = 0
          · as_aux_lemma =>
            subst hj0
            have hv : v = -1 := by omega
            subst hv
            clear hvj
            obtain ⟨t, ht, hpt, hok⟩ : ∃ t, t < U.length ∧ p = gt U t ∧ un lim l (gt U t) ≤ r := by
              rcases HPk.out with ⟨_, h⟩ | h
              · exfalso
                have e := HR.out
                exact room_for HL.out (by omega) (by omega) (fun t ht => by rw [← e]; exact h t (by omega) ht)
              · exact h
            obtain ⟨x, y, z, hx, hxN, hy, hy1, hy2, hz, hz14, hu⟩ := un_bd HL.out (us_of HP.out) hl2 t ht
            have hln : ln l (gt U t) = y := by rw [hx]; exact hy
            obtain ⟨h2, h3, h4⟩ := shorten HL.out (us_of HP.out) t ht (by rw [← HR.out]; exact hok) (by rw [← HR.out]; exact HRr.out)
            rw [hu] at hok
            simp only [hln, hu] at h2 h3 h4
            simp only [hx, Int.toNat_natCast] at h3 h4
            obtain ⟨hu0, hu1, hu2⟩ := pow_bd z (by omega)
            have hpx : p = x := hpt.trans hx
            have hxi : (x : Int) < N := by omega
            have hll : l.length = N := HL.out.len
            have hcl := hM.hL.cell lo x HLo.out (by omega)
            rw [hy] at hcl
            have hfr := hM.hL.free (lo + x)
            have hM' := hM.setL lo x HLo.out (by omega) (y - 1)
            obtain ⟨u, hu'⟩ : ∃ u : Int, u = 2 ^ z := ⟨_, rfl⟩
            rw [← hu'] at hu0 hu1 h4 hok
            have HW9 : Hid (wrap64 (2 ^ z) = u) := by show _ = u; rw [hu']; exact hu2
            have H3 : Hid (Ln N lim U (l.set x (y - 1))) := h3
            have H4 : Hid (r - u = 2 ^ lim - Ks lim U (l.set x (y - 1))) := by show _ = _; rw [h4, ← HR.out]
            have H5 : Hid (r - u < 2 ^ (lim - 2)) := by have := HRr.out; show _ < _; omega
            subst hpx
            clear hu2 hu' hu hx hy h3 h4 hln ht hpt
            go_wp2
            go_roundw
            case rel => exact ⟨r - u, _, by (rw [HW9.out]; exact congrArg _ (w64 _ (by omega) (by omega))), by omega, by omega, H4, H5, H3, hM'⟩
            case measure =>
              rw [HW9.out, w64 _ (by omega) (by omega)]
              simp [intOf]; omega
          · as_aux_lemma =>
            obtain ⟨i, rfl⟩ : ∃ i, j = i + 1 := ⟨j - 1, by omega⟩
            have hv : v = i := by omega
            subst hv
            clear hvj hj0
            have hiU : i < U.length := by omega
            have hiq : (i : Int) < q := by omega
            obtain ⟨x, y, z, hx, hxN, hy, hy1, hy2, hz, hz14, hu⟩ := un_bd HL.out (us_of HP.out) hl2 i hiU
            have hxi : (x : Int) < N := by omega
            have hcu := Seg.cell0 hM.hU i hiU
            rw [hx] at hcu
            have hll : l.length = N := HL.out.len
            have hcl := hM.hL.cell lo x HLo.out (by omega)
            rw [hy] at hcl
            obtain ⟨hu0, hu1, hu2⟩ := pow_bd z (by omega)
            by_cases hc : (2 : Int) ^ z ≤ r
            · have hci : decide (wrap64 (2 ^ z) ≤ r) = true := decide_eq_true (by rw [hu2]; exact hc)
              have HY : Hid (Pk (fun s => un lim l s ≤ r) U (fun t => i ≤ t) x) := hx ▸ Pk.yes hiU (show un lim l (gt U i) ≤ r by rw [hu]; exact hc)
              clear hx hy hu hu0 hu1 hu2 hc
              by_cases hp : p = -1
              · subst hp
                go_wp2_with fail
                go_quiet (fail)
                go_wp2
                go_roundw
                case rel => exact ⟨i, _, x, rfl, rfl, by omega, by omega, HY, hM.drewN _⟩
                case measure => simp [intOf] <;> omega
              · have HKp : Hid (Pk (fun s => un lim l s ≤ r) U (fun t => i ≤ t) p) := HPk.out.keep hp
                obtain ⟨x', y', hx', hxN', hy', hy1'⟩ : ∃ x' y' : Nat, p = x' ∧ x' < N ∧ gt l x' = y' ∧ y' ≤ 15 := by
                  rcases HPk.out with ⟨h, _⟩ | ⟨t, h1, h2, _⟩
                  · exact absurd h hp
                  · obtain ⟨x', y', z', hx', hxN', hy', _, hy2', _⟩ := un_bd HL.out (us_of HP.out) hl2 t h1
                    exact ⟨x', y', h2.trans hx', hxN', hy', by omega⟩
                subst hx'
                have hxi' : (x' : Int) < N := by omega
                have hcl' := hM.hL.cell lo x' HLo.out (by omega)
                rw [hy'] at hcl'
                have hp0 : decide ((x' : Int) < 0) = false := decide_eq_false (by omega)
                clear hy' hp
                by_cases hgr : y' < y
                · have hgri : decide ((y' : Int) < y) = true := decide_eq_true (by omega)
                  go_wp2_with fail
                  go_quiet (fail)
                  go_wp2
                  go_roundw
                  case rel => exact ⟨i, _, x, rfl, rfl, by omega, by omega, HY, hM.drewN _⟩
                  case measure => simp [intOf] <;> omega
                · have hgri : decide ((y' : Int) < y) = false := decide_eq_false (by omega)
                  go_wp2_with fail
                  go_quiet (fail)
                  go_wp2
                  go_roundw
                  case rel => exact ⟨i, _, _, rfl, rfl, by omega, by omega, HKp, hM.drewN _⟩
                  case measure => simp [intOf] <;> omega
            · have hci : decide (wrap64 (2 ^ z) ≤ r) = false := decide_eq_false (by rw [hu2]; exact hc)
              have HY : Hid (Pk (fun s => un lim l s ≤ r) U (fun t => i ≤ t) p) := HPk.out.no (i := i) (fun t ht => by omega) (show ¬ un lim l (gt U i) ≤ r by rw [hu]; exact hc)
              clear hx hy hu hu0 hu1 hu2 hc
              go_wp2_with fail
              go_quiet (fail)
              go_wp2
              go_roundw
              case rel => exact ⟨i, _, _, rfl, rfl, by omega, by omega, HY, hM.drewN _⟩
              case measure => simp [intOf] <;> omega
      · have e0 : r = 0 := by omega
        subst e0
        go_wp2
        go_end0
        exact ⟨rfl, ⟨_, hM.hL, Hf.fin HP.out (fun s hs => (HF.out s hs).1) HL.out (by have := HR.out; omega) (by omega)⟩, hM.hG⟩
end Go.Proofs.YbulkkrgDoor.Hu
