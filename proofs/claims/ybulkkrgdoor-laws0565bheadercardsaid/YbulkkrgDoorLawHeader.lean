/-
  'LawS0565BHeader' (4) returns true.
-/
import Derived.Test.YbulkkrgDoorLawCode
import Derived.Laws.Tables
import Derived.Deep.WholeRow
import Derived.Great.Frames
namespace Go.Proofs.YbulkkrgDoor.La
open Go.RowKit Go.Proofs.YbulkkrgDoor.Srt Go.Proofs.YbulkkrgDoor.Mm Go.Proofs.YbulkkrgDoor.Hu Go.Proofs.YbulkkrgDoor.Co Go.Proofs.YbulkkrgDoor.Fb Go.Proofs.YbulkkrgDoor.De Go.Proofs.YbulkkrgDoor.Bl Go.Proofs.YbulkkrgDoor.Bu Go.Proofs.YbulkkrgDoor.Ck Go.Proofs.YbulkkrgDoor.Sm
set_option linter.unusedVariables false

/-- the memory of the law's own loop over the runs -/
structure Me (w0 : World) (s cb : Nat) (a d ca cd : List Int) (L D C : Int) (cl cc : List Int) (gr cr : Nat) (lv : Value) (R : List (Int × Int)) (sR bf : Nat) (wx : World) (F : List Int) : Prop where
  hH : Hb wx (cb + 1) L D C cl cc (.slice (some ⟨gr, 0, none⟩) R.length cr) lv
  hC : Cb wx cb a d ca cd
  hR : wx.ownsRow sR 53 2 (.slice (some ⟨gr, 0, none⟩) R.length cr) R.length (rc R)
  hF : Seg wx bf 51 .u32 [] F []
  hB : Below s w0 wx
  ord : s ≤ cb ∧ cb + 1 < sR ∧ sR ≤ gr ∧ gr < bf ∧ s ≤ w0.heap.size
theorem Me.lt {w0 : World} {s cb : Nat} {a d ca cd : List Int} {L D C : Int} {cl cc : List Int} {gr cr : Nat} {lv : Value} {R : List (Int × Int)} {sR bf : Nat} {wx : World} {F : List Int} (h : Me w0 s cb a d ca cd L D C cl cc gr cr lv R sR bf wx F) : bf < wx.heap.size := h.hF.lt
theorem Me.kept {w0 : World} {s cb : Nat} {a d ca cd : List Int} {L D C : Int} {cl cc : List Int} {gr cr : Nat} {lv : Value} {R : List (Int × Int)} {sR bf : Nat} {wx w' : World} {F : List Int} {r : Option Nat} (h : Me w0 s cb a d ca cd L D C cl cc gr cr lv R sR bf wx F) (hg : wx.grownBy w' r) (hr : ∀ k, r = some k → bf < k) : Me w0 s cb a d ca cd L D C cl cc gr cr lv R sR bf w' F := by
  have o := h.ord
  have ne : ∀ k, k ≤ bf → some k ≠ r := fun k hk e => by have := hr k e.symm; omega
  refine ⟨h.hH.kept hg (ne _ (by omega)), Cb.kept' h.hC hg (ne _ (by omega)), ⟨h.hR.1, ?_⟩, ⟨by rw [hg.block bf h.lt (ne _ (by omega))]; exact h.hF.at_⟩, h.hB.grown hg (Nat.le_trans o.2.2.2.2 h.hB.size) (fun k hk => by have := hr k hk; omega), o⟩
  rcases h.hR.2 with h' | ⟨g, cap, cur, h1, h2, h3, h4⟩
  · exact .inl h'
  · simp only [Value.slice.injEq, Option.some.injEq, Addr.mk.injEq, and_true, true_and] at h1
    obtain ⟨rfl, rfl⟩ := h1
    exact .inr ⟨gr, cr, cur, rfl, h2, by rw [hg.block gr (Array.getElem?_eq_some_iff.1 h3).1 (ne _ (by omega))]; exact h3, h4⟩
theorem Me.alloc {w0 : World} {s cb : Nat} {a d ca cd : List Int} {L D C : Int} {cl cc : List Int} {gr cr : Nat} {lv : Value} {R : List (Int × Int)} {sR bf : Nat} {wx : World} {F : List Int} (h : Me w0 s cb a d ca cd L D C cl cc gr cr lv R sR bf wx F) (b : Obj) : Me w0 s cb a d ca cd L D C cl cc gr cr lv R sR bf (wx.alloc b) F := h.kept (World.grownBy_alloc wx b none) (fun k hk => by cases hk)
theorem Me.setF {w0 : World} {s cb : Nat} {a d ca cd : List Int} {L D C : Int} {cl cc : List Int} {gr cr : Nat} {lv : Value} {R : List (Int × Int)} {sR bf : Nat} {wx : World} {F : List Int} (h : Me w0 s cb a d ca cd L D C cl cc gr cr lv R sR bf wx F) (j : Nat) (hj : j < F.length) (x : Int) : Me w0 s cb a d ca cd L D C cl cc gr cr lv R sR bf (wx.setCell ⟨bf, j, none⟩ (.int .u32 x)) (F.set j x) := by
  have o := h.ord
  have hg : wx.grownBy (wx.setCell ⟨bf, j, none⟩ (.int .u32 x)) (some bf) := grown_set (World.grownBy.refl wx (some bf)) _ _ (.inr rfl)
  have ne : ∀ k, k < bf → some k ≠ some bf := fun k hk e => by have := Option.some.inj e; omega
  refine ⟨h.hH.kept hg (ne _ (by omega)), Cb.kept' h.hC hg (ne _ (by omega)), ⟨h.hR.1, ?_⟩, Seg.set0 h.hF j hj x, h.hB.grown hg (Nat.le_trans o.2.2.2.2 h.hB.size) (fun k hk => by have := Option.some.inj hk; omega), o⟩
  rcases h.hR.2 with h' | ⟨g, cap, cur, h1, h2, h3, h4⟩
  · exact .inl h'
  · simp only [Value.slice.injEq, Option.some.injEq, Addr.mk.injEq, and_true, true_and] at h1
    obtain ⟨rfl, rfl⟩ := h1
    exact .inr ⟨gr, cr, cur, rfl, h2, by rw [hg.block gr (Array.getElem?_eq_some_iff.1 h3).1 (ne _ (by omega))]; exact h3, h4⟩
theorem owns_ne {w : World} {B n bq : Nat} {v : Value} {xs cs : List Value} (h : w.ownsRow B 5 1 v n xs) (hb : At w bq 53 cs) (g : Nat) (hg : v.ownBlock = some g) : g ≠ bq := by
  intro e
  subst e
  rcases h.2 with ⟨h', _⟩ | ⟨g', cap, cur, h1, h2, h3, _⟩
  · rw [h'] at hg; cases hg
  · rw [h1] at hg
    have e2 : g' = g := Option.some.inj hg
    subst e2
    rw [hb.at_] at h3
    simp at h3
theorem exS_len (Y : List Int) (r : Int × Int) : Y.length ≤ (exS Y r).length := by
  unfold exS
  split
  · simp
  · split
    · simp
    · split <;> simp
theorem ex_take_le (R : List (Int × Int)) (k : Nat) : ∀ m, (ex (R.take k)).length ≤ (ex (R.take (k + m))).length
  | 0 => Nat.le_refl _
  | m + 1 => by
    refine Nat.le_trans (ex_take_le R k m) ?_
    rw [← Nat.add_assoc, List.take_add_one]
    cases hr : R[k + m]? with
    | none => simp
    | some r => rw [show (some r).toList = [r] from rfl, ex_snoc]; exact exS_len _ _
theorem ex_le (R : List (Int × Int)) (k : Nat) (hk : k ≤ R.length) : (ex (R.take k)).length ≤ (ex R).length := by
  have := ex_take_le R k (R.length - k)
  rwa [show k + (R.length - k) = R.length by omega, List.take_length] at this
theorem ex_step (R : List (Int × Int)) (k : Nat) (hk : k < R.length) : ex (R.take (k + 1)) = exS (ex (R.take k)) R[k] := by
  rw [List.take_add_one, List.getElem?_eq_getElem hk]; exact ex_snoc _ _

def ordP : Array (Nat × Operand) := #[(0, .const (.int .u8 16)), (1, .const (.int .u8 17)), (2, .const (.int .u8 18)), (3, .const (.int .u8 0)), (4, .const (.int .u8 8)), (5, .const (.int .u8 7)), (6, .const (.int .u8 9)), (7, .const (.int .u8 6)), (8, .const (.int .u8 10)), (9, .const (.int .u8 5)), (10, .const (.int .u8 11)), (11, .const (.int .u8 4)), (12, .const (.int .u8 12)), (13, .const (.int .u8 3)), (14, .const (.int .u8 13)), (15, .const (.int .u8 2)), (16, .const (.int .u8 14)), (17, .const (.int .u8 1)), (18, .const (.int .u8 15))]
def ordA : Array Value := (ordL.map (Value.int .u8)).toArray
def z32 : List Value := (List.replicate 19 0).map (Value.int .u8)
theorem alloc32 (w : World) : (Instr.alloc 32 true (.tuple #[])).run Ybad.prog w = .ok (.pointer (some ⟨w.heap.size, 0, none⟩)) (w.alloc (.cells z32.toArray 32)) := by kernel_rfl
theorem ord_size : (Ybad.prog.info? 32).map (·.size) = some ordA.size := by kernel_rfl
theorem ord_one : ordA.all (·.oneCell') = true := by kernel_rfl
theorem ord_built (a : Act) : Ybad.prog.built 32 (ordP.map fun (i, x) => (i, a.eval x)).toList = some ordA := by kernel_rfl
theorem wpList_order {ops : Array Oper} {rest : List Oper} {o1 o2 o3 : Oper} {a : Act} {w : World} {Q : Exit → Act → World → Prop} (g1 : o1.guard = none) (g2 : o2.guard = none) (g3 : o3.guard = none)
    (p1 : o1.op = .build 32 ordP) (p2 : o2.op = .alloc 32) (p3 : o3.op = .store 32 (.tmp 20) (.tmp 243)) (d1 : o1.dst = some 243) (d2 : o2.dst = some 20) (d3 : o3.dst = none) (hs : a.tmps.size = 265)
    (h : ∀ cs : Array Value, cs = ordA → wpList Ybad.prog ops Q rest (((a.put (some 243) (.agg cs)).put (some 20) (.pointer (some ⟨w.heap.size, 0, none⟩))).put none undef) (w.alloc (.cells cs 32))) : wpList Ybad.prog ops Q (o1 :: o2 :: o3 :: rest) a w := by
  refine wpList_build g1 32 ordP p1 (by rw [ord_built]; rfl) ?_
  rw [ord_built, d1]
  show wpList Ybad.prog ops Q (o2 :: o3 :: rest) (a.put (some 243) (.agg ordA)) w
  have hq := h ordA rfl
  refine wpList_plain g2 fun K hK => ?_
  unfold Oper.wp execOp
  simp only [p2, Sem.run_bind, alloc32, Result.andThen_ok, Sem.run_pure]
  apply hK
  rw [d2]
  refine wpList_store_row g3 32 (.tmp 20) (.tmp 243) p3 w.heap.size ordA (Act.eval_put_same _ 20 _ (by rw [Act.size_put, hs]; omega)) ?_ 32 z32.toArray (heap_alloc_last w _) ord_size (by kernel_rfl) ord_one ?_
  · rw [Act.eval_put_ne _ 20 243 _ (by omega)]; exact Act.eval_put_same _ 243 _ (by rw [hs]; omega)
  · rw [World.setRow_alloc_new, d3]; exact hq
theorem Me.drewN {w0 : World} {s cb : Nat} {a d ca cd : List Int} {L D C : Int} {cl cc : List Int} {gr cr : Nat} {lv : Value} {R : List (Int × Int)} {sR bf : Nat} {wx : World} {F : List Int} (h : Me w0 s cb a d ca cd L D C cl cc gr cr lv R sR bf wx F) (n : Nat) : Me w0 s cb a d ca cd L D C cl cc gr cr lv R sR bf (wx.drewN n) F :=
  ⟨h.hH.drewN n, h.hC.drewN n, h.hR, ⟨h.hF.at_⟩, ⟨h.hB.os, h.hB.tape, h.hB.output, h.hB.size, h.hB.block⟩, h.ord⟩
theorem exS_pos (Y : List Int) (r : Int × Int) : 0 < (exS Y r).length := by
  unfold exS
  split
  · simp
  · split
    · simp; omega
    · split <;> (simp; omega)
theorem owns_shape {w : World} {B e k n : Nat} {v : Value} {xs : List Value} (h : w.ownsRow B e k v n xs) (hn : 0 < n) : ∃ g c, v = .slice (some ⟨g, 0, none⟩) n c := by
  rcases h.2 with ⟨_, h'⟩ | ⟨g1, c1, cur, h', _⟩
  · omega
  · exact ⟨g1, c1, h'⟩
theorem e8_l (a d : List Int) (L D i : Nat) (hL : L ≤ a.length) (hi : i < L) : (e8 (a.take L ++ d.take D))[i]? = some (.int .u8 (gt a i)) := by
  rw [List.getElem?_map, List.getElem?_append_left (by rw [List.length_take]; omega), List.getElem?_take_of_lt hi, gt_get a i (by omega)]; rfl
theorem e8_r (a d : List Int) (L D i : Nat) (hL : L ≤ a.length) (hD : D ≤ d.length) (hi : i < D) : (e8 (a.take L ++ d.take D))[L + i]? = some (.int .u8 (gt d i)) := by
  rw [List.getElem?_map, List.getElem?_append_right (by rw [List.length_take]; omega), List.length_take, Nat.min_eq_left hL, Nat.add_sub_cancel_left, List.getElem?_take_of_lt hi, gt_get d i (by omega)]; rfl

set_option maxHeartbeats 3200000 in
set_option maxRecDepth 100000 in
theorem headerLaw (a0 a1 : Option Addr) (n0 c0 n1 c1 : Nat) (w : World) (h0 : Hits w a0 n0) (h1 : Hits w a1 n1) (hm0 : n0 ≤ maxLen) (hm1 : n1 ≤ maxLen) (hT : Tb w) (h4 : 4 ≤ w.heap.size) :
    Calls Ybad.prog 4 #[.slice a0 n0 c0, .slice a1 n1 c1] w fun e w' => e = .returned (.bool true) ∧ Below w.heap.size w w' := by
  unfold maxLen at hm0 hm1
  have H0 : Hid (Hits w a0 n0) := h0
  have H1 : Hid (Hits w a1 n1) := h1
  clear h0 h1
  by_cases k0 : 1024 < n0
  · have k0i : (1024 : Int) < n0 := by omega
    go_enter Ybad.func4, Ybad.ntmps4
    go_wp2
    go_ret
    exact ⟨rfl, Below.refl _ _⟩
  have k0i : ¬ (1024 : Int) < n0 := by omega
  by_cases k1 : 1024 < n1
  · have k1i : (1024 : Int) < n1 := by omega
    go_enter Ybad.func4, Ybad.ntmps4
    go_wp2
    go_ret
    exact ⟨rfl, Below.refl _ _⟩
  have k1i : ¬ (1024 : Int) < n1 := by omega
  go_enter Ybad.func4, Ybad.ntmps4
  go_wp2_with fail
  refine (build a0 a1 n0 c0 n1 c1 w H0.out H1.out (by omega) (by omega)).mono ?_
  rintro e w1 ⟨rfl, ⟨Fl, Fd, hn, hbl, hbd⟩, hg1⟩
  have HBl : Hid (Bd32 Fl 286) := hbl
  have HBd : Hid (Bd32 Fd 30) := hbd
  have hT1 := hT.kept hg1 (fun k hk => by have := Option.some.inj hk; omega)
  have hB1 : Below w.heap.size w w1 := (Below.refl _ _).grown hg1 (Nat.le_refl _) (fun k hk => by have := Option.some.inj hk; omega)
  have hnb := hn.lt
  obtain ⟨s, hs⟩ : ∃ s, s = w.heap.size := ⟨_, rfl⟩
  rw [← hs] at hn hnb hB1 h4 ⊢
  have HS : Hid (s = w.heap.size) := hs
  clear hbl hbd hT hg1 H0 H1 hs
  go_upto_region 4 with fail
  go_step
  refine wpList_alloc31 rfl rfl ?_
  intro cs1 hcs1
  obtain ⟨za, zd, zca, zcd, hC2⟩ := cb_new w1 cs1 hcs1
  have hn2 := Cn.alloc hn (.cells cs1 31)
  have hT2 := hT1.kept (World.grownBy_alloc w1 (.cells cs1 31) none) (fun k hk => by cases hk)
  have hB2 := hB1.alloc (by omega) (.cells cs1 31)
  obtain ⟨cb, hcb⟩ : ∃ cb, cb = w1.heap.size := ⟨_, rfl⟩
  have hsz2 : (w1.alloc (.cells cs1 31)).heap.size = cb + 1 := by rw [hcb]; exact Array.size_push _
  rw [← hcb] at hC2 hnb ⊢
  clear hcb hcs1 hn hT1 hB1
  generalize w1.alloc (.cells cs1 31) = w2 at *
  go_upto_region 5 with fail
  go_step
  refine wpList_alloc37 rfl rfl ?_
  intro cs2 hcs2
  obtain ⟨zl, zc, hH3⟩ := hb_new w2 cs2 hcs2
  have hC3 := Cb.kept' hC2 (World.grownBy_alloc w2 (.cells cs2 37) none) (by simp)
  have hn3 := Cn.alloc hn2 (.cells cs2 37)
  have hT3 := hT2.kept (World.grownBy_alloc w2 (.cells cs2 37) none) (fun k hk => by cases hk)
  have hB3 := hB2.alloc (by omega) (.cells cs2 37)
  have hsz3 : (w2.alloc (.cells cs2 37)).heap.size = cb + 1 + 1 := by rw [← hsz2]; exact Array.size_push _
  rw [hsz2] at hH3 ⊢
  clear hcs2 hC2 hn2 hT2 hB2
  generalize w2.alloc (.cells cs2 37) = w3 at *
  go_wp2_with fail
  have hcall := fitBlock cb (cb + 1) s Fl Fd za zd zca zcd zl zc 0 0 0 w3 hC3 hH3 hn3 HBl.out HBd.out (by omega) (by omega) (by omega) hT3 (by omega) (by omega)
  refine hcall.mono ?_
  clear hcall
  rintro e w4 ⟨a, d, ca, cd, L, D, C, R, cl, cc, rv, lv, rfl, hK, hbel⟩
  have hB4 := hB3.trans (hbel s (by omega) (by omega) (by omega))
  have hC4 := hK.hC
  have hH4 := hK.hH
  have hR4 := hK.hR
  have HFt : Hid (Ft Fl Fd a d ca cd) := hK.ft
  have HDs : Hid (Dd a d L D C R cl) := hK.dd
  clear hK hbel hB3 hC3 hH3 hn3 hT3
  have HA : Hid (∀ j, j < 286 → 0 ≤ gt a j ∧ gt a j ≤ 15) := fun j hj => by have := Hf.bd15 HFt.out.ha j hj; omega
  have HD : Hid (∀ j, j < 30 → 0 ≤ gt d j ∧ gt d j ≤ 15) := fun j hj => by have := Hf.bd15 HFt.out.hd j hj; omega
  obtain ⟨hp0, hp1⟩ := Dd.pos HDs.out hC4.la hC4.ld
  have hL1 := HDs.out.hl.lo
  have hL2 := HDs.out.hl.hi
  have hD1 := HDs.out.hd.lo
  have hD2 := HDs.out.hd.hi
  have hL1i : ¬ (L : Int) < 257 := by omega
  have hL2i : ¬ (286 : Int) < L := by omega
  have hD1i : ¬ (D : Int) < 1 := by omega
  have hD2i : ¬ (30 : Int) < D := by omega
  obtain ⟨gr, cr, hrv⟩ : ∃ gr cr, rv = .slice (some ⟨gr, 0, none⟩) R.length cr := by
    rcases hR4.2 with ⟨_, h⟩ | ⟨g1, c1, cur, h, _⟩
    · omega
    · exact ⟨g1, c1, h⟩
  subst hrv
  generalize 17 + 3 * (C : Int) + rb cl R R.length + (db1 Fl a 286 + db2 Fd d 30) = X
  have hc0 := hH4.c0
  have hc1 := hH4.c1
  go_upto_block 0 with fail
  go_cut [] from 30 to 63 (fun wx => w4 = wx)
  case first =>
    go_wp2_with fail
    go_loopw [8] (fun sv wr => ∃ k : Nat, sv = .int .i64 k ∧ L ≤ k ∧ k ≤ 286 ∧ w4 = wr) (fun sv _ => 286 - (intOf sv).toNat)
    case atStart => exact ⟨L, rfl, by omega, by omega, rfl⟩
    case round =>
      obtain ⟨k, rfl, hk1, hk2, rfl⟩ := hrel
      by_cases hlt : k < 286
      · have hlti : (k : Int) < 286 := by omega
        have hcl := Seg.cell0 hC4.segA k (by rw [hC4.la]; exact hlt)
        rw [HDs.out.hl.off k hk1 hlt] at hcl
        go_wp2
        go_roundw
        case rel => exact ⟨k + 1, by go_num, by omega, by omega, by first | trivial | rfl⟩
        case measure => simp [intOf]; omega
      · have hlti : ¬ (k : Int) < 286 := by omega
        go_wp2
        go_meet
        case rel => rfl
  case rest =>
  subst hcut
  go_upto_region 14 with fail
  go_cut [75] from 64 to 75 (fun v wx => v = .bool false ∧ w4 = wx)
  case first =>
    by_cases h257 : 257 < L
    · have h257i : (257 : Int) < L := by omega
      obtain ⟨t, ht⟩ : ∃ t, L = t + 1 := ⟨L - 1, by omega⟩
      have hti : (L : Int) - 1 = t := by omega
      have ht286 : (t : Int) < 286 := by omega
      have hcl := Seg.cell0 hC4.segA t (by rw [hC4.la]; omega)
      have hnz := HDs.out.hl.at_ h257
      rw [show L - 1 = t by omega] at hnz
      have bt := HA.out t (by omega)
      obtain ⟨y, hy⟩ : ∃ y : Nat, gt a t = y := ⟨(gt a t).toNat, by omega⟩
      rw [hy] at hcl hnz
      have hy0 : ¬ (y : Int) = 0 := by omega
      clear hy ht hnz bt
      go_wp2_with fail
      go_meet
      case rel => exact ⟨by first | rfl | (simp; omega), rfl⟩
    · have h257i : ¬ (257 : Int) < L := by omega
      go_wp2_with fail
      go_meet
      case rel => exact ⟨by first | rfl | simp, rfl⟩
  case rest =>
  obtain ⟨rfl, rfl⟩ := hcut
  go_upto_block 2 with fail
  go_cut [] from 76 to 86 (fun wx => w4 = wx)
  case first =>
    go_wp2_with fail
    go_loopw [9] (fun sv wr => ∃ k : Nat, sv = .int .i64 k ∧ D ≤ k ∧ k ≤ 30 ∧ w4 = wr) (fun sv _ => 30 - (intOf sv).toNat)
    case atStart => exact ⟨D, rfl, by omega, by omega, rfl⟩
    case round =>
      obtain ⟨k, rfl, hk1, hk2, rfl⟩ := hrel
      by_cases hlt : k < 30
      · have hlti : (k : Int) < 30 := by omega
        have hcl := hC4.segD.cell 286 k (by rw [List.length_map]; exact hC4.la.symm) (by rw [hC4.ld]; exact hlt)
        rw [HDs.out.hd.off k hk1 hlt] at hcl
        go_wp2
        go_roundw
        case rel => exact ⟨k + 1, by go_num, by omega, by omega, by first | trivial | rfl⟩
        case measure => simp [intOf]; omega
      · have hlti : ¬ (k : Int) < 30 := by omega
        go_wp2
        go_meet
        case rel => rfl
  case rest =>
  subst hcut
  go_upto_region 21 with fail
  go_cut [98] from 87 to 98 (fun v wx => v = .bool false ∧ w4 = wx)
  case first =>
    by_cases h257 : 1 < D
    · have h257i : (1 : Int) < D := by omega
      obtain ⟨t, ht⟩ : ∃ t, D = t + 1 := ⟨D - 1, by omega⟩
      have hti : (D : Int) - 1 = t := by omega
      have ht286 : (t : Int) < 30 := by omega
      have hcl := hC4.segD.cell 286 t (by rw [List.length_map]; exact hC4.la.symm) (by rw [hC4.ld]; omega)
      have hnz := HDs.out.hd.at_ h257
      rw [show D - 1 = t by omega] at hnz
      have bt := HD.out t (by omega)
      obtain ⟨y, hy⟩ : ∃ y : Nat, gt d t = y := ⟨(gt d t).toNat, by omega⟩
      rw [hy] at hcl hnz
      have hy0 : ¬ (y : Int) = 0 := by omega
      clear hy ht hnz bt
      go_wp2_with fail
      go_meet
      case rel => exact ⟨by first | rfl | (simp; omega), rfl⟩
    · have h257i : ¬ (1 : Int) < D := by omega
      go_wp2_with fail
      go_meet
      case rel => exact ⟨by first | rfl | simp, rfl⟩
  case rest =>
  obtain ⟨rfl, rfl⟩ := hcut
  have hgr2 : cb + 1 + 1 ≤ gr ∧ gr < w4.heap.size := by
    rcases hR4.2 with ⟨h', _⟩ | ⟨g, cap, cur, e1, e2, e3, _⟩
    · simp at h'
    · simp only [Value.slice.injEq, Option.some.injEq, Addr.mk.injEq, and_true, true_and] at e1
      obtain ⟨rfl, rfl⟩ := e1
      exact ⟨by omega, (Array.getElem?_eq_some_iff.1 e3).1⟩
  rw [hsz3] at hR4
  obtain ⟨bf, hbf⟩ : ∃ bf, bf = w4.heap.size := ⟨_, rfl⟩
  have hM0 : Me w s cb a d ca cd L D C cl cc gr cr lv R (cb + 1 + 1) bf (w4.alloc (.cells #[.int .u32 0, .int .u32 0, .int .u32 0, .int .u32 0, .int .u32 0, .int .u32 0, .int .u32 0, .int .u32 0, .int .u32 0, .int .u32 0, .int .u32 0, .int .u32 0, .int .u32 0, .int .u32 0, .int .u32 0, .int .u32 0, .int .u32 0, .int .u32 0, .int .u32 0] 51)) (fq (R.take 0)) :=
    ⟨hH4.alloc _, Cb.kept' hC4 (World.grownBy_alloc w4 _ none) (by simp), hR4.alloc _, ⟨by rw [hbf]; exact heap_alloc_new w4 _⟩, hB4.alloc (Nat.le_trans (by have := HS.out; omega) hB4.size) _, by omega, by omega, hgr2.1, by omega, by have := HS.out; omega⟩
  have hc41 := hM0.hH.c41
  have hsz5 := hM0.lt
  have HEx : Hid (ex R = a.take L ++ d.take D) := HDs.out.hr.eq
  have HXl : Hid ((ex R).length = L + D) := by
    show _ = _
    rw [HEx.out, List.length_append, List.length_take, List.length_take, hC4.la, hC4.ld]; omega
  have hw4 : w4.heap.size = bf := hbf.symm
  obtain ⟨i5, hi5, hz50, hz51, hz52⟩ := info_parts info5
  clear hbf hH4 hC4 hR4 hB4 hc0 hc1 hgr2
  go_upto_block 4 with fail
  go_cut [11] from 99 to 196 (fun v wx => wx.ownsRow (bf + 1) 5 1 v (ex R).length (e8 (ex R)) ∧ Me w s cb a d ca cd L D C cl cc gr cr lv R (cb + 1 + 1) bf wx (fq R))
  case first =>
    go_wp2_with fail
    go_loopw [11, 12] (fun ov iv wr => ∃ k : Nat, iv = .int .i64 k ∧ k ≤ R.length ∧ wr.ownsRow (bf + 1) 5 1 ov (ex (R.take k)).length (e8 (ex (R.take k))) ∧ Me w s cb a d ca cd L D C cl cc gr cr lv R (cb + 1 + 1) bf wr (fq (R.take k))) (fun _ iv _ => R.length - (intOf iv).toNat)
    case atStart => exact ⟨0, rfl, by omega, World.ownsRow_nil _ _ _ _, hM0⟩
    case round =>
      clear hM0 hc41 hsz5
      obtain ⟨k, rfl, hk, ho, hM⟩ := hrel
      obtain ⟨wo, hwo⟩ : ∃ wo : World, wo = wr := ⟨_, rfl⟩
      rw [← hwo] at hM ho ⊢
      clear hwo
      have hc41 := hM.hH.c41
      by_cases hlt : k < R.length
      · have hlti : (k : Int) < R.length := by omega
        have g1 := rc_get R k hlt
        have l := rc_len R
        have hq1 : wo.cell? ⟨gr, k * 2, none⟩ = some (.int .u8 (R[k]).1) := by
          rw [hM.hR.cellAt (k * 2) (by omega), show k * 2 = 2 * k by omega]; exact g1.1
        have hq2 : wo.cell? ⟨gr, k * 2 + 1, none⟩ = some (.int .u8 (R[k]).2) := by
          rw [hM.hR.cellAt (k * 2 + 1) (by omega), show k * 2 = 2 * k by omega]; exact g1.2
        have HOk : Hid (ok1 (ex (R.take k)) R[k]) := HDs.out.hr.ok k _ (List.getElem?_eq_getElem hlt)
        have HSe : Hid (ex (R.take (k + 1)) = exS (ex (R.take k)) R[k]) := ex_step R k hlt
        have HSt : Hid (fq (R.take (k + 1)) = (fq (R.take k)).set (R[k]).1.toNat (gt (fq (R.take k)) (R[k]).1.toNat + 1)) := fq_step R k hlt
        have hbd := HDs.out.hr.bd k hlt
        obtain ⟨r, hr⟩ : ∃ r, r = R[k] := ⟨_, rfl⟩
        rw [← hr] at hq1 hq2 HOk HSe HSt hbd
        obtain ⟨p, hp⟩ : ∃ p : Nat, r.1 = p := ⟨r.1.toNat, by omega⟩
        obtain ⟨e, he⟩ : ∃ e : Nat, r.2 = e := ⟨r.2.toNat, by omega⟩
        have hrp : r = ((p : Int), (e : Int)) := by rw [← hp, ← he]
        rw [hrp] at HOk HSe
        rw [hp, Int.toNat_natCast] at HSt
        rw [hp] at hq1 hbd
        rw [he] at hq2 hbd
        have hp19 : p < 19 := by omega
        have hp19i : (p : Int) < 19 := by omega
        have hp18 : ¬ (18 : Int) < p := by omega
        have he127 : e ≤ 127 := by omega
        have hfb := fq_bd R k (by omega) p hp19
        obtain ⟨f, hf⟩ : ∃ f : Nat, gt (fq (R.take k)) p = f := ⟨(gt (fq (R.take k)) p).toNat, by omega⟩
        have hcf := Seg.cell0 hM.hF p (by rw [fq_len]; exact hp19)
        rw [hf] at hcf HSt hfb
        have hff := hM.hF.free p
        have hbl := hM.lt
        have hM2 := (hM.setF p (by rw [fq_len]; exact hp19) ((f : Int) + 1)).alloc (.cells #[.int .u8 p, .int .u8 e] 53)
        rw [← HSt.out] at hM2
        have hf31 : f ≤ 316 := by omega
        have hYl := ex_le R (k + 1) (by omega)
        have HY1 : Hid ((ex (R.take (k + 1))).length ≤ 316) := by show _ ≤ _; have := HXl.out; omega
        clear hf hfb hbd hp he hr hrp g1 l HSt hYl
        go_upto_block 6 with fail
        have ho2 := (owns_set ho ⟨bf, p, none⟩ (.int .u32 ((f : Int) + 1)) (Nat.lt_succ_self bf)).alloc (.cells #[.int .u8 p, .int .u8 e] 53)
        have hbq : At ((wo.setCell ⟨bf, p, none⟩ (.int .u32 ((f : Int) + 1))).alloc (.cells #[.int .u8 p, .int .u8 e] 53)) wo.heap.size 53 [.int .u8 p, .int .u8 e] := by
          have h := At.new (wo.setCell ⟨bf, p, none⟩ (.int .u32 ((f : Int) + 1))) 53 [.int .u8 p, .int .u8 e]
          rwa [show (wo.setCell ⟨bf, p, none⟩ (.int .u32 ((f : Int) + 1))).heap.size = wo.heap.size by simp [World.setCell]] at h
        generalize (wo.setCell ⟨bf, p, none⟩ (.int .u32 ((f : Int) + 1))).alloc (.cells #[.int .u8 p, .int .u8 e] 53) = wp at *
        obtain ⟨bq, hbqe⟩ : ∃ bq, bq = wo.heap.size := ⟨_, rfl⟩
        rw [← hbqe] at hbq ⊢
        clear hbqe hM ho hcf hff hbl hq1 hq2 hc41
        have hq0 := hbq.cell 0 _ rfl
        have hq9 := hbq.cell 1 _ rfl
        obtain ⟨Y, hY⟩ : ∃ Y, Y = ex (R.take k) := ⟨_, rfl⟩
        rw [← hY] at ho2 HOk HSe
        have hYl : Y.length ≤ 316 := by
          have h1 := exS_len Y ((p : Int), (e : Int)); rw [← HSe.out] at h1
          have := HY1.out; omega
        have HYs : Hid ((exS Y ((p : Int), (e : Int))).length ≤ 316) := by show _ ≤ _; rw [← HSe.out]; exact HY1.out
        clear hY
        go_cut [11] from 99 to 196 (fun v wx => wx.ownsRow (bf + 1) 5 1 v (ex (R.take (k + 1))).length (e8 (ex (R.take (k + 1)))) ∧ Me w s cb a d ca cd L D C cl cc gr cr lv R (cb + 1 + 1) bf wx (fq (R.take (k + 1))))
        case first =>
          by_cases hp16 : p < 16
          · have hp16i : (p : Int) < 16 := by omega
            have he0 : e = 0 := by have := HOk.out.lit hp16i; have : (e : Int) = 0 := this; omega
            subst he0
            have HSl : Hid (ex (R.take (k + 1)) = Y ++ [(p : Int)]) := by show _ = _; rw [HSe.out]; unfold exS; rw [if_pos hp16i]
            go_wp2_with (at_builtin; refine wpList_append_own _ rfl _ _ 35 rfl (bf + 1) 5 i5 (.int .u8 0) 1 1 Ybad.underlying35 hi5 hz50 hz51 hz52 rfl (by decide) _ _ _ rfl (ho2.alloc _) ⟨wp.heap.size, 0, none⟩ 1 1 [Value.int .u8 p] rfl rfl ?a11 ?a12 ?a13 ?a14 ?a15 ?_)
            try (case a11 =>
              intro j u' hj
              match j, hj with
              | 0, hj => simp at hj; subst hj; simp [Addr.add])
            try (case a12 => first | rfl | (intro u' hu'; simp at hu'; subst hu'; rfl))
            case a13 => unfold maxLen; omega
            case a14 => omega
            case a15 => first | exact Nat.le_trans (Nat.succ_le_of_lt hM2.lt) (World.grownBy_alloc _ _ none).size | (have := hM2.lt; omega)
            intro v1 w5 ho5 hg5 _
            have hM5 := (hM2.alloc _).kept hg5 (fun k hk => by have := (ho2.lt k hk).1; omega)
            go_wp2
            go_meet
            case rel => exact ⟨by rw [HSl.out, List.length_append, show e8 (Y ++ [(p : Int)]) = e8 Y ++ e8 [(p : Int)] from List.map_append]; exact ho5, hM5⟩
          have hp16i : ¬ (p : Int) < 16 := by omega
          by_cases hpe : p = 16
          · subst hpe
            obtain ⟨hY0, he3'⟩ := HOk.out.rep rfl
            have he3 : e ≤ 3 := by have : (e : Int) ≤ 3 := he3'; omega
            have he3i : ¬ (3 : Int) < e := by omega
            have hYp : 0 < Y.length := List.length_pos_iff.2 hY0
            obtain ⟨go, co, hov⟩ := owns_shape ho2 hYp
            obtain ⟨t, ht⟩ : ∃ t, Y.length = t + 1 := ⟨Y.length - 1, by omega⟩
            have hcx : wp.cell? ⟨go, t, none⟩ = some (.int .u8 (gt Y t)) := by
              rw [hov] at ho2
              rw [ho2.cellAt t (by omega), List.getElem?_map, gt_get Y t (by omega)]; rfl
            have HSl0 : Hid (ex (R.take (k + 1)) = Y ++ List.replicate (3 + e) (gt Y t)) := by
              show _ = _; rw [HSe.out]; unfold exS; rw [if_neg (by show ¬ (16 : Int) < 16; omega), if_pos (by show (16 : Int) = 16; rfl), show Y.length - 1 = t by omega]; simp
            obtain ⟨x, hx⟩ : ∃ x, x = gt Y t := ⟨_, rfl⟩
            rw [← hx] at hcx HSl0
            have hln : Y.length + (3 + e) ≤ 316 := by have := HY1.out; rw [HSl0.out, List.length_append, List.length_replicate] at this; exact this
            obtain ⟨N, hN⟩ : ∃ N, N = Y.length := ⟨_, rfl⟩
            rw [← hN] at hov ht ho2 hln hYl
            have hNi : ((t : Int) + 1) - 1 = t := by omega
            have HNY : Hid (N = Y.length) := hN
            clear hx hN hY0 he3' hYp
            subst ht
            subst hov
            have hN0 : ¬ ((t : Int) + 1) = 0 := by omega
            have htl : (t : Int) < (t : Int) + 1 := by omega
            go_wp2_with fail
            go_loopw [11, 15] (fun ov jv wr => ∃ j : Nat, jv = .int .i64 j ∧ j ≤ 3 + e ∧ wr.ownsRow (bf + 1) 5 1 ov (t + 1 + j) (e8 (Y ++ List.replicate j x)) ∧ At wr bq 53 [.int .u8 ((16 : Nat) : Int), .int .u8 e] ∧ Me w s cb a d ca cd L D C cl cc gr cr lv R (cb + 1 + 1) bf wr (fq (R.take (k + 1)))) (fun _ jv _ => 3 + e - (intOf jv).toNat)
            case atStart => exact ⟨0, rfl, by omega, by rw [List.replicate_zero, List.append_nil]; exact ho2, hbq, hM2⟩
            case round =>
              clear ho2 hbq hM2 hq0 hq9 hcx
              obtain ⟨j, rfl, hj, ho3, hb3, hM3⟩ := hrel
              obtain ⟨wq, hwq⟩ : ∃ wq : World, wq = wr := ⟨_, rfl⟩
              rw [← hwq] at ho3 hb3 hM3 ⊢
              clear hwq
              have hq9 := hb3.cell 1 _ rfl
              by_cases hje : j < 3 + e
              · have hjei : (j : Int) < 3 + e := by omega
                go_wp2_with (at_builtin; refine wpList_append_own _ rfl _ _ 35 rfl (bf + 1) 5 i5 (.int .u8 0) 1 1 Ybad.underlying35 hi5 hz50 hz51 hz52 rfl (by decide) _ _ _ rfl (ho3.alloc _) ⟨wq.heap.size, 0, none⟩ 1 1 [Value.int .u8 x] rfl rfl ?a41 ?a42 ?a43 ?a44 ?a45 ?_)
                try (case a41 =>
                  intro j u' hj
                  match j, hj with
                  | 0, hj => simp at hj; subst hj; simp [Addr.add])
                try (case a42 => first | rfl | (intro u' hu'; simp at hu'; subst hu'; rfl))
                case a43 => unfold maxLen; omega
                case a44 => omega
                case a45 => first | exact Nat.le_trans (Nat.succ_le_of_lt hM3.lt) (World.grownBy_alloc _ _ none).size | (have := hM3.lt; omega)
                intro v1 w5 ho5 hg5 _
                have hM5 := (hM3.alloc _).kept hg5 (fun k hk => by have := (ho3.lt k hk).1; omega)
                have ho6 : w5.ownsRow (bf + 1) 5 1 v1 (t + 1 + (j + 1)) (e8 (Y ++ List.replicate (j + 1) x)) := by
                  rw [← Nat.add_assoc, show e8 (Y ++ List.replicate (j + 1) x) = List.map (Value.int .u8) Y ++ (List.replicate j (Value.int .u8 x) ++ [Value.int .u8 x]) by simp [List.replicate_succ']]; exact ho5
                have hb6 : At w5 bq 53 [.int .u8 ((16 : Nat) : Int), .int .u8 e] := by
                  refine ⟨?_⟩
                  rw [hg5.block bq (hb3.alloc _).lt (fun e' => owns_ne ho3 hb3 bq e'.symm rfl)]
                  exact (hb3.alloc _).at_
                clear ho5 hg5
                go_wp2
                go_roundw
                case rel => exact ⟨j + 1, by go_num, by omega, ho6, hb6, hM5⟩
                case measure => simp [intOf]; omega
              · have hjei : ¬ (j : Int) < 3 + e := by omega
                have ej : j = 3 + e := by omega
                go_wp2
                go_meet
                case rel => exact ⟨by rw [HSl0.out, List.length_append, List.length_replicate, ← HNY.out, ← ej]; exact ho3, hM3⟩
          have hpei : ¬ (p : Int) = 16 := by omega
          by_cases hpf : p = 17
          · subst hpf
            have he7 : e ≤ 7 := by have := HOk.out.z17 rfl; have : (e : Int) ≤ 7 := this; omega
            have he7i : ¬ (7 : Int) < e := by omega
            have HSl : Hid (ex (R.take (k + 1)) = Y ++ List.replicate (3 + e) 0) := by
              show _ = _; rw [HSe.out]; unfold exS; rw [if_neg (by show ¬ (17 : Int) < 16; omega), if_neg (by show ¬ (17 : Int) = 16; omega), if_pos (by show (17 : Int) = 17; rfl)]; simp
            have hln : Y.length + (3 + e) ≤ 316 := by have := HY1.out; rw [HSl.out, List.length_append, List.length_replicate] at this; exact this
            go_wp2_with fail
            go_loopw [11, 16] (fun ov jv wr => ∃ j : Nat, jv = .int .i64 j ∧ j ≤ 3 + e ∧ wr.ownsRow (bf + 1) 5 1 ov (Y.length + j) (e8 (Y ++ List.replicate j 0)) ∧ At wr bq 53 [.int .u8 ((17 : Nat) : Int), .int .u8 e] ∧ Me w s cb a d ca cd L D C cl cc gr cr lv R (cb + 1 + 1) bf wr (fq (R.take (k + 1)))) (fun _ jv _ => 3 + e - (intOf jv).toNat)
            case atStart => exact ⟨0, rfl, by omega, by rw [List.replicate_zero, List.append_nil]; exact ho2, hbq, hM2⟩
            case round =>
              clear ho2 hbq hM2 hq0 hq9
              obtain ⟨j, rfl, hj, ho3, hb3, hM3⟩ := hrel
              obtain ⟨wq, hwq⟩ : ∃ wq : World, wq = wr := ⟨_, rfl⟩
              rw [← hwq] at ho3 hb3 hM3 ⊢
              clear hwq
              have hq9 := hb3.cell 1 _ rfl
              by_cases hje : j < 3 + e
              · have hjei : (j : Int) < 3 + e := by omega
                go_wp2_with (at_builtin; refine wpList_append_own _ rfl _ _ 35 rfl (bf + 1) 5 i5 (.int .u8 0) 1 1 Ybad.underlying35 hi5 hz50 hz51 hz52 rfl (by decide) _ _ _ rfl (ho3.alloc _) ⟨wq.heap.size, 0, none⟩ 1 1 [Value.int .u8 0] rfl rfl ?a21 ?a22 ?a23 ?a24 ?a25 ?_)
                try (case a21 =>
                  intro j u' hj
                  match j, hj with
                  | 0, hj => simp at hj; subst hj; simp [Addr.add])
                try (case a22 => first | rfl | (intro u' hu'; simp at hu'; subst hu'; rfl))
                case a23 => unfold maxLen; omega
                case a24 => omega
                case a25 => first | exact Nat.le_trans (Nat.succ_le_of_lt hM3.lt) (World.grownBy_alloc _ _ none).size | (have := hM3.lt; omega)
                intro v1 w5 ho5 hg5 _
                have hM5 := (hM3.alloc _).kept hg5 (fun k hk => by have := (ho3.lt k hk).1; omega)
                have ho6 : w5.ownsRow (bf + 1) 5 1 v1 (Y.length + (j + 1)) (e8 (Y ++ List.replicate (j + 1) 0)) := by
                  rw [← Nat.add_assoc, show e8 (Y ++ List.replicate (j + 1) (0 : Int)) = List.map (Value.int .u8) Y ++ (List.replicate j (Value.int .u8 0) ++ [Value.int .u8 0]) by simp [List.replicate_succ']]; exact ho5
                have hb6 : At w5 bq 53 [.int .u8 ((17 : Nat) : Int), .int .u8 e] := by
                  refine ⟨?_⟩
                  rw [hg5.block bq (hb3.alloc _).lt (fun e' => owns_ne ho3 hb3 bq e'.symm rfl)]
                  exact (hb3.alloc _).at_
                clear ho5 hg5
                go_wp2
                go_roundw
                case rel => exact ⟨j + 1, by go_num, by omega, ho6, hb6, hM5⟩
                case measure => simp [intOf]; omega
              · have hjei : ¬ (j : Int) < 3 + e := by omega
                have ej : j = 3 + e := by omega
                go_wp2
                go_meet
                case rel => exact ⟨by rw [HSl.out, List.length_append, List.length_replicate, ← ej]; exact ho3, hM3⟩
          · have hpfi : ¬ (p : Int) = 17 := by omega
            have hpg : p = 18 := by omega
            subst hpg
            have he127i : ¬ (127 : Int) < e := by omega
            have HSl : Hid (ex (R.take (k + 1)) = Y ++ List.replicate (11 + e) 0) := by
              show _ = _; rw [HSe.out]; unfold exS; rw [if_neg (by show ¬ (18 : Int) < 16; omega), if_neg (by show ¬ (18 : Int) = 16; omega), if_neg (by show ¬ (18 : Int) = 17; omega)]; simp
            have hln : Y.length + (11 + e) ≤ 316 := by have := HY1.out; rw [HSl.out, List.length_append, List.length_replicate] at this; exact this
            go_wp2_with fail
            go_loopw [11, 17] (fun ov jv wr => ∃ j : Nat, jv = .int .i64 j ∧ j ≤ 11 + e ∧ wr.ownsRow (bf + 1) 5 1 ov (Y.length + j) (e8 (Y ++ List.replicate j 0)) ∧ At wr bq 53 [.int .u8 ((18 : Nat) : Int), .int .u8 e] ∧ Me w s cb a d ca cd L D C cl cc gr cr lv R (cb + 1 + 1) bf wr (fq (R.take (k + 1)))) (fun _ jv _ => 11 + e - (intOf jv).toNat)
            case atStart => exact ⟨0, rfl, by omega, by rw [List.replicate_zero, List.append_nil]; exact ho2, hbq, hM2⟩
            case round =>
              clear ho2 hbq hM2 hq0 hq9
              obtain ⟨j, rfl, hj, ho3, hb3, hM3⟩ := hrel
              obtain ⟨wq, hwq⟩ : ∃ wq : World, wq = wr := ⟨_, rfl⟩
              rw [← hwq] at ho3 hb3 hM3 ⊢
              clear hwq
              have hq9 := hb3.cell 1 _ rfl
              by_cases hje : j < 11 + e
              · have hjei : (j : Int) < 11 + e := by omega
                go_wp2_with (at_builtin; refine wpList_append_own _ rfl _ _ 35 rfl (bf + 1) 5 i5 (.int .u8 0) 1 1 Ybad.underlying35 hi5 hz50 hz51 hz52 rfl (by decide) _ _ _ rfl (ho3.alloc _) ⟨wq.heap.size, 0, none⟩ 1 1 [Value.int .u8 0] rfl rfl ?a31 ?a32 ?a33 ?a34 ?a35 ?_)
                try (case a31 =>
                  intro j u' hj
                  match j, hj with
                  | 0, hj => simp at hj; subst hj; simp [Addr.add])
                try (case a32 => first | rfl | (intro u' hu'; simp at hu'; subst hu'; rfl))
                case a33 => unfold maxLen; omega
                case a34 => omega
                case a35 => first | exact Nat.le_trans (Nat.succ_le_of_lt hM3.lt) (World.grownBy_alloc _ _ none).size | (have := hM3.lt; omega)
                intro v1 w5 ho5 hg5 _
                have hM5 := (hM3.alloc _).kept hg5 (fun k hk => by have := (ho3.lt k hk).1; omega)
                have ho6 : w5.ownsRow (bf + 1) 5 1 v1 (Y.length + (j + 1)) (e8 (Y ++ List.replicate (j + 1) 0)) := by
                  rw [← Nat.add_assoc, show e8 (Y ++ List.replicate (j + 1) (0 : Int)) = List.map (Value.int .u8) Y ++ (List.replicate j (Value.int .u8 0) ++ [Value.int .u8 0]) by simp [List.replicate_succ']]; exact ho5
                have hb6 : At w5 bq 53 [.int .u8 ((18 : Nat) : Int), .int .u8 e] := by
                  refine ⟨?_⟩
                  rw [hg5.block bq (hb3.alloc _).lt (fun e' => owns_ne ho3 hb3 bq e'.symm rfl)]
                  exact (hb3.alloc _).at_
                clear ho5 hg5
                go_wp2
                go_roundw
                case rel => exact ⟨j + 1, by go_num, by omega, ho6, hb6, hM5⟩
                case measure => simp [intOf]; omega
              · have hjei : ¬ (j : Int) < 11 + e := by omega
                have ej : j = 11 + e := by omega
                go_wp2
                go_meet
                case rel => exact ⟨by rw [HSl.out, List.length_append, List.length_replicate, ← ej]; exact ho3, hM3⟩
        case rest =>
        obtain ⟨ho7, hM7⟩ := hcut
        have hNp : 0 < (ex (R.take (k + 1))).length := by rw [HSe.out]; exact exS_pos _ _
        obtain ⟨go, co, hov⟩ := owns_shape ho7 hNp
        obtain ⟨N, hN⟩ : ∃ N, N = (ex (R.take (k + 1))).length := ⟨_, rfl⟩
        have hN6i : ¬ (316 : Int) < N := by have := HY1.out; omega
        rw [← hN] at hov ho7
        have HN : Hid (N = (ex (R.take (k + 1))).length) := hN
        clear hN hNp
        subst hov
        go_wp2
        go_roundw
        case rel =>
          exact ⟨k + 1, by go_num, by omega, by rw [← HN.out]; exact ho7, hM7⟩
        case measure => simp [intOf]; omega
      · have hlti : ¬ (k : Int) < R.length := by omega
        have e : k = R.length := by omega
        rw [e, List.take_length] at ho hM
        go_wp2
        go_meet
        case rel => exact ⟨ho, hM⟩
  case rest =>
  obtain ⟨ho, hM⟩ := hcut
  clear hM0 hc41 hsz5
  rw [HXl.out, HEx.out] at ho
  obtain ⟨go, co, hov⟩ := owns_shape ho (by omega)
  subst hov
  obtain ⟨w5, hw5⟩ : ∃ w5 : World, w5 = wc := ⟨_, rfl⟩
  rw [← hw5] at hM ho ⊢
  clear hw5
  have HcO : Hid (∀ i, i < L → w5.cell? ⟨go, i, none⟩ = some (.int .u8 (gt a i))) := fun i hi => by
    rw [ho.cellAt i (by omega)]
    exact e8_l a d L D i (by rw [hM.hC.la]; exact hL2) hi
  have HcP : Hid (∀ i, i < D → w5.cell? ⟨go, L + i, none⟩ = some (.int .u8 (gt d i))) := fun i hi => by
    rw [ho.cellAt (L + i) (by omega)]
    exact e8_r a d L D i (by rw [hM.hC.la]; exact hL2) (by rw [hM.hC.ld]; exact hD2) hi
  have HcA : Hid (∀ i, i < 286 → w5.cell? ⟨cb, i, none⟩ = some (.int .u8 (gt a i))) := fun i hi => Seg.cell0 hM.hC.segA i (by rw [hM.hC.la]; exact hi)
  have HcD : Hid (∀ i, i < 30 → w5.cell? ⟨cb, 286 + i, none⟩ = some (.int .u8 (gt d i))) := fun i hi => hM.hC.segD.cell 286 i (by rw [List.length_map]; exact hM.hC.la.symm) (by rw [hM.hC.ld]; exact hi)
  have HM : Hid (Me w s cb a d ca cd L D C cl cc gr cr lv R (cb + 1 + 1) bf w5 (fq R)) := hM
  have hc0 := hM.hH.c0
  have hc1 := hM.hH.c1
  obtain ⟨N, hN⟩ : ∃ N, N = L + D := ⟨_, rfl⟩
  rw [← hN]
  have hNi : (L : Int) + D = N := by omega
  clear hM ho hN
  go_upto_block 13 with fail
  go_cut [] from 197 to 219 (fun wx => ∃ n, w5.drewN n = wx)
  case first =>
    go_wp2_with fail
    go_loopw [18] (fun iv wr => ∃ i n : Nat, iv = .int .i64 i ∧ i ≤ L ∧ w5.drewN n = wr) (fun iv _ => L - (intOf iv).toNat)
    case atStart => exact ⟨0, 0, rfl, by omega, rfl⟩
    case round =>
      obtain ⟨i, n, rfl, hi, hw⟩ := hrel
      obtain ⟨wo, hwo⟩ : ∃ wo : World, wo = wr := ⟨_, rfl⟩
      rw [← hwo] at hw ⊢
      clear hwo hc0 hc1
      have hc0 : wo.cell? ⟨cb + 1, 0, none⟩ = some (.int .i64 L) := by rw [← hw]; exact HM.out.hH.c0
      by_cases hlt : i < L
      · have hlti : (i : Int) < L := by omega
        have hiN : (i : Int) < N := by omega
        have hi286 : (i : Int) < 286 := by omega
        have hcO : wo.cell? ⟨go, i, none⟩ = some (.int .u8 (gt a i)) := by rw [← hw]; exact HcO.out i hlt
        have hcA : wo.cell? ⟨cb, i, none⟩ = some (.int .u8 (gt a i)) := by rw [← hw]; exact HcA.out i (by omega)
        generalize gt a i = y at hcO hcA
        go_wp2_with fail
        go_quiet (fail)
        go_wp2
        go_roundw
        case rel => exact ⟨i + 1, n + nq, by go_num, by omega, by rw [← hw]; exact Ck.drewN_add _ _ _⟩
        case measure => simp [intOf]; omega
      · have hlti : ¬ (i : Int) < L := by omega
        go_wp2
        go_meet
        case rel => exact ⟨n, hw⟩
  case rest =>
  obtain ⟨n7, hw7⟩ := hcut
  obtain ⟨w6, hw6⟩ : ∃ w6 : World, w6 = wc := ⟨_, rfl⟩
  rw [← hw6] at hw7 ⊢
  clear hw6 hc0 hc1
  have hc0 : w6.cell? ⟨cb + 1, 0, none⟩ = some (.int .i64 L) := by rw [← hw7]; exact HM.out.hH.c0
  have hc1 : w6.cell? ⟨cb + 1, 1, none⟩ = some (.int .i64 D) := by rw [← hw7]; exact HM.out.hH.c1
  go_upto_block 15 with fail
  go_cut [] from 220 to 237 (fun wx => ∃ n, w5.drewN n = wx)
  case first =>
    go_wp2_with fail
    go_loopw [19] (fun iv wr => ∃ i n : Nat, iv = .int .i64 i ∧ i ≤ D ∧ w5.drewN n = wr) (fun iv _ => D - (intOf iv).toNat)
    case atStart => exact ⟨0, n7, rfl, by omega, hw7⟩
    case round =>
      obtain ⟨i, n, rfl, hi, hw⟩ := hrel
      obtain ⟨wo, hwo⟩ : ∃ wo : World, wo = wr := ⟨_, rfl⟩
      rw [← hwo] at hw ⊢
      clear hwo hc0 hc1
      have hc0 : wo.cell? ⟨cb + 1, 0, none⟩ = some (.int .i64 L) := by rw [← hw]; exact HM.out.hH.c0
      have hc1 : wo.cell? ⟨cb + 1, 1, none⟩ = some (.int .i64 D) := by rw [← hw]; exact HM.out.hH.c1
      by_cases hlt : i < D
      · have hlti : (i : Int) < D := by omega
        have hi30 : (i : Int) < 30 := by omega
        obtain ⟨u, hu⟩ : ∃ u, u = L + i := ⟨_, rfl⟩
        have hui : (L : Int) + i = u := by omega
        have huN : (u : Int) < N := by omega
        have hcO : wo.cell? ⟨go, u, none⟩ = some (.int .u8 (gt d i)) := by rw [← hw, hu]; exact HcP.out i hlt
        have hcA : wo.cell? ⟨cb, 286 + i, none⟩ = some (.int .u8 (gt d i)) := by rw [← hw]; exact HcD.out i (by omega)
        generalize gt d i = y at hcO hcA
        clear hu
        go_wp2_with fail
        go_quiet (fail)
        go_wp2
        go_roundw
        case rel => exact ⟨i + 1, n + nq, by go_num, by omega, by rw [← hw]; exact Ck.drewN_add _ _ _⟩
        case measure => simp [intOf]; omega
      · have hlti : ¬ (i : Int) < D := by omega
        go_wp2
        go_meet
        case rel => exact ⟨n, hw⟩
  case rest =>
  obtain ⟨n8, hw8⟩ := hcut
  obtain ⟨w7, hw9⟩ : ∃ w7 : World, w7 = wc := ⟨_, rfl⟩
  rw [← hw9] at hw8 ⊢
  clear hw9 hc0 hc1 hw7 HcO HcP HcA HcD
  have hM7 : Me w s cb a d ca cd L D C cl cc gr cr lv R (cb + 1 + 1) bf w7 (fq R) := by rw [← hw8]; exact HM.out.drewN n8
  have hq : ∀ n, Calls Ybad.prog 8 #[.slice (some ⟨bf, 0, none⟩) 19 19, .slice (some ⟨cb + 1, 3, none⟩) 19 19, .int .i64 7] (w7.drewN n) fun e w' => e = .returned (.bool true) ∧ w' = w7.drewN n := fun n =>
    complete bf 0 19 19 (cb + 1) 3 19 7 (fq R) cl (w7.drewN n) (by omega) (by omega) (by omega) (fun t ht => by have := Seg.cell0 hM7.hF t (by rw [fq_len]; exact ht); rw [Nat.zero_add]; exact this) (fun t ht => by have := fq_bd R R.length (Nat.le_refl _) t ht; rw [List.take_length] at this; omega) (fun t ht => hM7.hH.ccl t ht) HDs.out.hf
  have Q8 : Hid _ := hq
  clear hq HM hw8
  go_upto_region 71 with fail
  go_cut [242] from 238 to 242 (fun v wx => v = .bool false ∧ ∃ n, w7.drewN n = wx)
  case first =>
    go_region_with (go_at_call 8; refine (Q8.out _).mono ?_; rintro e w' ⟨rfl, rfl⟩)
    all_goals
      go_wp2_with fail
      go_meet
      case rel => exact ⟨by first | rfl | simp, 1, rfl⟩
  case rest =>
  obtain ⟨rfl, n9, hw9⟩ := hcut
  obtain ⟨w8, hw8⟩ : ∃ w8 : World, w8 = wc := ⟨_, rfl⟩
  rw [← hw8] at hw9 ⊢
  have hM8 : Me w s cb a d ca cd L D C cl cc gr cr lv R (cb + 1 + 1) bf w8 (fq R) := by rw [← hw9]; exact hM7.drewN n9
  clear hw8 hw9 hM7 Q8
  have hc2 := hM8.hH.c2
  have hC1i : ¬ (C : Int) < 4 := by have := HDs.out.c1; omega
  have hC2i : ¬ (19 : Int) < C := by have := HDs.out.c2; omega
  go_upto_region 73 with fail
  go_step
  refine wpList_order rfl rfl rfl rfl rfl rfl rfl rfl rfl rfl ?_
  intro cs9 hcs9
  have hM9 := hM8.alloc (.cells cs9 32)
  have hS9 : Seg (w8.alloc (.cells cs9 32)) w8.heap.size 32 .u8 [] ordL [] := ⟨by rw [hcs9]; exact heap_alloc_new w8 _⟩
  clear hcs9
  generalize w8.alloc (.cells cs9 32) = w9 at *
  obtain ⟨b9, hb9⟩ : ∃ b9, b9 = w8.heap.size := ⟨_, rfl⟩
  rw [← hb9] at hS9 ⊢
  clear hM8 hc2 hb9
  have hc2 := hM9.hH.c2
  have HS9 : Hid (∀ i, i < 19 → w9.cell? ⟨b9, i, none⟩ = some (.int .u8 (gt ordL i))) := fun i hi => Seg.cell0 hS9 i hi
  have HL9 : Hid (∀ i, i < 19 → w9.cell? ⟨cb + 1, 3 + i, none⟩ = some (.int .u8 (gt cl i))) := fun i hi => hM9.hH.ccl i hi
  have HB9 : Hid (Below s w w9) := hM9.hB
  clear hS9 hM9
  go_wp2_with fail
  go_loopw [21] (fun iv wr => ∃ i : Nat, iv = .int .i64 i ∧ C ≤ i ∧ i ≤ 19 ∧ w9 = wr) (fun iv _ => 19 - (intOf iv).toNat)
  case atStart => exact ⟨C, rfl, by omega, by omega, rfl⟩
  case round =>
    obtain ⟨i, rfl, hi1, hi2, rfl⟩ := hrel
    by_cases hlt : i < 19
    · have hlti : (i : Int) < 19 := by omega
      have hob := ordL_bd i hlt
      obtain ⟨p, hp⟩ : ∃ p : Nat, gt ordL i = p := ⟨(gt ordL i).toNat, by omega⟩
      have hco := HS9.out i hlt
      rw [hp] at hco hob
      have hp19 : p < 19 := by omega
      have hp19i : (p : Int) < 19 := by omega
      have hcl := HL9.out p hp19
      have hz := HDs.out.c3 i hi1 hlt
      rw [hp, Int.toNat_natCast] at hz
      rw [hz] at hcl
      clear hp hob hz
      go_wp2
      go_roundw
      case rel => exact ⟨i + 1, by go_num, by omega, by omega, by first | trivial | rfl⟩
      case measure => simp [intOf]; omega
    · have hlti : ¬ (i : Int) < 19 := by omega
      go_wp2
      go_ret
      exact ⟨rfl, by rw [← HS.out]; exact HB9.out⟩
end Go.Proofs.YbulkkrgDoor.La
