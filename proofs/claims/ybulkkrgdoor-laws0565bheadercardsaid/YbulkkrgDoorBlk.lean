/-
  The walk of 'fitBlock' (7).
-/
import Derived.Test.YbulkkrgDoorDescribe
import Derived.Test.YbulkkrgDoorSums
import Derived.Below
namespace Go.Proofs.YbulkkrgDoor.Bl
open Go.RowKit Go.Proofs.YbulkkrgDoor.Srt Go.Proofs.YbulkkrgDoor.Mm Go.Proofs.YbulkkrgDoor.Hu Go.Proofs.YbulkkrgDoor.Co Go.Proofs.YbulkkrgDoor.Fb Go.Proofs.YbulkkrgDoor.De Go.Proofs.YbulkkrgDoor.Sm
set_option linter.unusedVariables false

/-- the tables -/
structure Tb (w : World) : Prop where
  t0 : ∀ j, j < 19 → w.cell? ⟨0, j, none⟩ = some (.int .u8 (gt ordL j))
  t1 : ∀ j, j < 19 → w.cell? ⟨1, j, none⟩ = some (.int .u8 (gt clX j))
  t2 : ∀ j, j < 29 → w.cell? ⟨2, j, none⟩ = some (.int .u8 (gt lX j))
  t3 : ∀ j, j < 30 → w.cell? ⟨3, j, none⟩ = some (.int .u8 (gt dX j))
theorem keep_cell {w w' : World} {r : Option Nat} (hg : w.grownBy w' r) {p : Addr} {v : Value} (hc : w.cell? p = some v) (hp : some p.block ≠ r) : w'.cell? p = some v := by
  have hb := World.block_lt_of_cell? _ _ hc
  have := hg.block p.block hb hp
  unfold World.cell? at hc ⊢
  rw [this]; exact hc
theorem Tb.kept {w w' : World} {r : Option Nat} (h : Tb w) (hg : w.grownBy w' r) (hr : ∀ k, r = some k → 4 ≤ k) : Tb w' := by
  have ne : ∀ k, k < 4 → some k ≠ r := fun k hk e => by have := hr k e.symm; omega
  exact ⟨fun j hj => keep_cell hg (h.t0 j hj) (ne 0 (by omega)), fun j hj => keep_cell hg (h.t1 j hj) (ne 1 (by omega)), fun j hj => keep_cell hg (h.t2 j hj) (ne 2 (by omega)), fun j hj => keep_cell hg (h.t3 j hj) (ne 3 (by omega))⟩
theorem Tb.below {B : Nat} {w w' : World} (h : Tb w) (hb : Below B w w') (hB : 4 ≤ B) : Tb w' :=
  ⟨fun j hj => by rw [hb.cell (show 0 < B by omega)]; exact h.t0 j hj, fun j hj => by rw [hb.cell (show 1 < B by omega)]; exact h.t1 j hj, fun j hj => by rw [hb.cell (show 2 < B by omega)]; exact h.t2 j hj, fun j hj => by rw [hb.cell (show 3 < B by omega)]; exact h.t3 j hj⟩
theorem Cn.kept' {w w' : World} {nb : Nat} {r : Option Nat} {Fl Fd : List Int} (h : Cn w nb Fl Fd) (hg : w.grownBy w' r) (hr : some nb ≠ r) : Cn w' nb Fl Fd :=
  ⟨fun s hs => keep_cell hg (h.cl s hs) hr, fun s hs => keep_cell hg (h.cd s hs) hr⟩
theorem Cb.kept' {w w' : World} {cb : Nat} {r : Option Nat} {a d ca cd : List Int} (h : Cb w cb a d ca cd) (hg : w.grownBy w' r) (hr : some cb ≠ r) : Cb w' cb a d ca cd := ⟨by rw [hg.block cb h.lt hr]; exact h.at_, h.la, h.ld, h.lca, h.lcd⟩
theorem owns_kept' {w w' : World} {B : Nat} {e : TypeId} {k : Nat} {v : Value} {n : Nat} {xs : List Value} (h : w.ownsRow B e k v n xs) (hg : w.grownBy w' none) : w'.ownsRow B e k v n xs := by
  refine ⟨h.1, ?_⟩
  rcases h.2 with h' | ⟨g, cap, cur, h1, h2, h3, h4⟩
  · exact .inl h'
  · exact .inr ⟨g, cap, cur, h1, h2, by rw [hg.block g (Array.getElem?_eq_some_iff.1 h3).1 (by simp)]; exact h3, h4⟩

theorem db1_bd {F a : List Int} (hF : Bd32 F 286) (ha : ∀ j, j < 286 → 0 ≤ gt a j ∧ gt a j ≤ 15) : ∀ k, k ≤ 286 → 0 ≤ db1 F a k ∧ db1 F a k ≤ 4294967296 * 20 * k
  | 0, _ => by unfold db1; omega
  | k + 1, hk => by
    have ih := db1_bd hF ha k (by omega)
    have bf := hF k (by omega)
    have ba := ha k (by omega)
    have m1 := mul_bd (gt F k) (gt a k) 15 bf.1 bf.2 ba.1 ba.2
    rw [db1]
    by_cases h : 257 ≤ k
    · rw [if_pos h]
      have bx := lX_bd (k - 257) (by omega)
      have m2 := mul_bd (gt F k) (gt lX (k - 257)) 5 bf.1 bf.2 bx.1 bx.2
      generalize gt F k * gt a k = P at *
      generalize gt F k * gt lX (k - 257) = Q at *
      omega
    · rw [if_neg h]
      generalize gt F k * gt a k = P at *
      omega
theorem db2_bd {F d : List Int} (hF : Bd32 F 30) (hd : ∀ j, j < 30 → 0 ≤ gt d j ∧ gt d j ≤ 15) : ∀ k, k ≤ 30 → 0 ≤ db2 F d k ∧ db2 F d k ≤ 4294967296 * 28 * k
  | 0, _ => by unfold db2; omega
  | k + 1, hk => by
    have ih := db2_bd hF hd k (by omega)
    have bf := hF k (by omega)
    have ba := hd k (by omega)
    have bx := dX_bd k (by omega)
    have m1 := mul_bd (gt F k) (gt d k + gt dX k) 28 bf.1 bf.2 (by omega) (by omega)
    rw [db2]
    generalize gt F k * (gt d k + gt dX k) = P at *
    omega

/-- what 'fitBlock' leaves -/
structure Fk (w' : World) (cb hb nb s : Nat) (Fl Fd a d ca cd : List Int) (L D C : Nat) (R : List (Int × Int)) (cl cc : List Int) (rv lv : Value) : Prop where
  hC : Cb w' cb a d ca cd
  ft : Ft Fl Fd a d ca cd
  hH : Hb w' hb L D C cl cc rv lv
  hR : w'.ownsRow s 53 2 rv R.length (rc R)
  dd : Dd a d L D C R cl
  cn : Cn w' nb Fl Fd
  tb : Tb w'

theorem Dd.pos {a d : List Int} {L D C : Nat} {R : List (Int × Int)} {cl : List Int} (h : Dd a d L D C R cl) (la : a.length = 286) (ld : d.length = 30) : 0 < R.length ∧ R.length ≤ 316 := by
  have h1 := h.hr.len
  have h2 := h.hr.eq
  have l1 := h.hl.lo
  have l2 := h.hl.hi
  have l3 := h.hd.hi
  have hlen : (a.take L ++ d.take D).length = L + D := by rw [List.length_append, List.length_take, List.length_take, la, ld]; omega
  constructor
  · cases R with
    | nil => rw [show ex [] = [] from rfl] at h2; rw [← h2] at hlen; simp at hlen; omega
    | cons r R => simp
  · omega

set_option maxHeartbeats 1600000 in
set_option maxRecDepth 100000 in
theorem fitBlock (cb hb nb : Nat) (Fl Fd a0 d0 ca0 cd0 cl0 cc0 : List Int) (L0 D0 C0 : Int) (w : World) (hC : Cb w cb a0 d0 ca0 cd0) (hH : Hb w hb L0 D0 C0 cl0 cc0 (.slice none 0 0) (.slice none 0 0)) (hn : Cn w nb Fl Fd) (hl : Bd32 Fl 286) (hd : Bd32 Fd 30) (h1 : nb ≠ cb) (h2 : hb ≠ cb) (h3 : nb ≠ hb) (hT : Tb w) (c4 : 4 ≤ cb) (b4 : 4 ≤ hb) :
    Calls Ybad.prog 7 #[.pointer (some ⟨cb, 0, none⟩), .pointer (some ⟨hb, 0, none⟩), .pointer (some ⟨nb, 0, none⟩)] w fun e w' => ∃ (a d ca cd : List Int) (L D C : Nat) (R : List (Int × Int)) (cl cc : List Int) (rv lv : Value),
      e = .returned (.int .i64 (17 + 3 * C + rb cl R R.length + (db1 Fl a 286 + db2 Fd d 30))) ∧ Fk w' cb hb nb w.heap.size Fl Fd a d ca cd L D C R cl cc rv lv ∧ (∀ B, B ≤ cb → B ≤ hb → B ≤ w.heap.size → Below B w w') := by
  have HL : Hid (Bd32 Fl 286) := hl
  have HD : Hid (Bd32 Fd 30) := hd
  clear hl hd
  go_enter Ybad.func7, Ybad.ntmps7
  go_wp2_with fail
  refine (fit cb nb Fl Fd a0 d0 ca0 cd0 w hC hn HL.out HD.out h1).mono ?_
  rintro e w1 ⟨rfl, ⟨a, d, ca, cd, hC1, hF⟩, hg1⟩
  have hH1 := hH.kept hg1 (by simpa using h2)
  have hn1 := hn.kept hg1 h1
  have hT1 := hT.kept hg1 (fun k hk => by have := Option.some.inj hk; omega)
  have hA : ∀ j, j < 286 → 0 ≤ gt a j ∧ gt a j ≤ 15 := fun j hj => by have := Hf.bd15 hF.ha j hj; omega
  have hDd : ∀ j, j < 30 → 0 ≤ gt d j ∧ gt d j ≤ 15 := fun j hj => by have := Hf.bd15 hF.hd j hj; omega
  have HA : Hid (∀ j, j < 286 → 0 ≤ gt a j ∧ gt a j ≤ 15) := hA
  have HDd : Hid (∀ j, j < 30 → 0 ≤ gt d j ∧ gt d j ≤ 15) := hDd
  have HF : Hid (Ft Fl Fd a d ca cd) := hF
  clear hC hH hn hT hA hDd hF
  go_wp2_with fail
  refine (describe hb cb a d ca cd cl0 cc0 L0 D0 C0 w1 hC1 hH1 h2 HA.out HDd.out hT1.t0 (by omega)).mono ?_
  rintro e w2 ⟨rfl, ⟨L, D, C, R, cl, cc, rv, lv, hH2, hC2, hR2, hDs⟩, hg2⟩
  have HDs : Hid (Dd a d L D C R cl) := hDs
  have hn2 := hn1.kept hg2 h3
  have hT2 := hT1.kept hg2 (fun k hk => by have := Option.some.inj hk; omega)
  obtain ⟨hp0, hp1⟩ := Dd.pos hDs hC2.la hC2.ld
  have hcl : ∀ j, j < 19 → 0 ≤ gt cl j ∧ gt cl j ≤ 15 := fun j hj => by have := Hf.bd15 hDs.hf j hj; omega
  have HCl : Hid (∀ j, j < 19 → 0 ≤ gt cl j ∧ gt cl j ≤ 15) := hcl
  have hC19 := hDs.c2
  clear hC1 hH1 hn1 hT1 hDs hcl
  go_wp2_with fail
  refine (Sm.bits hb w1.heap.size L D C cl cc rv lv R _ w2 hH2 hR2 hC19 HCl.out HDs.out.hr hp1 hp0 hT2.t1).mono ?_
  rintro e w3 ⟨rfl, hg3⟩
  have hC3 := Cb.kept' hC2 hg3 (by simp)
  have hH3 := hH2.kept hg3 (by simp)
  have hn3 := Cn.kept' hn2 hg3 (by simp)
  have hT3 := hT2.kept hg3 (fun k hk => by cases hk)
  have hR3 := owns_kept' hR2 hg3
  have hb1 := rb_bd cl R HCl.out (fun k hk => ⟨(HDs.out.hr.bd k hk).1, (HDs.out.hr.bd k hk).2.1⟩) R.length (Nat.le_refl _)
  have hb2 := db1_bd HL.out HA.out 286 (Nat.le_refl _)
  have hb3 := db2_bd HD.out HDd.out 30 (Nat.le_refl _)
  obtain ⟨x1, hx1⟩ : ∃ x1, x1 = 17 + 3 * (C : Int) + rb cl R R.length := ⟨_, rfl⟩
  have HX1 : Hid (x1 = 17 + 3 * (C : Int) + rb cl R R.length) := hx1
  have hx1b : 0 ≤ x1 ∧ x1 ≤ 100000 := by omega
  rw [← hx1]
  obtain ⟨x2, hx2⟩ : ∃ x2, x2 = db1 Fl a 286 + db2 Fd d 30 := ⟨_, rfl⟩
  have HX2 : Hid (x2 = db1 Fl a 286 + db2 Fd d 30) := hx2
  have hx2b : 0 ≤ x2 ∧ x2 ≤ 4294967296 * 20 * 286 + 4294967296 * 28 * 30 := by omega
  clear hx1 hC2 hH2 hn2 hT2 hR2 hb1 hb2 hb3 hx2
  go_wp2_with fail
  refine (Sm.dataBits cb nb Fl Fd a d ca cd w3 hC3 hn3 HL.out HD.out HA.out HDd.out hT3.t2 hT3.t3).mono ?_
  rintro e w4 ⟨rfl, k, rfl⟩
  rw [← HX2.out]
  obtain ⟨x10, x11⟩ := hx1b
  obtain ⟨x20, x21⟩ := hx2b
  go_wp2
  go_ret
  refine ⟨a, d, ca, cd, L, D, C, R, cl, cc, rv, lv, by rw [← HX1.out, ← HX2.out]; rfl, ⟨hC3.drewN k, HF.out, hH3.drewN k, owns_mono hR3 hg1.size, HDs.out, hn3.drewN k, ⟨hT3.t0, hT3.t1, hT3.t2, hT3.t3⟩⟩, fun B hB1 hB2 hB3 => ?_⟩
  have z1 := (Below.refl B w).grown hg1 hB3 (fun k hk => by have := Option.some.inj hk; omega)
  have s1 := hg1.size
  have z2 := z1.grown hg2 (by omega) (fun k hk => by have := Option.some.inj hk; omega)
  have s2 := hg2.size
  have z3 := z2.grown hg3 (by omega) (fun k hk => by cases hk)
  exact ⟨z3.os, z3.tape, z3.output, z3.size, z3.block⟩
end Go.Proofs.YbulkkrgDoor.Bl
