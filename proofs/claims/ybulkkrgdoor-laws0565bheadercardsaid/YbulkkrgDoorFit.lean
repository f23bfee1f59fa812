/-
  The block's code in memory; the walk of 'fit' (10).
-/
import Derived.Test.YbulkkrgDoorHuWalk
import Derived.Test.YbulkkrgDoorCodes
namespace Go.Proofs.YbulkkrgDoor.Fb
open Go.RowKit Go.Proofs.YbulkkrgDoor.Srt Go.Proofs.YbulkkrgDoor.Mm Go.Proofs.YbulkkrgDoor.Hu Go.Proofs.YbulkkrgDoor.Co
set_option linter.unusedVariables false

abbrev e8 (l : List Int) : List Value := l.map (Value.int .u8)
abbrev e16 (l : List Int) : List Value := l.map (Value.int .u16)

/-- the block's code in memory -/
structure Cb (w : World) (cb : Nat) (a d ca cd : List Int) : Prop where
  at_ : w.heap[cb]? = some (.cells (e8 a ++ (e8 d ++ (e16 ca ++ e16 cd))).toArray 31 (0, 0))
  la : a.length = 286
  ld : d.length = 30
  lca : ca.length = 286
  lcd : cd.length = 30

theorem Cb.segA {w : World} {cb : Nat} {a d ca cd : List Int} (h : Cb w cb a d ca cd) : Seg w cb 31 .u8 [] a (e8 d ++ (e16 ca ++ e16 cd)) := ⟨h.at_⟩
theorem Cb.segD {w : World} {cb : Nat} {a d ca cd : List Int} (h : Cb w cb a d ca cd) : Seg w cb 31 .u8 (e8 a) d (e16 ca ++ e16 cd) := ⟨h.at_⟩
theorem Cb.segC {w : World} {cb : Nat} {a d ca cd : List Int} (h : Cb w cb a d ca cd) : Seg w cb 31 .u16 (e8 a ++ e8 d) ca (e16 cd) := ⟨by rw [List.append_assoc]; exact h.at_⟩
theorem Cb.segE {w : World} {cb : Nat} {a d ca cd : List Int} (h : Cb w cb a d ca cd) : Seg w cb 31 .u16 (e8 a ++ (e8 d ++ e16 ca)) cd [] := ⟨by
  rw [List.append_assoc, List.append_assoc, List.append_nil]; exact h.at_⟩
theorem Cb.ofA {w : World} {cb : Nat} {a d ca cd : List Int} (h : Seg w cb 31 .u8 [] a (e8 d ++ (e16 ca ++ e16 cd))) (la : a.length = 286) (ld : d.length = 30) (lca : ca.length = 286) (lcd : cd.length = 30) : Cb w cb a d ca cd := ⟨h.at_, la, ld, lca, lcd⟩
theorem Cb.ofD {w : World} {cb : Nat} {a d ca cd : List Int} (h : Seg w cb 31 .u8 (e8 a) d (e16 ca ++ e16 cd)) (la : a.length = 286) (ld : d.length = 30) (lca : ca.length = 286) (lcd : cd.length = 30) : Cb w cb a d ca cd := ⟨h.at_, la, ld, lca, lcd⟩
theorem Cb.ofC {w : World} {cb : Nat} {a d ca cd : List Int} (h : Seg w cb 31 .u16 (e8 a ++ e8 d) ca (e16 cd)) (la : a.length = 286) (ld : d.length = 30) (lca : ca.length = 286) (lcd : cd.length = 30) : Cb w cb a d ca cd := ⟨by have := h.at_; rw [List.append_assoc] at this; exact this, la, ld, lca, lcd⟩
theorem Cb.ofE {w : World} {cb : Nat} {a d ca cd : List Int} (h : Seg w cb 31 .u16 (e8 a ++ (e8 d ++ e16 ca)) cd []) (la : a.length = 286) (ld : d.length = 30) (lca : ca.length = 286) (lcd : cd.length = 30) : Cb w cb a d ca cd := ⟨by have := h.at_; rw [List.append_assoc, List.append_assoc, List.append_nil] at this; exact this, la, ld, lca, lcd⟩
theorem Cb.lt {w : World} {cb : Nat} {a d ca cd : List Int} (h : Cb w cb a d ca cd) : cb < w.heap.size := h.segA.lt
theorem Cb.kept {w w' : World} {cb r : Nat} {a d ca cd : List Int} (h : Cb w cb a d ca cd) (hg : w.grownBy w' (some r)) (hr : cb ≠ r) : Cb w' cb a d ca cd := ⟨(h.segA.kept hg hr).at_, h.la, h.ld, h.lca, h.lcd⟩
theorem Cb.drewN {w : World} {cb : Nat} {a d ca cd : List Int} (h : Cb w cb a d ca cd) (n : Nat) : Cb (w.drewN n) cb a d ca cd := ⟨h.at_, h.la, h.ld, h.lca, h.lcd⟩

theorem e8_get (l : List Int) (j : Nat) (hj : j < l.length) : (e8 l)[j]? = some (.int .u8 (gt l j)) := by
  rw [List.getElem?_map, gt_get l j hj]; rfl

/-- the counts -/
structure Cn (w : World) (nb : Nat) (Fl Fd : List Int) : Prop where
  cl : ∀ s, s < 286 → w.cell? ⟨nb, 0 + s, none⟩ = some (.int .u32 (gt Fl s))
  cd : ∀ s, s < 30 → w.cell? ⟨nb, 286 + s, none⟩ = some (.int .u32 (gt Fd s))
theorem Cn.lt {w : World} {nb : Nat} {Fl Fd : List Int} (h : Cn w nb Fl Fd) : nb < w.heap.size := World.block_lt_of_cell? _ _ (h.cl 0 (by omega))
theorem Cn.kept {w w' : World} {nb r : Nat} {Fl Fd : List Int} (h : Cn w nb Fl Fd) (hg : w.grownBy w' (some r)) (hr : nb ≠ r) : Cn w' nb Fl Fd :=
  ⟨fun s hs => grown_cell hg (h.cl s hs) hr, fun s hs => grown_cell hg (h.cd s hs) hr⟩
theorem Cn.drewN {w : World} {nb : Nat} {Fl Fd : List Int} (h : Cn w nb Fl Fd) (n : Nat) : Cn (w.drewN n) nb Fl Fd := ⟨h.cl, h.cd⟩
def Bd32 (F : List Int) (N : Nat) : Prop := ∀ s, s < N → 0 ≤ gt F s ∧ gt F s < 4294967296

theorem Hf.bd15 {N lim : Nat} {F l : List Int} (h : Hf N lim F l) (j : Nat) (hj : j < N) : 0 ≤ gt l j ∧ gt l j ≤ lim := by
  by_cases e : gt F j = 0
  · rw [h.off j hj e]; omega
  · have := h.bd j hj e; omega

/-- the fitted code -/
structure Ft (Fl Fd a d ca cd : List Int) : Prop where
  ha : Hf 286 15 Fl a
  hd : Hf 30 15 Fd d
  hca : Cd 286 a ca 286
  hcd : Cd 30 d cd 30

set_option maxHeartbeats 1600000 in
set_option maxRecDepth 100000 in
theorem fit (cb nb : Nat) (Fl Fd a d ca cd : List Int) (w : World) (hC : Cb w cb a d ca cd) (hn : Cn w nb Fl Fd) (hl : Bd32 Fl 286) (hd : Bd32 Fd 30) (hne : nb ≠ cb) :
    Calls Ybad.prog 10 #[.pointer (some ⟨cb, 0, none⟩), .pointer (some ⟨nb, 0, none⟩)] w fun e w' => e = .returned (.tuple #[]) ∧ (∃ a d ca cd, Cb w' cb a d ca cd ∧ Ft Fl Fd a d ca cd) ∧ w.grownBy w' (some cb) := by
  have HL : Hid (Bd32 Fl 286) := hl
  have HD : Hid (Bd32 Fd 30) := hd
  clear hl hd
  go_enter Ybad.func10, Ybad.ntmps10
  go_upto_region 0 with fail
  go_cut [] from 4 to 12 (fun wx => ∃ a, Cb wx cb a d ca cd ∧ Hf 286 15 Fl a ∧ Cn wx nb Fl Fd ∧ w.grownBy wx (some cb))
  case first =>
    go_region_with (go_at_call 14; refine (lengths nb 0 286 286 cb 0 286 15 31 [] (e8 d ++ (e16 ca ++ e16 cd)) a Fl _ (by omega) (by omega) (by omega) (by omega) (by omega) (by omega) (by omega) HL.out (hn.drewN _).cl (hC.drewN _).segA rfl hC.la hne).mono ?_; rintro e w' ⟨rfl, ⟨l', hS', hH'⟩, hg'⟩)
    all_goals
      go_wp2_with fail
      go_meet
      case rel => exact ⟨l', Cb.ofA hS' hH'.len hC.ld hC.lca hC.lcd, hH', (hn.drewN _).kept hg' hne, grown_own (grown_drewN (World.grownBy.refl w (some cb)) _) hg' (fun k hk => .inr (Option.some.inj hk).symm)⟩
  case rest =>
  obtain ⟨a1, hC1, hA1, hn1, hg1⟩ := hcut
  have HA1 : Hid (Hf 286 15 Fl a1) := hA1
  clear hA1 hC hn
  go_upto_region 1 with fail
  go_cut [] from 13 to 21 (fun wx => ∃ d, Cb wx cb a1 d ca cd ∧ Hf 30 15 Fd d ∧ w.grownBy wx (some cb))
  case first =>
    have hlo : 286 = (e8 a1).length := by rw [List.length_map]; exact hC1.la.symm
    have hcall := fun n : Nat => lengths nb 286 30 30 cb 286 30 15 31 (e8 a1) (e16 ca ++ e16 cd) d Fd (wc.drewN n) (by omega) (by omega) (by omega) (by omega) (by omega) (by omega) (by omega) HD.out (hn1.drewN n).cd (hC1.drewN n).segD hlo hC1.ld hne
    clear hlo
    go_region_with (go_at_call 14; refine (hcall _).mono ?_; rintro e w' ⟨rfl, ⟨l', hS', hH'⟩, hg'⟩)
    all_goals
      go_wp2_with fail
      go_meet
      case rel => exact ⟨l', Cb.ofD hS' hC1.la hH'.len hC1.lca hC1.lcd, hH', grown_own (grown_drewN hg1 _) hg' (fun k hk => .inr (Option.some.inj hk).symm)⟩
  case rest =>
  obtain ⟨d1, hC2, hD1, hg2⟩ := hcut
  have HD1 : Hid (Hf 30 15 Fd d1) := hD1
  clear hD1 hC1 hn1 hg1
  go_upto_region 2 with fail
  go_cut [] from 22 to 30 (fun wx => ∃ c, Cb wx cb a1 d1 c cd ∧ Cd 286 a1 c 286 ∧ w.grownBy wx (some cb))
  case first =>
    have hpre : ∀ j, j < 286 → (e8 a1 ++ e8 d1)[0 + j]? = some (.int .u8 (gt a1 j)) := fun j hj => by
      rw [Nat.zero_add, List.getElem?_append_left (by simp [hC2.la]; omega)]; exact e8_get a1 j (by rw [hC2.la]; omega)
    have HPre : Hid (∀ j, j < 286 → (e8 a1 ++ e8 d1)[0 + j]? = some (.int .u8 (gt a1 j))) := hpre
    clear hpre
    go_region_with (go_at_call 15; refine (codes cb 0 316 286 286 286 31 (e8 a1 ++ e8 d1) (e16 cd) a1 ca _ (by omega) HPre.out (fun j hj => by have := Hf.bd15 HA1.out j hj; omega) (hC2.drewN _).segC (by simp [hC2.la, hC2.ld]) hC2.lca).mono ?_; rintro e w' ⟨rfl, ⟨c', hS', hH'⟩, hg'⟩)
    all_goals
      go_wp2_with fail
      go_meet
      case rel => exact ⟨c', Cb.ofC hS' hC2.la hC2.ld hH'.len hC2.lcd, hH', grown_own (grown_drewN hg2 _) hg' (fun k hk => .inr (Option.some.inj hk).symm)⟩
  case rest =>
  obtain ⟨ca1, hC3, hCa1, hg3⟩ := hcut
  have HCa1 : Hid (Cd 286 a1 ca1 286) := hCa1
  clear hCa1 hC2 hg2
  have HPre : Hid (∀ j, j < 30 → (e8 a1 ++ (e8 d1 ++ e16 ca1))[286 + j]? = some (.int .u8 (gt d1 j))) := fun j hj => by
    rw [List.getElem?_append_right (by simp [hC3.la]), List.getElem?_append_left (by simp [hC3.la, hC3.ld]; omega)]
    simp only [e8, List.length_map, hC3.la, Nat.add_sub_cancel_left]
    exact e8_get d1 j (by rw [hC3.ld]; omega)
  go_upto_region 3 with fail
  go_region_with (go_at_call 15; refine (codes cb 286 602 30 30 30 31 (e8 a1 ++ (e8 d1 ++ e16 ca1)) [] d1 cd _ (by omega) HPre.out (fun j hj => by have := Hf.bd15 HD1.out j hj; omega) (hC3.drewN _).segE (by simp [hC3.la, hC3.ld, hC3.lca]) hC3.lcd).mono ?_; rintro e w' ⟨rfl, ⟨c', hS', hH'⟩, hg'⟩)
  all_goals
    go_wp2_with fail
    go_end0
    exact ⟨rfl, ⟨a1, d1, ca1, c', Cb.ofE hS' hC3.la hC3.ld hC3.lca hH'.len, HA1.out, HD1.out, HCa1.out, hH'⟩, grown_own (grown_drewN hg3 _) hg' (fun k hk => .inr (Option.some.inj hk).symm)⟩
end Go.Proofs.YbulkkrgDoor.Fb
