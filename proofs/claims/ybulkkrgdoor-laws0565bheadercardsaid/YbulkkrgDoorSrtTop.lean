/-
  The walks of 'stableCmpFunc' (20) and 'SortStableFunc' (16): a permutation, sorted by the key.
-/
import Derived.Test.YbulkkrgDoorSrtSym
import Derived.Test.YbulkkrgDoorSrtRuns
namespace Go.Proofs.YbulkkrgDoor.Srt
open Go.RowKit
set_option linter.unusedVariables false

set_option maxHeartbeats 6400000 in
set_option maxRecDepth 100000 in
theorem stable (fb : Nat) (B g n cap : Nat) (key : Int → Int) (V : Int → Prop) (l : List Int) (w0 w : World) (hC : Cmp fb g w0 key V) (hS0 : Same g w0 w) (hV : ∀ x ∈ l, V x) (h : Row w B g n cap l) (hn : n ≤ 100000) :
    Calls Ybad.prog 20 #[.slice (some ⟨g, 0, none⟩) n cap, .int .i64 n, .func (.func 17) #[] #[.pointer (some ⟨fb, 0, none⟩)]] w fun e w' => e = .returned (.tuple #[]) ∧ (∃ c, Row w' B g n cap c ∧ Prm 0 n l c ∧ Srd key 0 n c) ∧ Same g w w' := by
  have hlen := h.len
  have HC : Hid (Cmp fb g w0 key V) := hC
  have HV : Hid (∀ x ∈ l, V x) := hV
  clear hC hV
  go_enter Ybad.func20, Ybad.ntmps20
  go_wp2
  go_loopw [7, 8] (fun x y wr => ∃ k al : Nat, x = .int .i64 al ∧ y = .int .i64 ((al + 20 : Nat) : Int) ∧ Hid (al = k * 20) ∧ al ≤ n ∧ (∃ c, Row wr B g n cap c ∧ Prm 0 n l c ∧ Done key 20 k c) ∧ Same g w wr) (fun x _ _ => n + 1 - (intOf x).toNat)
  case atStart => exact ⟨0, 0, rfl, rfl, rfl, by omega, ⟨l, h, Prm.refl _ _ _, Done.zero _ _ _⟩, Same.refl _ _⟩
  case round =>
    obtain ⟨k, al, rfl, rfl, HK, hal, ⟨c, hR, hP, hD⟩, hS⟩ := hrel
    obtain ⟨wo, hwo⟩ : ∃ wo : World, wo = wr := ⟨_, rfl⟩
    rw [← hwo] at hR hS ⊢
    clear hwo
    have hcl : c.length = n := hR.len
    have HVc : Hid (∀ x ∈ c, V x) := all_of HV.out hP (by omega)
    obtain ⟨be, hbe⟩ : ∃ be, be = al + 20 := ⟨_, rfl⟩
    rw [← hbe]
    have HB : Hid (be = al + 20) := hbe
    have hb1 : al < be := by omega
    have hb2 : be ≤ al + 20 := by omega
    clear hbe
    by_cases hlt : be ≤ n
    · as_aux_lemma =>
      have hlti : (be : Int) ≤ n := by omega
      go_wp2_with fail
      refine (insertion fb B g n cap al be key V c w0 wo HC.out (hS0.trans hS) HVc.out hR hn (by omega) hlt).mono ?_
      rintro e w' ⟨rfl, ⟨d, hRd, hPd, hDd⟩, hSd⟩
      have hD' : Done key 20 (k + 1) d := hD.step HK.out (by rw [← HB.out]; exact hPd) (by rw [← HB.out]; exact hDd)
      have hP' : Prm 0 n l d := hP.trans (hPd.wide (Nat.zero_le _) (by omega) hlt (by omega))
      have HD : Hid (Done key 20 (k + 1) d) := hD'
      have HP : Hid (Prm 0 n l d) := hP'
      clear hD hD' hP hP' hPd hDd
      go_wp2
      go_roundw
      case rel => exact ⟨k + 1, be, by go_num, by have := HB.out; go_num, by have := HK.out; have := HB.out; show be = (k + 1) * 20; omega, hlt, ⟨d, hRd, HP.out, HD.out⟩, hS.trans hSd⟩
      case measure => simp [intOf]; omega
    · have hlti : ¬ (be : Int) ≤ n := by omega
      go_wp2_with fail
      refine (insertion fb B g n cap al n key V c w0 wo HC.out (hS0.trans hS) HVc.out hR hn hal (Nat.le_refl _)).mono ?_
      rintro e w1 ⟨rfl, ⟨d, hRd, hPd, hDd⟩, hSd⟩
      have HU : Hid (Runs key 20 n 0 d) := (hD.out HK.out hPd).runs HK.out (by have := HB.out; omega) hDd
      have HP : Hid (Prm 0 n l d) := hP.trans (hPd.wide (Nat.zero_le _) hal (Nat.le_refl _) (by omega))
      have hS1 := hS.trans hSd
      clear hD hP hPd hDd hSd hS hR HVc hcl
      go_wp2
      go_loopw [6, 7, 8, 9] (fun z x y u wr => ∃ bs : Nat, z = .int .i64 bs ∧ 20 ≤ bs ∧ bs ≤ 200000 ∧ (∃ c, Row wr B g n cap c ∧ Prm 0 n l c ∧ Runs key bs n 0 c) ∧ Same g w wr) (fun z _ _ _ _ => n - (intOf z).toNat)
      case atStart => exact ⟨20, rfl, by omega, by omega, ⟨d, hRd, HP.out, HU.out⟩, hS1⟩
      case round =>
        clear hRd hS1 HU HP
        obtain ⟨bs, rfl, hbs, hbs2, ⟨c, hR, hP, hU⟩, hS⟩ := hrel
        obtain ⟨wo, hwo⟩ : ∃ wo : World, wo = wr := ⟨_, rfl⟩
        rw [← hwo] at hR hS ⊢
        clear hwo
        by_cases hlt2 : bs < n
        · have hlt2i : (bs : Int) < n := by omega
          have hcl : c.length = n := hR.len
          go_wp2
          go_loopw [7, 8] (fun x y wr => ∃ k al : Nat, x = .int .i64 al ∧ y = .int .i64 ((al + 2 * bs : Nat) : Int) ∧ Hid (al = k * (2 * bs)) ∧ al ≤ n ∧ (∃ c, Row wr B g n cap c ∧ Prm 0 n l c ∧ Done key (2 * bs) k c ∧ Runs key bs n al c) ∧ Same g w wr) (fun x _ _ => n + 1 - (intOf x).toNat)
          case atStart => exact ⟨0, 0, by go_num, by go_num, (Nat.zero_mul _).symm, by omega, ⟨c, hR, hP, Done.zero _ _ _, hU⟩, hS⟩
          case round =>
            clear hR hS hP hU hcl
            obtain ⟨k, al, rfl, rfl, HK, hal, ⟨c, hR, hP, hD, hU⟩, hS⟩ := hrel
            obtain ⟨wo, hwo⟩ : ∃ wo : World, wo = wr := ⟨_, rfl⟩
            rw [← hwo] at hR hS ⊢
            clear hwo
            have hcl : c.length = n := hR.len
            have HVc : Hid (∀ x ∈ c, V x) := all_of HV.out hP (by omega)
            obtain ⟨be, hbe⟩ : ∃ be, be = al + 2 * bs := ⟨_, rfl⟩
            rw [← hbe]
            have HB : Hid (be = al + 2 * bs) := hbe
            have hb1 : al + 40 ≤ be := by omega
            have hb2 : be ≤ al + 400000 := by omega
            clear hbe
            by_cases hlt : be ≤ n
            · as_aux_lemma =>
              have hlti : (be : Int) ≤ n := by omega
              have hs1 : Srd key al (al + bs) c := hU.first (by have := HB.out; omega)
              have hs2 : Srd key (al + bs) be c := hU.second.widen (Nat.le_refl _) (by have := HB.out; omega)
              go_wp2_with fail
              rw [show (al : Int) + bs = ((al + bs : Nat) : Int) from by omega]
              refine (sym fb B g n cap key V w0 HC.out hn (be - al) al (al + bs) be c wo (Nat.le_refl _) (by omega) (by have := HB.out; omega) hlt (hS0.trans hS) HVc.out hR hs1 hs2).mono ?_
              rintro e w' ⟨rfl, ⟨d, hRd, hPd, hDd⟩, hSd⟩
              have HD : Hid (Done key (2 * bs) (k + 1) d) := hD.step HK.out (by rw [← HB.out]; exact hPd) (by rw [← HB.out]; exact hDd)
              have HU : Hid (Runs key bs n be d) := by
                have := hU.step (d := d) (by rw [← HB.out]; exact hPd)
                rw [← HB.out] at this; exact this
              have HP : Hid (Prm 0 n l d) := hP.trans (hPd.wide (Nat.zero_le _) (by omega) hlt (by omega))
              have HE : Hid (be = (k + 1) * (2 * bs)) := by
                show be = (k + 1) * (2 * bs)
                rw [Nat.add_mul, Nat.one_mul, ← HK.out]; exact HB.out
              clear hD hP hPd hDd hU hs1 hs2
              go_wp2
              go_roundw
              case rel => exact ⟨k + 1, be, by go_num, by have := HB.out; go_num, HE, hlt, ⟨d, hRd, HP.out, HD.out, HU.out⟩, hS.trans hSd⟩
              case measure => simp [intOf]; omega
            · have hlti : ¬ (be : Int) ≤ n := by omega
              by_cases hm : al + bs < n
              · as_aux_lemma =>
                have hmi : (al : Int) + bs < n := by omega
                have hs1 : Srd key al (al + bs) c := hU.first (by omega)
                have hs2 : Srd key (al + bs) n c := hU.second.widen (Nat.le_refl _) (by have := HB.out; omega)
                go_wp2_with fail
                rw [show (al : Int) + bs = ((al + bs : Nat) : Int) from by omega]
                refine (sym fb B g n cap key V w0 HC.out hn (n - al) al (al + bs) n c wo (Nat.le_refl _) (by omega) hm (Nat.le_refl _) (hS0.trans hS) HVc.out hR hs1 hs2).mono ?_
                rintro e w' ⟨rfl, ⟨d, hRd, hPd, hDd⟩, hSd⟩
                have HU : Hid (Runs key (2 * bs) n 0 d) := (hD.out HK.out hPd).runs HK.out (by have := HB.out; omega) hDd
                have HP : Hid (Prm 0 n l d) := hP.trans (hPd.wide (Nat.zero_le _) hal (Nat.le_refl _) (by omega))
                clear hD hP hPd hDd hU hs1 hs2
                go_wp2
                go_roundw
                case rel => exact ⟨2 * bs, by go_num, by omega, by omega, ⟨d, hRd, HP.out, HU.out⟩, hS.trans hSd⟩
                case measure => simp [intOf]; omega
              · as_aux_lemma =>
                have hmi : ¬ (al : Int) + bs < n := by omega
                have HU : Hid (Runs key (2 * bs) n 0 c) := hD.runs HK.out (by have := HB.out; omega) (hU.firstTo (by omega))
                have HP : Hid (Prm 0 n l c) := hP
                clear hD hP hU
                go_wp2
                go_roundw
                case rel => exact ⟨2 * bs, by go_num, by omega, by omega, ⟨c, hR, HP.out, HU.out⟩, hS⟩
                case measure => simp [intOf]; omega
        · have hlt2i : ¬ (bs : Int) < n := by omega
          go_wp2
          go_end0
          exact ⟨rfl, ⟨c, hR, hP, hU.all (by omega)⟩, hS⟩

set_option maxHeartbeats 800000 in
theorem sortStable (fb : Nat) (B g n cap : Nat) (key : Int → Int) (V : Int → Prop) (l : List Int) (w : World) (hC : Cmp fb g w key V) (hV : ∀ x ∈ l, V x) (h : Row w B g n cap l) (hn : n ≤ 100000) :
    Calls Ybad.prog 16 #[.slice (some ⟨g, 0, none⟩) n cap, .func (.func 17) #[] #[.pointer (some ⟨fb, 0, none⟩)]] w fun e w' => e = .returned (.tuple #[]) ∧ (∃ c, Row w' B g n cap c ∧ c.Perm l ∧ Srd key 0 n c) ∧ Same g w w' := by
  have hl := h.len
  go_enter Ybad.func16, Ybad.ntmps16
  go_wp2_with fail
  refine (stable fb B g n cap key V l w w hC (Same.refl _ _) hV h hn).mono ?_
  rintro e w' ⟨rfl, ⟨c, hR, hP, hD⟩, hS⟩
  go_wp2
  go_end0
  exact ⟨rfl, ⟨c, hR, hP.perm hl.symm, hD⟩, hS⟩
end Go.Proofs.YbulkkrgDoor.Srt
