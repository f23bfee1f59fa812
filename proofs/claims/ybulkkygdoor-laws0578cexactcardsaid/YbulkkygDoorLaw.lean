/-
  The walk of 'LawS0578CExact' (3).
-/
import Derived.Test.YbulkkygDoorPad
import Derived.Deep.QuietTactic
import Derived.BigQuiet
import Derived.WalkSmall
namespace Go.Proofs.YbulkkygDoor.Law
open Go.RowKit
open Go.Proofs.YbulkkygDoor.Pad (IsRow)
open Go.Lib (decDigits nDigits byteCells dg byteCells_length decDigits_length TabIs TabBelow tabIs_alloc pow10Tab)

/-- what the three loops read -/
structure Facts (W : World) (g2 g3 b off len pd L : Nat) (zs : List Int) (D : Nat → Int) : Prop where
  got1 : ∀ j, j < len → W.cell? ⟨g2, j, none⟩ = some (.int .u8 (zs.getD j 0))
  arg : ∀ j, j < len → W.cell? ⟨b, off + j, none⟩ = some (.int .u8 (zs.getD j 0))
  got2 : ∀ j, j < pd → W.cell? ⟨g2, len + j, none⟩ = some (.int .u8 48)
  got3 : ∀ j, j < L → W.cell? ⟨g2, len + pd + j, none⟩ = some (.int .u8 (D j))
  dig : ∀ j, j < L → W.cell? ⟨g3, j, none⟩ = some (.int .u8 (D j))

theorem Facts.drewN {W : World} {g2 g3 b off len pd L : Nat} {zs : List Int} {D : Nat → Int} (h : Facts W g2 g3 b off len pd L zs D) (n : Nat) : Facts (W.drewN n) g2 g3 b off len pd L zs D :=
  ⟨fun j hj => by rw [World.cell?_drewN]; exact h.got1 j hj, fun j hj => by rw [World.cell?_drewN]; exact h.arg j hj, fun j hj => by rw [World.cell?_drewN]; exact h.got2 j hj,
    fun j hj => by rw [World.cell?_drewN]; exact h.got3 j hj, fun j hj => by rw [World.cell?_drewN]; exact h.dig j hj⟩

theorem at1 (A R C : List Value) (j : Nat) (h : j < A.length) : (A ++ R ++ C)[j]? = A[j]? := by
  rw [List.append_assoc, List.getElem?_append_left h]
theorem at2 (A R C : List Value) (j : Nat) (h : j < R.length) : (A ++ R ++ C)[A.length + j]? = R[j]? := by
  rw [List.append_assoc, List.getElem?_append_right (by omega), Nat.add_sub_cancel_left, List.getElem?_append_left h]
theorem at3 (A R C : List Value) (j : Nat) : (A ++ R ++ C)[A.length + R.length + j]? = C[j]? := by
  rw [List.getElem?_append_right (by simp), List.length_append, Nat.add_sub_cancel_left]

/-- the facts, out of the three contracts -/
theorem facts {w w1 w2 w3 : World} {v2 v3 : Value} {b off len pd u : Nat} {zs : List Int} (hz : len ≤ zs.length)
    (harg : ∀ j, j < len → w.cell? ⟨b, off + j, none⟩ = some (.int .u8 (zs.getD j 0)))
    (hb1 : Below w.heap.size w w1) (hb2 : Below w.heap.size w1 w2) (hb3 : Below w2.heap.size w2 w3)
    (hown2 : w2.ownsRow w.heap.size 5 1 v2 (len + pd + (decDigits u).length) ((zs.take len).map (Value.int .u8) ++ List.replicate pd (.int .u8 48) ++ byteCells (decDigits u)))
    (hown3 : w3.ownsRow w2.heap.size 5 1 v3 (decDigits u).length (byteCells (decDigits u))) :
    ∃ g2 c2 g3 c3, ∃ D : Nat → Int, v2 = .slice (some ⟨g2, 0, none⟩) (len + pd + (decDigits u).length) c2 ∧ v3 = .slice (some ⟨g3, 0, none⟩) (decDigits u).length c3 ∧ len + pd + (decDigits u).length ≤ c2 ∧ (decDigits u).length ≤ c3 ∧ Facts w3 g2 g3 b off len pd (decDigits u).length zs D := by
  have hL : 0 < (decDigits u).length := by rw [decDigits_length]; exact Lib.nDigits_pos u
  obtain ⟨g2, c2, rfl, hg2, hc2⟩ := Dig.own_shape hown2 (by omega)
  obtain ⟨g3, c3, rfl, hg3, hc3⟩ := Dig.own_shape hown3 hL
  have hlt2 : g2 < w2.heap.size := (hown2.lt g2 rfl).2
  have eq2 : ∀ j, j < len + pd + (decDigits u).length → w3.cell? ⟨g2, j, none⟩ = ((zs.take len).map (Value.int .u8) ++ List.replicate pd (.int .u8 48) ++ byteCells (decDigits u))[j]? := fun j hj => by
    rw [hb3.cell (p := ⟨g2, j, none⟩) hlt2, hown2.cellAt j (by omega)]
  have hA : ((zs.take len).map (Value.int .u8)).length = len := by simp; omega
  have hR : (List.replicate pd (Value.int .u8 48)).length = pd := by simp
  have hD : ∀ j, j < (decDigits u).length → (byteCells (decDigits u))[j]? = some (.int .u8 (((decDigits u).getD j 0).toNat : Int)) := fun j hj => by
    rw [Dig.byteCells_at, List.getD_eq_getElem?_getD, List.getElem?_eq_getElem hj]; rfl
  refine ⟨g2, c2, g3, c3, fun j => (((decDigits u).getD j 0).toNat : Int), rfl, rfl, hc2, hc3, ?_, ?_, ?_, ?_, ?_⟩
  · intro j hj
    rw [eq2 j (by omega), at1 _ _ _ _ (by omega), List.getElem?_map, List.getElem?_take, if_pos hj, List.getD_eq_getElem?_getD, List.getElem?_eq_getElem (by omega)]; rfl
  · intro j hj
    have h1 := harg j hj
    have hlt : b < w.heap.size := World.block_lt_of_cell? w ⟨b, off + j, none⟩ h1
    have hs1 := hb1.size
    have hs2 := hb2.size
    rw [hb3.cell (p := ⟨b, off + j, none⟩) (show b < w2.heap.size by omega), hb2.cell (p := ⟨b, off + j, none⟩) hlt, hb1.cell (p := ⟨b, off + j, none⟩) hlt]; exact h1
  · intro j hj
    have e := at2 ((zs.take len).map (Value.int .u8)) (List.replicate pd (.int .u8 48)) (byteCells (decDigits u)) j (by omega)
    rw [hA] at e
    rw [eq2 (len + j) (by omega), e]; simp [hj]
  · intro j hj
    have e := at3 ((zs.take len).map (Value.int .u8)) (List.replicate pd (.int .u8 48)) (byteCells (decDigits u)) j
    rw [hA, hR] at e
    rw [eq2 (len + pd + j) (by omega), e, hD j hj]
  · intro j hj
    rw [hown3.cellAt j (by omega), hD j hj]

set_option maxHeartbeats 3200000 in
set_option maxRecDepth 100000 in
theorem walk1 (b off : Nat) (len cap : Nat) (zs : List Int) (u : Nat) (wd : Int) (w : World) (hrow : IsRow .u8 w (some ⟨b, off, none⟩) len cap zs) (hu64 : u < 18446744073709551616)
    (htab : TabBelow Ybad.prog w.heap.size w AppU.pow10 .u64 pow10Tab) (hl : len ≤ 1024) (hd1 : -1024 ≤ wd) (hd2 : wd ≤ 1024) (harg : ∀ j, j < len → w.cell? ⟨b, off + j, none⟩ = some (.int .u8 (zs.getD j 0))) (hz : len ≤ zs.length) :
    Calls Ybad.prog 3 #[.slice (some ⟨b, off, none⟩) len cap, .int .u64 u, .int .i64 wd] w fun e w' => e = .returned (.bool true) ∧ Below w.heap.size w w' := by
  have h1 : ¬ (1024 : Int) < (len : Int) := by omega
  have h2 : ¬ (1024 : Int) < wd := by omega
  have h3 : ¬ wd < -1024 := by omega
  go_enter Ybad.func3, Ybad.ntmps3
  go_wp2_with fail
  refine (Pad.copy_any (some ⟨b, off, none⟩) len cap zs w hrow hl).mono ?_
  rintro e w1 ⟨v1, rfl, hown1, hb1⟩
  go_wp2_with fail
  refine (Pad.padded w.heap.size len u v1 _ wd w1 hown1 hb1.size hl hd1 hd2 hu64 (htab w1 hb1)).mono ?_
  rintro e w2 ⟨v2, rfl, hown2, hb2⟩
  go_wp2_with fail
  refine (Dig.digits u hu64 w2).mono ?_
  rintro e w3 ⟨v3, rfl, hown3, hb3⟩
  obtain ⟨g2, c2, g3, c3, D, hv2, hv3, hc2, hc3, hF⟩ := facts (b := b) (off := off) hz harg hb1 hb2 hb3 hown2 hown3
  have hb : Below w.heap.size w w3 := (hb1.trans hb2).trans (hb3.mono (by have := hb1.size; have := hb2.size; omega))
  rw [hv2, hv3]
  have hd20 := AppU.dd20 u hu64
  have hLp : 0 < (decDigits u).length := by rw [decDigits_length]; exact Lib.nDigits_pos u
  clear hown1 hown2 hown3 hb1 hb2 hb3 hv2 hv3 htab hrow
  generalize (decDigits u).length = L at *
  clear hu64
  by_cases hpad : (L : Int) < wd
  · obtain ⟨pd, hpd⟩ : ∃ pd : Nat, wd - (L : Int) = pd := ⟨(wd - L).toNat, by omega⟩
    have e0 : (wd - (L : Int)).toNat = pd := by omega
    rw [e0] at hF hc2 ⊢
    have hpd1 : pd ≤ 2048 := by omega
    clear e0
    go_wp2
    go_loopw [11] (fun i wr => ∃ k : Nat, i = .int .i64 k ∧ k ≤ len ∧ Facts wr g2 g3 b off len pd L zs D ∧ Below w.heap.size w wr) (fun i _ => len - (intOf i).toNat)
    case atStart => exact ⟨0, rfl, Nat.zero_le _, hF, hb⟩
    case round =>
      obtain ⟨k, rfl, hk, hFr, hbr⟩ := hrel
      by_cases hlt : k < len
      · have c1 := hFr.got1 k hlt
        have c2' := hFr.arg k hlt
        have hlti : (k : Int) < (len : Int) := by omega
        go_wp2
        go_quiet (fail)
        go_wp2
        go_roundw
        case rel => exact ⟨k + 1, by go_num, by omega, hFr.drewN _, below_drewN hbr _⟩
        case measure => simp [intOf]; omega
      · clear hF hb
        obtain ⟨wo, rfl⟩ : ∃ wo : World, wo = wr := ⟨_, rfl⟩
        go_wp2
        go_loopw [12] (fun i wr => ∃ k : Nat, i = .int .i64 k ∧ k ≤ pd ∧ Facts wr g2 g3 b off len pd L zs D ∧ Below w.heap.size w wr) (fun i _ => pd - (intOf i).toNat)
        case atStart => exact ⟨0, rfl, Nat.zero_le _, hFr, hbr⟩
        case round =>
          clear hFr hbr
          obtain ⟨k2, rfl, hk2, hFr, hbr⟩ := hrel
          by_cases hlt2 : k2 < pd
          · have c1 := hFr.got2 k2 hlt2
            have hlti : (k2 : Int) < (pd : Int) := by omega
            go_wp2
            go_roundw
            case rel => exact ⟨k2 + 1, by go_num, by omega, hFr, hbr⟩
            case measure => simp [intOf]; omega
          · obtain ⟨wp, rfl⟩ : ∃ wp : World, wp = wr := ⟨_, rfl⟩
            go_wp2
            go_loopw [13] (fun i wr => ∃ k : Nat, i = .int .i64 k ∧ k ≤ L ∧ Facts wr g2 g3 b off len pd L zs D ∧ Below w.heap.size w wr) (fun i _ => L - (intOf i).toNat)
            case atStart => exact ⟨0, rfl, Nat.zero_le _, hFr, hbr⟩
            case round =>
              clear hFr hbr
              obtain ⟨k3, rfl, hk3, hFr, hbr⟩ := hrel
              by_cases hlt3 : k3 < L
              · have c1 := hFr.got3 k3 hlt3
                have c2' := hFr.dig k3 hlt3
                have hlti : (k3 : Int) < (L : Int) := by omega
                go_wp2
                go_quiet (fail)
                go_wp2
                go_roundw
                case rel => exact ⟨k3 + 1, by go_num, by omega, hFr.drewN _, below_drewN hbr _⟩
                case measure => simp [intOf]; omega
              · go_wp2
                go_ret
                exact ⟨rfl, hbr⟩
  · have e0 : (wd - (L : Int)).toNat = 0 := by omega
    rw [e0] at hF hc2 ⊢
    clear e0
    go_wp2
    go_loopw [11] (fun i wr => ∃ k : Nat, i = .int .i64 k ∧ k ≤ len ∧ Facts wr g2 g3 b off len 0 L zs D ∧ Below w.heap.size w wr) (fun i _ => len - (intOf i).toNat)
    case atStart => exact ⟨0, rfl, Nat.zero_le _, hF, hb⟩
    case round =>
      obtain ⟨k, rfl, hk, hFr, hbr⟩ := hrel
      by_cases hlt : k < len
      · have c1 := hFr.got1 k hlt
        have c2' := hFr.arg k hlt
        have hlti : (k : Int) < (len : Int) := by omega
        go_wp2
        go_quiet (fail)
        go_wp2
        go_roundw
        case rel => exact ⟨k + 1, by go_num, by omega, hFr.drewN _, below_drewN hbr _⟩
        case measure => simp [intOf]; omega
      · clear hF hb
        obtain ⟨wo, rfl⟩ : ∃ wo : World, wo = wr := ⟨_, rfl⟩
        go_wp2
        go_loopw [12] (fun i wr => ∃ k : Nat, i = .int .i64 k ∧ k ≤ 0 ∧ Facts wr g2 g3 b off len 0 L zs D ∧ Below w.heap.size w wr) (fun i _ => 0 - (intOf i).toNat)
        case atStart => exact ⟨0, rfl, Nat.zero_le _, hFr, hbr⟩
        case round =>
          clear hFr hbr
          obtain ⟨k2, rfl, hk2, hFr, hbr⟩ := hrel
          by_cases hlt2 : k2 < 0
          · exact absurd hlt2 (Nat.not_lt_zero _)
          · obtain ⟨wp, rfl⟩ : ∃ wp : World, wp = wr := ⟨_, rfl⟩
            go_wp2
            go_loopw [13] (fun i wr => ∃ k : Nat, i = .int .i64 k ∧ k ≤ L ∧ Facts wr g2 g3 b off len 0 L zs D ∧ Below w.heap.size w wr) (fun i _ => L - (intOf i).toNat)
            case atStart => exact ⟨0, rfl, Nat.zero_le _, hFr, hbr⟩
            case round =>
              clear hFr hbr
              obtain ⟨k3, rfl, hk3, hFr, hbr⟩ := hrel
              by_cases hlt3 : k3 < L
              · have c1 := (show wr.cell? ⟨g2, len + k3, none⟩ = some (.int .u8 (D k3)) from hFr.got3 k3 hlt3)
                have c2' := hFr.dig k3 hlt3
                have hlti : (k3 : Int) < (L : Int) := by omega
                go_wp2
                go_quiet (fail)
                go_wp2
                go_roundw
                case rel => exact ⟨k3 + 1, by go_num, by omega, hFr.drewN _, below_drewN hbr _⟩
                case measure => simp [intOf]; omega
              · go_wp2
                go_ret
                exact ⟨rfl, hbr⟩

set_option maxHeartbeats 3200000 in
set_option maxRecDepth 100000 in
theorem walk0 (a : Option Addr) (len cap : Nat) (zs : List Int) (u : Nat) (wd : Int) (w : World) (hrow : IsRow .u8 w a len cap zs) (hu64 : u < 18446744073709551616)
    (htab : TabBelow Ybad.prog w.heap.size w AppU.pow10 .u64 pow10Tab) (hl : len ≤ 1024) (hd1 : -1024 ≤ wd) (hd2 : wd ≤ 1024) (h0 : Hid (len = 0)) (hz : len ≤ zs.length) :
    Calls Ybad.prog 3 #[.slice a len cap, .int .u64 u, .int .i64 wd] w fun e w' => e = .returned (.bool true) ∧ Below w.heap.size w w' := by
  have h1 : ¬ (1024 : Int) < (len : Int) := by omega
  have h2 : ¬ (1024 : Int) < wd := by omega
  have h3 : ¬ wd < -1024 := by omega
  go_enter Ybad.func3, Ybad.ntmps3
  go_wp2_with fail
  refine (Pad.copy_any a len cap zs w hrow hl).mono ?_
  rintro e w1 ⟨v1, rfl, hown1, hb1⟩
  go_wp2_with fail
  refine (Pad.padded w.heap.size len u v1 _ wd w1 hown1 hb1.size hl hd1 hd2 hu64 (htab w1 hb1)).mono ?_
  rintro e w2 ⟨v2, rfl, hown2, hb2⟩
  go_wp2_with fail
  refine (Dig.digits u hu64 w2).mono ?_
  rintro e w3 ⟨v3, rfl, hown3, hb3⟩
  obtain ⟨g2, c2, g3, c3, D, hv2, hv3, hc2, hc3, hF⟩ := facts (b := 0) (off := 0) hz (fun j hj => absurd hj (by rw [h0.out]; exact Nat.not_lt_zero j)) hb1 hb2 hb3 hown2 hown3
  have hb : Below w.heap.size w w3 := (hb1.trans hb2).trans (hb3.mono (by have := hb1.size; have := hb2.size; omega))
  rw [hv2, hv3]
  have hd20 := AppU.dd20 u hu64
  have hLp : 0 < (decDigits u).length := by rw [decDigits_length]; exact Lib.nDigits_pos u
  clear hown1 hown2 hown3 hb1 hb2 hb3 hv2 hv3 htab hrow
  generalize (decDigits u).length = L at *
  clear hu64
  by_cases hpad : (L : Int) < wd
  · obtain ⟨pd, hpd⟩ : ∃ pd : Nat, wd - (L : Int) = pd := ⟨(wd - L).toNat, by omega⟩
    have e0 : (wd - (L : Int)).toNat = pd := by omega
    rw [e0] at hF hc2 ⊢
    have hpd1 : pd ≤ 2048 := by omega
    clear e0
    go_wp2
    go_loopw [11] (fun i wr => ∃ k : Nat, i = .int .i64 k ∧ k ≤ len ∧ Facts wr g2 g3 0 0 len pd L zs D ∧ Below w.heap.size w wr) (fun i _ => len - (intOf i).toNat)
    case atStart => exact ⟨0, rfl, Nat.zero_le _, hF, hb⟩
    case round =>
      obtain ⟨k, rfl, hk, hFr, hbr⟩ := hrel
      by_cases hlt : k < len
      · exact absurd hlt (by rw [h0.out]; exact Nat.not_lt_zero _)
      · clear hF hb
        obtain ⟨wo, rfl⟩ : ∃ wo : World, wo = wr := ⟨_, rfl⟩
        go_wp2
        go_loopw [12] (fun i wr => ∃ k : Nat, i = .int .i64 k ∧ k ≤ pd ∧ Facts wr g2 g3 0 0 len pd L zs D ∧ Below w.heap.size w wr) (fun i _ => pd - (intOf i).toNat)
        case atStart => exact ⟨0, rfl, Nat.zero_le _, hFr, hbr⟩
        case round =>
          clear hFr hbr
          obtain ⟨k2, rfl, hk2, hFr, hbr⟩ := hrel
          by_cases hlt2 : k2 < pd
          · have c1 := hFr.got2 k2 hlt2
            have hlti : (k2 : Int) < (pd : Int) := by omega
            go_wp2
            go_roundw
            case rel => exact ⟨k2 + 1, by go_num, by omega, hFr, hbr⟩
            case measure => simp [intOf]; omega
          · obtain ⟨wp, rfl⟩ : ∃ wp : World, wp = wr := ⟨_, rfl⟩
            go_wp2
            go_loopw [13] (fun i wr => ∃ k : Nat, i = .int .i64 k ∧ k ≤ L ∧ Facts wr g2 g3 0 0 len pd L zs D ∧ Below w.heap.size w wr) (fun i _ => L - (intOf i).toNat)
            case atStart => exact ⟨0, rfl, Nat.zero_le _, hFr, hbr⟩
            case round =>
              clear hFr hbr
              obtain ⟨k3, rfl, hk3, hFr, hbr⟩ := hrel
              by_cases hlt3 : k3 < L
              · have c1 := hFr.got3 k3 hlt3
                have c2' := hFr.dig k3 hlt3
                have hlti : (k3 : Int) < (L : Int) := by omega
                go_wp2
                go_quiet (fail)
                go_wp2
                go_roundw
                case rel => exact ⟨k3 + 1, by go_num, by omega, hFr.drewN _, below_drewN hbr _⟩
                case measure => simp [intOf]; omega
              · go_wp2
                go_ret
                exact ⟨rfl, hbr⟩
  · have e0 : (wd - (L : Int)).toNat = 0 := by omega
    rw [e0] at hF hc2 ⊢
    clear e0
    go_wp2
    go_loopw [11] (fun i wr => ∃ k : Nat, i = .int .i64 k ∧ k ≤ len ∧ Facts wr g2 g3 0 0 len 0 L zs D ∧ Below w.heap.size w wr) (fun i _ => len - (intOf i).toNat)
    case atStart => exact ⟨0, rfl, Nat.zero_le _, hF, hb⟩
    case round =>
      obtain ⟨k, rfl, hk, hFr, hbr⟩ := hrel
      by_cases hlt : k < len
      · exact absurd hlt (by rw [h0.out]; exact Nat.not_lt_zero _)
      · clear hF hb
        obtain ⟨wo, rfl⟩ : ∃ wo : World, wo = wr := ⟨_, rfl⟩
        go_wp2
        go_loopw [12] (fun i wr => ∃ k : Nat, i = .int .i64 k ∧ k ≤ 0 ∧ Facts wr g2 g3 0 0 len 0 L zs D ∧ Below w.heap.size w wr) (fun i _ => 0 - (intOf i).toNat)
        case atStart => exact ⟨0, rfl, Nat.zero_le _, hFr, hbr⟩
        case round =>
          clear hFr hbr
          obtain ⟨k2, rfl, hk2, hFr, hbr⟩ := hrel
          by_cases hlt2 : k2 < 0
          · exact absurd hlt2 (Nat.not_lt_zero _)
          · obtain ⟨wp, rfl⟩ : ∃ wp : World, wp = wr := ⟨_, rfl⟩
            go_wp2
            go_loopw [13] (fun i wr => ∃ k : Nat, i = .int .i64 k ∧ k ≤ L ∧ Facts wr g2 g3 0 0 len 0 L zs D ∧ Below w.heap.size w wr) (fun i _ => L - (intOf i).toNat)
            case atStart => exact ⟨0, rfl, Nat.zero_le _, hFr, hbr⟩
            case round =>
              clear hFr hbr
              obtain ⟨k3, rfl, hk3, hFr, hbr⟩ := hrel
              by_cases hlt3 : k3 < L
              · have c1 := (show wr.cell? ⟨g2, len + k3, none⟩ = some (.int .u8 (D k3)) from hFr.got3 k3 hlt3)
                have c2' := hFr.dig k3 hlt3
                have hlti : (k3 : Int) < (L : Int) := by omega
                go_wp2
                go_quiet (fail)
                go_wp2
                go_roundw
                case rel => exact ⟨k3 + 1, by go_num, by omega, hFr.drewN _, below_drewN hbr _⟩
                case measure => simp [intOf]; omega
              · go_wp2
                go_ret
                exact ⟨rfl, hbr⟩

end Go.Proofs.YbulkkygDoor.Law
