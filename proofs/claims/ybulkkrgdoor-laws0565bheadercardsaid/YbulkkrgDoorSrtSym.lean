/-
  The walk of 'symMergeCmpFunc' (22): by induction on the piece's length.
-/
import Derived.Test.YbulkkrgDoorSrtSym1
import Derived.Deep.DeepCutAuto
namespace Go.Proofs.YbulkkrgDoor.Srt
open Go.RowKit
set_option linter.unusedVariables false

/-- where the search begins and ends -/
structure Bnd (a m b mid s0 r0 : Nat) : Prop where
  b1 : a ≤ s0
  b2 : s0 ≤ r0
  b3 : r0 ≤ m
  b4 : r0 ≤ mid
  b5 : mid + m ≤ b + s0
  b6 : s0 = a ∨ mid + m = b + s0
  b7 : r0 = m ∨ r0 = mid

/-- what symMerge says of a piece -/
def SymAt (fb : Nat) (B g n cap : Nat) (key : Int → Int) (V : Int → Prop) (w0 : World) (d : Nat) : Prop :=
  ∀ (a m b : Nat) (l : List Int) (w : World), b - a ≤ d → a < m → m < b → b ≤ n → Same g w0 w → (∀ x ∈ l, V x) → Row w B g n cap l → Srd key a m l → Srd key m b l →
    Calls Ybad.prog 22 #[.slice (some ⟨g, 0, none⟩) n cap, .int .i64 a, .int .i64 m, .int .i64 b, .func (.func 17) #[] #[.pointer (some ⟨fb, 0, none⟩)]] w fun e w' => e = .returned (.tuple #[]) ∧ (∃ c, Row w' B g n cap c ∧ Prm a b l c ∧ Srd key a b c) ∧ Same g w w'

set_option maxHeartbeats 6400000 in
set_option maxRecDepth 100000 in
theorem symGen (fb : Nat) (B g n cap d a m b mid : Nat) (hmid : mid = (a + b) / 2) (key : Int → Int) (V : Int → Prop) (l : List Int) (w0 w : World) (hC : Cmp fb g w0 key V) (IH : SymAt fb B g n cap key V w0 d) (hd : b - a ≤ d + 1) (hS0 : Same g w0 w) (hV : ∀ x ∈ l, V x) (h : Row w B g n cap l) (hn : n ≤ 100000) (h1 : a + 1 < m) (h2 : m + 1 < b) (h3 : b ≤ n) (hL : Srd key a m l) (hR0 : Srd key m b l) :
    Calls Ybad.prog 22 #[.slice (some ⟨g, 0, none⟩) n cap, .int .i64 a, .int .i64 m, .int .i64 b, .func (.func 17) #[] #[.pointer (some ⟨fb, 0, none⟩)]] w fun e w' => e = .returned (.tuple #[]) ∧ (∃ c, Row w' B g n cap c ∧ Prm a b l c ∧ Srd key a b c) ∧ Same g w w' := by
  have hcap := h.cap
  have HC : Hid (Cmp fb g w0 key V) := hC
  have HI : Hid (SymAt fb B g n cap key V w0 d) := IH
  have HV : Hid (∀ x ∈ l, V x) := hV
  have HL : Hid (Srd key a m l) := hL
  have HR : Hid (Srd key m b l) := hR0
  have hlen := h.len
  have hma : ((m : Int) - a == 1) = false := by rw [beq_eq_false_iff_ne]; omega
  have hmb : ((b : Int) - m == 1) = false := by rw [beq_eq_false_iff_ne]; omega
  have hmi : ((a : Int) + b) / 2 = mid := by omega
  have HM : Hid (mid = (a + b) / 2) := hmid
  have hm1 : a < mid := by omega
  have hm2 : mid < b := by omega
  clear hC IH hV hL hR0 hmid
  go_enter Ybad.func22, Ybad.ntmps22
  go_upto_if 140 with fail
  go_cut [20, 21] (fun x y wx => ∃ s0 r0 : Nat, x = .int .i64 s0 ∧ y = .int .i64 r0 ∧ Bnd a m b mid s0 r0 ∧ w = wx)
  case first =>
    as_aux_lemma =>
    by_cases hmm : mid < m
    · have hmmi : (mid : Int) < m := by omega
      go_wp2_with fail
      go_meet
      case rel => exact ⟨mid + m - b, mid, by have := HM.out; go_num, rfl, ⟨by have := HM.out; omega, by omega, by omega, by omega, by omega, Or.inr (by have := HM.out; omega), Or.inr rfl⟩, rfl⟩
    · have hmmi : ¬ (mid : Int) < m := by omega
      go_wp2_with fail
      go_meet
      case rel => exact ⟨a, m, rfl, rfl, ⟨by omega, by omega, by omega, by omega, by have := HM.out; omega, Or.inl rfl, Or.inl rfl⟩, rfl⟩
  case rest =>
    obtain ⟨s0, r0, rfl, rfl, hB, rfl⟩ := hcut
    have b1 := hB.b1
    have b2 := hB.b2
    have b3 := hB.b3
    have b4 := hB.b4
    have b5 := hB.b5
    go_wp2
    go_loopw [20, 21] (fun x y wr => ∃ s r : Nat, x = .int .i64 s ∧ y = .int .i64 r ∧ s0 ≤ s ∧ s ≤ r ∧ r ≤ r0 ∧ Hid (∀ c, s0 ≤ c → c < s → key (gt l c) ≤ key (gt l (mid + m - 1 - c))) ∧ Hid (∀ c, r ≤ c → c < r0 → key (gt l (mid + m - 1 - c)) < key (gt l c)) ∧ Row wr B g n cap l ∧ Same g w wr) (fun x y _ => (intOf y).toNat - (intOf x).toNat)
    case atStart => exact ⟨s0, r0, rfl, rfl, by omega, by omega, by omega, fun q _ _ => by omega, fun q _ _ => by omega, h, Same.refl _ _⟩
    case round =>
      obtain ⟨s, r, rfl, rfl, hs0, hsr, hr0, HA, HZ, hR, hS⟩ := hrel
      obtain ⟨wp, hwp⟩ : ∃ wp : World, wp = wr := ⟨_, rfl⟩
      rw [← hwp] at hR hS ⊢
      clear hwp
      by_cases hlt : s < r
      · have hlti : (s : Int) < r := by omega
        obtain ⟨c, hc⟩ : ∃ c, c = (s + r) / 2 := ⟨_, rfl⟩
        have hci : ((s : Int) + r) / 2 = c := by omega
        obtain ⟨pc, hpc⟩ : ∃ pc, pc = mid + m - 1 - c := ⟨_, rfl⟩
        have hpi : (mid : Int) + m - 1 - c = pc := by omega
        have HPC : Hid (pc = mid + m - 1 - c) := hpc
        have x1 : s ≤ c := by omega
        have x2 : c < r := by omega
        have x3 : m ≤ pc := by omega
        have x4 : pc < b := by omega
        clear hc hpc
        have c1 := hR.cell pc (by omega)
        have c2 := hR.cell c (by omega)
        have hcmp := fun (q : Nat) => HC.out (gt l pc) (gt l c) (wp.drewN q) (HV.out _ (gt_mem l _ (by omega))) (HV.out _ (gt_mem l _ (by omega))) ((hS0.trans hS).drewN q)
        have HCM : Hid _ := hcmp
        clear hcmp
        by_cases hless : key (gt l pc) - key (gt l c) < 0
        · as_aux_lemma =>
          have HZ' : Hid (∀ q, c ≤ q → q < r0 → key (gt l (mid + m - 1 - q)) < key (gt l q)) := fun q hq1 hq2 => by
            have e0 := HPC.out
            by_cases e : q = c
            · subst e; rw [← e0]; omega
            · have t1 := HL.out c q (by omega) (by omega) (by omega)
              have t2 := HR.out (mid + m - 1 - q) pc (by omega) (by omega) (by omega)
              omega
          go_wp2
          go_quiet (first | (go_at_call 17; refine Calls.quiet_of (HCM.out _)))
          go_wp2
          go_roundw
          case rel => exact ⟨s, c, by go_num, by go_num, by omega, by omega, by omega, HA, HZ', hR.drewN _, hS.drewN _⟩
          case measure => simp [intOf]; omega
        · as_aux_lemma =>
          have HA' : Hid (∀ q, s0 ≤ q → q < c + 1 → key (gt l q) ≤ key (gt l (mid + m - 1 - q))) := fun q hq1 hq2 => by
            have e0 := HPC.out
            by_cases e : q = c
            · subst e; rw [← e0]; omega
            · have t1 := HL.out q c (by omega) (by omega) (by omega)
              have t2 := HR.out pc (mid + m - 1 - q) (by omega) (by omega) (by omega)
              omega
          have hlb : decide (key (gt l pc) - key (gt l c) < 0) = false := by simpa using hless
          clear hless
          go_wp2
          go_quiet (first | (go_at_call 17; refine Calls.quiet_of (HCM.out _)))
          go_wp2
          go_roundw
          case rel => exact ⟨c + 1, r, by go_num, by go_num, by omega, by omega, by omega, HA', HZ, hR.drewN _, hS.drewN _⟩
          case measure => simp [intOf]; omega
      · obtain rfl : s = r := by omega
        obtain ⟨e, he⟩ : ∃ e, e = mid + m - s := ⟨_, rfl⟩
        have hei : (mid : Int) + m - s = e := by omega
        have HE : Hid (e = mid + m - s) := he
        have y1 : m ≤ e := by omega
        have y2 : e ≤ b := by omega
        have y3 : s ≤ m := by omega
        have y4 : s ≤ mid := by omega
        have y5 : a ≤ s := by omega
        have y6 : mid ≤ e := by omega
        clear he
        go_upto_region 39 with fail
        go_cut [185] (fun x wx => x = .bool (decide (s < m ∧ m < e)) ∧ wp = wx)
        case first =>
          as_aux_lemma =>
          by_cases q1 : s < m
          · have q1i : (s : Int) < m := by omega
            by_cases q2 : m < e
            · have q2i : (m : Int) < e := by omega
              go_wp2_with fail
              go_meet
              case rel => exact ⟨by simp [q1, q2], rfl⟩
            · have q2i : ¬ (m : Int) < e := by omega
              go_wp2_with fail
              go_meet
              case rel => exact ⟨by simp [q2], rfl⟩
          · have q1i : ¬ (s : Int) < m := by omega
            go_wp2_with fail
            go_meet
            case rel => exact ⟨by simp [q1], rfl⟩
        case rest =>
        obtain ⟨rfl, rfl⟩ := hcut
        go_upto_if 185 with fail
        go_cut [] (fun wx => (∃ l1, Row wx B g n cap l1 ∧ Rot l s m e l1) ∧ Same g w wx)
        case first =>
          as_aux_lemma =>
          by_cases qq : s < m ∧ m < e
          · have qb : decide (s < m ∧ m < e) = true := by simpa using qq
            rw [qb]
            go_wp2_with fail
            refine (rotate B g n cap s m e _ l wp hR hn qq.1 qq.2 (by omega)).mono ?_
            rintro e1 w' ⟨rfl, ⟨l1, hR1, hRot⟩, hS1⟩
            go_wp2_with fail
            go_meet
            case rel => exact ⟨⟨l1, hR1, hRot⟩, hS.trans hS1⟩
          · have qb : decide (s < m ∧ m < e) = false := by simpa using qq
            have hnr : Rot l s m e l := Rot.none (by omega) (by omega)
            rw [qb]
            clear qq
            go_wp2_with fail
            go_meet
            case rel => exact ⟨⟨l, hR, hnr⟩, hS⟩
        case rest =>
          obtain ⟨⟨l1, hR1, hRot⟩, hS1⟩ := hcut
          have hH : Halves key a s mid e b l1 := halves hRot y5 y3 y1 y2 (by have := HE.out; omega) HL.out HR.out
            (fun q1 q2 => by
              have z := HA.out (s - 1) (by have := HE.out; rcases hB.b6 with z | z <;> omega) (by omega)
              have e0 := HE.out
              rwa [show mid + m - 1 - (s - 1) = e by omega] at z)
            (fun q1 q2 => by
              have z := HZ.out s (Nat.le_refl _) (by have := HE.out; rcases hB.b7 with z | z <;> omega)
              have e0 := HE.out
              rw [show mid + m - 1 - s = e - 1 by omega] at z
              omega)
          have hP1 : Prm a b l l1 := (hRot.prm y3 y1 (by omega)).wide y5 (by omega) y2 (by omega)
          have hl1 : l1.length = n := hR1.len
          have hV1 := all_of HV.out hP1 (by omega)
          have HH : Hid (Halves key a s mid e b l1) := hH
          have HP1 : Hid (Prm a b l l1) := hP1
          have HV1 : Hid (∀ x ∈ l1, V x) := hV1
          obtain ⟨w1, hw1⟩ : ∃ w1 : World, w1 = wc := ⟨_, rfl⟩
          rw [← hw1] at hR1 hS1 ⊢
          clear hw1 hH hP1 hV1 hRot hR hS HA HZ
          go_upto_region 41 with fail
          go_cut [199] (fun x wx => x = .bool (decide (a < s ∧ s < mid)) ∧ w1 = wx)
          case first =>
            as_aux_lemma =>
            by_cases q1 : a < s
            · have q1i : (a : Int) < s := by omega
              by_cases q2 : s < mid
              · have q2i : (s : Int) < mid := by omega
                go_wp2_with fail
                go_meet
                case rel => exact ⟨by simp [q1, q2], rfl⟩
              · have q2i : ¬ (s : Int) < mid := by omega
                go_wp2_with fail
                go_meet
                case rel => exact ⟨by simp [q2], rfl⟩
            · have q1i : ¬ (a : Int) < s := by omega
              go_wp2_with fail
              go_meet
              case rel => exact ⟨by simp [q1], rfl⟩
          case rest =>
          obtain ⟨rfl, rfl⟩ := hcut
          go_upto_if 199 with fail
          go_cut [] (fun wx => (∃ l2, Row wx B g n cap l2 ∧ Prm a mid l1 l2 ∧ Srd key a mid l2) ∧ Same g w wx)
          case first =>
            as_aux_lemma =>
            by_cases qq : a < s ∧ s < mid
            · have qb : decide (a < s ∧ s < mid) = true := by simpa using qq
              rw [qb]
              go_wp2_with fail
              refine (HI.out a s mid l1 w1 (by omega) qq.1 qq.2 (by omega) (hS0.trans hS1) HV1.out hR1 HH.out.p1 HH.out.p2).mono ?_
              rintro e1 w' ⟨rfl, ⟨l2, hR2, hP2, hD2⟩, hS2⟩
              go_wp2_with fail
              go_meet
              case rel => exact ⟨⟨l2, hR2, hP2, hD2⟩, hS1.trans hS2⟩
            · have qb : decide (a < s ∧ s < mid) = false := by simpa using qq
              have hsd : Srd key a mid l1 := by
                by_cases q1 : a < s
                · exact HH.out.p1.widen (Nat.le_refl _) (by omega)
                · exact HH.out.p2.widen (by omega) (Nat.le_refl _)
              have HSD : Hid (Srd key a mid l1) := hsd
              clear qq hsd
              rw [qb]
              go_wp2_with fail
              go_meet
              case rel => exact ⟨⟨l1, hR1, Prm.refl _ _ _, HSD.out⟩, hS1⟩
          case rest =>
            obtain ⟨⟨l2, hR2, hP2, hD2⟩, hS2⟩ := hcut
            obtain ⟨w2, hw2⟩ : ∃ w2 : World, w2 = wc := ⟨_, rfl⟩
            rw [← hw2] at hR2 hS2 ⊢
            clear hw2
            have hl2 : l2.length = n := hR2.len
            have e3 : Srd key mid e l2 := HH.out.p3.of_out (fun q hq _ => hP2.out q (Or.inr hq))
            have e4 : Srd key e b l2 := HH.out.p4.of_out (fun q hq _ => hP2.out q (Or.inr (by omega)))
            have hV2 := all_of HV1.out hP2 (by omega)
            have fin : ∀ l3, Prm mid b l2 l3 → Srd key mid b l3 → Prm a b l l3 ∧ Srd key a b l3 := fun l3 p3 d3 => by
              have z := join (by omega) (by omega) (by omega) HH.out.cross hP2 hD2 p3 d3
              exact ⟨HP1.out.trans z.2, z.1⟩
            have FIN : Hid (∀ l3, Prm mid b l2 l3 → Srd key mid b l3 → Prm a b l l3 ∧ Srd key a b l3) := fin
            have HV2 : Hid (∀ x ∈ l2, V x) := hV2
            have E3 : Hid (Srd key mid e l2) := e3
            have E4 : Hid (Srd key e b l2) := e4
            clear fin hV2 e3 e4 hP2 hD2
            as_aux_lemma =>
            by_cases q1 : mid < e
            · have q1i : (mid : Int) < e := by omega
              by_cases q2 : e < b
              · have q2i : (e : Int) < b := by omega
                go_wp2_with fail
                refine (HI.out mid e b l2 w2 (by omega) q1 q2 (by omega) (hS0.trans hS2) HV2.out hR2 E3.out E4.out).mono ?_
                rintro e1 w' ⟨rfl, ⟨l3, hR3, hP3, hD3⟩, hS3⟩
                go_wp2
                go_end0
                exact ⟨rfl, ⟨l3, hR3, (FIN.out l3 hP3 hD3).1, (FIN.out l3 hP3 hD3).2⟩, hS2.trans hS3⟩
              · have q2i : ¬ (e : Int) < b := by omega
                have z := FIN.out l2 (Prm.refl _ _ _) (E3.out.widen (Nat.le_refl _) (by omega))
                have Z : Hid _ := z
                clear z
                go_wp2
                go_end0
                exact ⟨rfl, ⟨l2, hR2, Z.out.1, Z.out.2⟩, hS2⟩
            · have q1i : ¬ (mid : Int) < e := by omega
              have z := FIN.out l2 (Prm.refl _ _ _) (E4.out.widen (by omega) (Nat.le_refl _))
              have Z : Hid _ := z
              clear z
              go_wp2
              go_end0
              exact ⟨rfl, ⟨l2, hR2, Z.out.1, Z.out.2⟩, hS2⟩

theorem sym (fb : Nat) (B g n cap : Nat) (key : Int → Int) (V : Int → Prop) (w0 : World) (hC : Cmp fb g w0 key V) (hn : n ≤ 100000) : ∀ d, SymAt fb B g n cap key V w0 d := by
  intro d
  induction d with
  | zero => intro a m b l w hd h1 h2; omega
  | succ d ih =>
    intro a m b l w hd h1 h2 h3 hS0 hV hR hL hR0
    by_cases c1 : m = a + 1
    · exact symLeft fb B g n cap a m b c1 key V l w0 w hC hS0 hV hR hn h2 h3 hR0
    · by_cases c2 : b = m + 1
      · exact symRight fb B g n cap a m b c2 key V l w0 w hC hS0 hV hR hn (by omega) h3 hL
      · exact symGen fb B g n cap d a m b _ rfl key V l w0 w hC ih hd hS0 hV hR hn (by omega) (by omega) h3 hL hR0
end Go.Proofs.YbulkkrgDoor.Srt
