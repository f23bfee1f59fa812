/-
  The walk of 'LawS0578BYields' (3).
-/
import Derived.Test.YbulkkygHeld
import Derived.Deep.DeepCutAuto
import Derived.OpenShut
namespace Go.Proofs.Ybulkkyg.Ny
open Go.RowKit
set_option linter.unusedVariables false

/-- WHAT THE WALK IS TOLD OF A SLICE OF INTEGERS THAT CAME IN (the shell's own words). -/
def IsRow (k : IntKind) (w : World) (a : Option Addr) (len cap : Nat) (zs : List Int) : Prop :=
  (a = none ∧ len = 0 ∧ cap = 0 ∧ zs = []) ∨
  ∃ x, a = some x ∧ len ≤ cap ∧ cap ≤ maxLen ∧ zs.length = cap ∧ (∀ i, i < zs.length → w.cell? (x.add i) = some (.int k (zs.getD i 0))) ∧ ∀ n ∈ zs, (Lit.int k n).wf = true

/-- what is read of the times that came in -/
def Arg (w : World) (a : Option Addr) (len : Nat) (tt : Nat → Int) : Prop :=
  (∀ j, j < len → ∃ b off, a = some ⟨b, off, none⟩ ∧ w.cell? ⟨b, off + j, none⟩ = some (.int .i64 (tt j))) ∧ ∀ j, len ≤ j → tt j = 0

theorem Cols.lt {w : World} {N M k i : Nat} {tt : Nat → Int} (h : Cols w N M k i tt) : N < w.heap.size ∧ M < w.heap.size := by
  obtain ⟨_, ⟨c, h1, _⟩, ⟨d, k1, _⟩⟩ := h
  exact ⟨(Array.getElem?_eq_some_iff.1 h1).1, (Array.getElem?_eq_some_iff.1 k1).1⟩

theorem cell_set_other {w : World} {g b j o : Nat} {u v : Value} (h : w.cell? ⟨b, o, none⟩ = some v) (hne : b ≠ g) : (w.setCell ⟨g, j, none⟩ u).cell? ⟨b, o, none⟩ = some v := by
  rw [← h]; exact World.cell?_of_block (heap_setCell_other w ⟨g, j, none⟩ b u hne)

theorem got0 (w0 : World) (cur : Array Value) (lm : Int) (tt : Nat → Int) :
    Got ((((w0.alloc (.cells #[.int .i64 lm] 3)).alloc (.cells #[.slice none 0 0] 24)).alloc (.cells #[.slice none 0 0] 22)).alloc (.cells cur 31)) w0.heap.size w0.heap.size (w0.heap.size + 1) (w0.heap.size + 1 + 1) (w0.heap.size + 1 + 1 + 1) cur lm 0 0 tt (.slice none 0 0) (.slice none 0 0) := by
  have e : ∀ (a b c d : Obj) (k : Nat), ((((w0.alloc a).alloc b).alloc c).alloc d).heap[k]? = (((w0.heap.push a).push b).push c |>.push d)[k]? := fun _ _ _ _ _ => rfl
  refine ⟨?_, ?_, ?_, ?_, World.ownsRow_nil _ _ _ _, World.ownsRow_nil _ _ _ _, by simp; omega⟩
  · rw [e]; simp only [Array.getElem?_push, Array.size_push]; rw [if_neg (by omega), if_neg (by omega), if_neg (by omega), if_pos trivial]
  · rw [e]; simp only [Array.getElem?_push, Array.size_push]; rw [if_neg (by omega), if_neg (by omega), if_pos trivial]
  · rw [e]; simp only [Array.getElem?_push, Array.size_push]; rw [if_neg (by omega), if_pos trivial]
  · rw [e]; simp only [Array.getElem?_push, Array.size_push]; rw [if_pos trivial]

theorem below4 (w0 : World) (a b c d : Obj) : Below w0.heap.size w0 ((((w0.alloc a).alloc b).alloc c).alloc d) :=
  ((((Below.refl _ _).alloc (Nat.le_refl _) _).alloc (by simp) _).alloc (by simp; omega) _).alloc (by simp; omega) _

set_option maxHeartbeats 3200000 in
set_option maxRecDepth 100000 in
theorem walk (a : Option Addr) (len cap : Nat) (tt : Nat → Int) (sel stop : Int) (w : World) (hA : Arg w a len tt) (hl : len ≤ 676) (s0 : 0 ≤ sel) (s1 : sel ≤ 255) (t0 : 0 ≤ stop) (t1 : stop ≤ 65535) :
    Calls Yba.prog 3 #[.slice a len cap, .int .u8 sel, .int .u16 stop] w fun e w' => e = .returned (.bool true) ∧ Below w.heap.size w w' := by
  obtain ⟨i2, hi2, hz20, hz21, hz22⟩ := info_parts info2
  obtain ⟨i9, hi9, hz90, hz91, hz92⟩ := info_parts info9
  have HA : Hid (Arg w a len tt) := hA
  clear hA
  have h1 : ¬ (1024 : Int) < (len : Int) := by omega
  go_enter Yba.func3, Yba.ntmps3
  go_upto_if 25 with fail
  go_cut [7] (fun kv wc => ∃ k : Nat, kv = .int .i64 k ∧ 1 ≤ k ∧ k ≤ 676 ∧ Hid (k = len ∨ len = 0) ∧ len ≤ k ∧ w = wc)
  case first =>
    by_cases h0 : len = 0
    · subst h0
      go_wp2_with fail
      go_meet
      case rel => exact ⟨1, rfl, by omega, by omega, by simp [Hid], by omega, rfl⟩
    · have h0b : ((len : Int) == 0) = false := by rw [beq_eq_false_iff_ne]; omega
      go_wp2_with fail
      go_meet
      case rel => exact ⟨len, rfl, by omega, by omega, Or.inl rfl, by omega, rfl⟩
  case rest =>
    obtain ⟨k, rfl, hk1, hk, HK, hlk, rfl⟩ := hcut
    have hki : ¬ (676 : Int) < (k : Int) := by omega
    go_wp2_with (first
      | (at_make; refine wpList_make_full _ rfl (.tmp 28) (.tmp 28) 24 rfl w.heap.size 9 i9 (.string ⟨#[]⟩) 1 Yba.underlying24 hi9 hz90 hz91 .i64 .i64 k k k rfl rfl rfl rfl (by rw [hz92]; omega) (by unfold maxLen; omega) (Nat.le_refl _) ?_; intro w1 ho1 hg1; have hs1 : w.heap.size < w1.heap.size := (ho1.lt _ rfl).2)
      | (at_make; refine wpList_make_full _ rfl (.tmp 30) (.tmp 30) 22 rfl w.heap.size 2 i2 (.int .i64 0) 1 Yba.underlying22 hi2 hz20 hz21 .i64 .i64 k k k rfl rfl rfl rfl (by rw [hz22]; omega) (by unfold maxLen; omega) (by omega) ?_; intro w2 ho2 hg2))
    have hC := cols_made tt ho1 hg1 ho2 hg2 hs1
    have hb2 : Below w.heap.size w w2 := ((Below.refl _ _).grown hg1 (Nat.le_refl _) (fun k hk => by cases hk)).grown hg2 (by omega) (fun k hk => by cases hk)
    have hNM : w.heap.size ≠ w1.heap.size := Nat.ne_of_lt hs1
    have hMw : w.heap.size ≤ w1.heap.size := by omega
    generalize w1.heap.size = M at *
    clear ho1 ho2 hg1 hg2 w1
    go_wp2
    go_loopw [10] (fun i wr => ∃ j : Nat, i = .int .i64 j ∧ j ≤ k ∧ Cols wr w.heap.size M k j tt ∧ Below w.heap.size w wr) (fun i _ => k - (intOf i).toNat)
    case atStart => exact ⟨0, rfl, Nat.zero_le _, hC, hb2⟩
    case round =>
      obtain ⟨j, rfl, hj, hCr, hbr⟩ := hrel
      by_cases hlt : j < k
      · have hlti : (j : Int) < k := by omega
        obtain ⟨⟨v1, c1⟩, f1⟩ := hCr.cellN j hlt
        obtain ⟨⟨v2, c2⟩, f2⟩ := hCr.cellT j hlt
        obtain ⟨hN1, hM1⟩ := hCr.lt
        have c2' := cell_set_other (j := j) (u := .string (nm j)) c2 hNM.symm
        by_cases hjl : j < len
        · have hjli : (j : Int) < len := by omega
          have hstep := (hCr.step hlt).alloc (.cells #[.int .u8 (97 + (j : Int) / 26), .int .u8 (97 + (j : Int) % 26)] 5)
          obtain ⟨b, off, rfl, hc⟩ := HA.out.1 j hjl
          have hbw := World.block_lt_of_cell? w ⟨b, off + j, none⟩ hc
          have hcr : wr.cell? ⟨b, off + j, none⟩ = some (.int .i64 (tt j)) := by
            rw [hbr.cell (p := ⟨b, off + j, none⟩) hbw]; exact hc
          have hbw' : b < w.heap.size := hbw
          have hcr' := cell_set_other (g := w.heap.size) (j := j) (u := .string (nm j)) hcr (by omega)
          have hb1 : b < wr.heap.size := by omega
          have hbs := ((hbr.setCell (p := ⟨w.heap.size, j, none⟩) (Nat.le_refl _) (.string (nm j))).setCell (p := ⟨M, j, none⟩) hMw (.int .i64 (tt j))).alloc (by have := hbr.size; simp [World.setCell]; omega) (.cells #[.int .u8 (97 + (j : Int) / 26), .int .u8 (97 + (j : Int) % 26)] 5)
          clear hc hbw
          go_wp2_with (go_at_call 4; refine (name j _ (by omega)).mono ?_; rintro e w' ⟨rfl, rfl⟩)
          go_roundw
          case rel => exact ⟨j + 1, by go_num, by omega, hstep, hbs⟩
          case measure => simp [intOf]; omega
        · have hjli : ¬ (j : Int) < len := by omega
          have hstep := (hCr.step0 hlt (HA.out.2 j (by omega))).alloc (.cells #[.int .u8 (97 + (j : Int) / 26), .int .u8 (97 + (j : Int) % 26)] 5)
          have hbs := (hbr.setCell (p := ⟨w.heap.size, j, none⟩) (Nat.le_refl _) (.string (nm j))).alloc (by have := hbr.size; simp [World.setCell]; omega) (.cells #[.int .u8 (97 + (j : Int) / 26), .int .u8 (97 + (j : Int) % 26)] 5)
          go_wp2_with (go_at_call 4; refine (name j _ (by omega)).mono ?_; rintro e w' ⟨rfl, rfl⟩)
          go_roundw
          case rel => exact ⟨j + 1, by go_num, by omega, hstep, hbs⟩
          case measure => simp [intOf]; omega
      · obtain rfl : j = k := by omega
        clear hlt hj hC hb2
        have hj0 : (0 : Int) < j := by omega
        obtain ⟨sf, hsf, hsk⟩ : ∃ sf : Nat, sel % (j : Int) = sf ∧ sf < j := ⟨(sel % (j : Int)).toNat, by have := Int.emod_nonneg sel (show (j : Int) ≠ 0 by omega); omega, by have := Int.emod_lt_of_pos sel hj0; have := Int.emod_nonneg sel (show (j : Int) ≠ 0 by omega); omega⟩
        have hcs := hCr.name sf hsk
        have hsi : (sf : Int) < j := by omega
        obtain ⟨hN1, hM1⟩ := hCr.lt
        go_upto_region 17 with fail
        go_cut [12] (fun p wx => p = .pointer (some ⟨wr.heap.size, 0, none⟩) ∧ wx = wr.alloc (.cells (clock0 (nm sf)) 31))
        case first =>
          go_wp2_with (first
            | (refine wpList_build31 rfl (.tmp 60) _ (nm sf) rfl rfl rfl ?_)
            | (refine wpList_alloc31 rfl rfl ?_)
            | (refine wpList_store31 rfl (.tmp 12) (.tmp 61) (nm sf) rfl rfl rfl ?_))
          go_meet
          case rel => exact ⟨rfl, rfl⟩
        case rest =>
          obtain ⟨rfl, rfl⟩ := hcut
          have hnn : ∀ q, q < j → wr.cell? ⟨w.heap.size, q, none⟩ = some (.string (nm q)) := fun q hq => hCr.name q hq
          have hnt : ∀ q, q < j → wr.cell? ⟨M, q, none⟩ = some (.int .i64 (tt q)) := fun q hq => hCr.time q hq
          go_wp2_with fail
          refine (hold_any (nm sf) w.heap.size M j tt wr hk1 hk hnn hnt).mono ?_
          rintro e w3 ⟨rfl, ⟨cur, hH⟩, hb3⟩
          have hb4 : Below w.heap.size w w3 := hbr.trans (hb3.mono hbr.size)
          have hs31 : (Yba.prog.info? 31).map (·.size) = some cur.size := by rw [hH.size]; exact size31
          clear hnn hnt hcs hCr hb3
          go_upto_region 20 with fail
          go_cut [74] (fun p wx => p = .bool false ∧ wx = w3.alloc (.cells cur 31))
          case first =>
            go_wp2_with (first
              | (go_at_call 6; refine (len6 j cur _ hH.size hH.two).mono ?_; rintro e w' ⟨rfl, rfl⟩)
              | (refine wpList_load_row rfl 31 (.tmp 12) rfl wr.heap.size rfl 31 cur (0, 0) _ hH.row Yba.underlying31 rfl hs31 ?_))
            go_meet
            case rel => exact ⟨by simp, rfl⟩
          case rest =>
            obtain ⟨rfl, rfl⟩ := hcut
            obtain ⟨lm, hlm⟩ : ∃ lm : Nat, stop % ((j : Int) + 2) = lm := ⟨(stop % ((j : Int) + 2)).toNat, by have := Int.emod_nonneg stop (show (j : Int) + 2 ≠ 0 by omega); omega⟩
            have hs3 : (w3.alloc (.cells cur 31)).heap.size = w3.heap.size + 1 := by simp
            have hHr := (((hH.alloc (.cells cur 31)).alloc (.cells #[.int .i64 lm] 3)).alloc (.cells #[.slice none 0 0] 24)).alloc (.cells #[.slice none 0 0] 22)
            go_upto_region 25 with fail
            obtain ⟨w0, hw0⟩ : ∃ w0, w0 = w3.alloc (.cells cur 31) := ⟨_, rfl⟩
            rw [← hw0] at hHr ⊢
            rw [← hs3, ← hw0]
            have hH0 : Held w0 wr.heap.size j w.heap.size M tt cur := by rw [hw0]; exact hH.alloc _
            have hb0 : Below w.heap.size w w0 := by rw [hw0]; exact hb4.alloc hb4.size _
            clear hw0 hH hb4 hs3
            go_cut [] (fun wx => (∃ vN vT, Got wx w0.heap.size w0.heap.size (w0.heap.size + 1) (w0.heap.size + 1 + 1) (w0.heap.size + 1 + 1 + 1) cur lm (want j lm) (want j lm) tt vN vT) ∧ Below w0.heap.size w0 wx)
            case first =>
              have hit := iter_any w0.heap.size w0.heap.size (w0.heap.size + 1) (w0.heap.size + 1 + 1) (w0.heap.size + 1 + 1 + 1) wr.heap.size j w.heap.size M cur lm tt (.slice none 0 0) (.slice none 0 0) w0 _ hH0 (below4 w0 _ _ _ _) (Nat.le_refl _) (got0 w0 cur lm tt) hk1 hk (by omega) (by omega)
              go_wp2_with (first
                | (go_at_call 7; refine (all7 cur _ hH0.size).mono ?_; rintro e w' ⟨rfl, rfl⟩)
                | (go_at_call 11; refine hit.mono ?_; rintro e w' ⟨rfl, hG6, hb6⟩)
                | (refine wpList_load_row rfl 31 (.tmp 12) rfl wr.heap.size rfl 31 cur (0, 0) _ hHr.row Yba.underlying31 rfl hs31 ?_))
              go_meet
              case rel => exact ⟨hG6, (below4 w0 _ _ _ _).trans hb6⟩
            case rest =>
              obtain ⟨⟨vN, vT, hG⟩, hb6⟩ := hcut
              obtain ⟨w6, hw6⟩ : ∃ w6 : World, w6 = wc := ⟨_, rfl⟩
              rw [← hw6] at hG hb6 ⊢
              clear hw6
              obtain ⟨n, hn⟩ : ∃ n, n = want j lm := ⟨_, rfl⟩
              rw [← hn] at hG
              have HN : Hid (n = want j lm) := hn
              clear hn
              have hn1 : 1 ≤ n := by rw [HN.out]; unfold want; omega
              have hnk : n ≤ j := by rw [HN.out]; unfold want; omega
              obtain ⟨gN, kN, hvN, _, hkN⟩ := own_shape hG.on (by omega)
              obtain ⟨gT, kT, hvT, _, hkT⟩ := own_shape hG.ot (by omega)
              rw [hvN, hvT] at hG
              have cL := cell_of_one hG.hl
              have cN := cell_of_one hG.hn
              have cT := cell_of_one hG.ht
              have cNq : ∀ q, q < n → w6.cell? ⟨gN, q, none⟩ = some (.string (nm q)) := fun q hq => by rw [hG.on.cellAt q (by omega), col_at n q hq]
              have cTq : ∀ q, q < n → w6.cell? ⟨gT, q, none⟩ = some (.int .i64 (tt q)) := fun q hq => by rw [hG.ot.cellAt q (by omega), tcol_at n q tt hq]
              have hb7 : Below w.heap.size w w6 := hb0.trans (hb6.mono hb0.size)
              clear hG hH0 hb0 hb6 hHr hvN hvT hs31
              have HQN : Hid (∀ q, q < n → w6.cell? ⟨gN, q, none⟩ = some (.string (nm q))) := cNq
              have HQT : Hid (∀ q, q < n → w6.cell? ⟨gT, q, none⟩ = some (.int .i64 (tt q))) := cTq
              clear cNq cTq
              generalize w0.heap.size = B at *
              go_upto_if 86 with fail
              go_cut [16] (fun x wx => x = .int .i64 ((max lm 1 : Nat) : Int) ∧ w6 = wx)
              case first =>
                by_cases h0 : lm = 0
                · subst h0
                  go_wp2_with fail
                  go_meet
                  case rel => exact ⟨rfl, rfl⟩
                · have h0i : ¬ (lm : Int) < 1 := by omega
                  have E1 : Hid (max lm 1 = lm) := by show max lm 1 = lm; omega
                  go_wp2_with fail
                  go_meet
                  case rel => exact ⟨by rw [E1.out], rfl⟩
              case rest =>
                obtain ⟨rfl, rfl⟩ := hcut
                obtain ⟨m1, hm1⟩ : ∃ m1 : Nat, m1 = max lm 1 := ⟨_, rfl⟩
                rw [← hm1]
                have HM : Hid (m1 = max lm 1) := hm1
                clear hm1
                go_upto_if 89 with fail
                go_cut [16] (fun x wx => x = .int .i64 (n : Int) ∧ w6 = wx)
                case first =>
                  by_cases h0 : (j : Int) < (m1 : Int)
                  · have e1 : n = j := by have := HM.out; rw [HN.out]; unfold want; simp only [Int.toNat_natCast]; omega
                    go_wp2_with fail
                    go_meet
                    case rel => exact ⟨by rw [e1], rfl⟩
                  · have e1 : n = m1 := by have := HM.out; rw [HN.out]; unfold want; simp only [Int.toNat_natCast]; omega
                    have E1 : Hid (n = m1) := e1
                    clear e1
                    go_wp2_with fail
                    go_meet
                    case rel => exact ⟨by rw [E1.out], rfl⟩
                case rest =>
                  obtain ⟨rfl, rfl⟩ := hcut
                  have hBn := World.block_lt_of_cell? w6 ⟨B + 1, 0, none⟩ cN
                  have hBt := World.block_lt_of_cell? w6 ⟨B + 1 + 1, 0, none⟩ cT
                  have HBn : Hid (w6.cell? ⟨B + 1, 0, none⟩ = some (.slice (some ⟨gN, 0, none⟩) n kN)) := cN
                  have HBt : Hid (w6.cell? ⟨B + 1 + 1, 0, none⟩ = some (.slice (some ⟨gT, 0, none⟩) n kT)) := cT
                  go_wp2
                  clear cL cN cT hBn hBt
                  go_loopw [17] (fun i wx => ∃ q : Nat, i = .int .i64 q ∧ q ≤ n ∧ Below w6.heap.size w6 wx) (fun i _ => n - (intOf i).toNat)
                  case atStart => exact ⟨0, rfl, Nat.zero_le _, Below.refl _ _⟩
                  case round =>
                    obtain ⟨q, rfl, hq, hbq⟩ := hrel
                    obtain ⟨wq, hwq⟩ : ∃ wq : World, wq = wr := ⟨_, rfl⟩
                    rw [← hwq] at hbq ⊢
                    clear hwq
                    by_cases hlt : q < n
                    · have hlti : (q : Int) < n := by omega
                      have c1 := below_cell hbq (Nat.le_refl _) HBn.out
                      have c2 := below_cell hbq (Nat.le_refl _) HBt.out
                      have c3 := below_cell hbq (Nat.le_refl _) (HQN.out q hlt)
                      have c4 := below_cell hbq (Nat.le_refl _) (HQT.out q hlt)
                      have l1 : B + 1 < wq.heap.size := World.block_lt_of_cell? wq ⟨B + 1, 0, none⟩ c1
                      have l2 : B + 1 + 1 < wq.heap.size := World.block_lt_of_cell? wq ⟨B + 1 + 1, 0, none⟩ c2
                      have l3 : gN < wq.heap.size := World.block_lt_of_cell? wq ⟨gN, q, none⟩ c3
                      have l4 : gT < wq.heap.size := World.block_lt_of_cell? wq ⟨gT, q, none⟩ c4
                      go_upto_if 109 with fail
                      go_cut [18] (fun x wx => x = .int .i64 (tt q) ∧ wq = wx)
                      case first =>
                        by_cases hql : q < len
                        · have hqli : (q : Int) < len := by omega
                          obtain ⟨b, off, rfl, hc⟩ := HA.out.1 q hql
                          have hcr : wq.cell? ⟨b, off + q, none⟩ = some (.int .i64 (tt q)) := by
                            have hb8 := hb7.trans (hbq.mono hb7.size)
                            rw [hb8.cell (p := ⟨b, off + q, none⟩) (World.block_lt_of_cell? w ⟨b, off + q, none⟩ hc)]; exact hc
                          clear hc
                          go_wp2_with fail
                          go_meet
                          case rel => exact ⟨rfl, rfl⟩
                        · have hqli : ¬ (q : Int) < len := by omega
                          have E0 : Hid (tt q = 0) := HA.out.2 q (by omega)
                          go_wp2_with fail
                          go_meet
                          case rel => exact ⟨by rw [E0.out], rfl⟩
                      case rest =>
                        obtain ⟨rfl, rfl⟩ := hcut
                        go_upto_region 39 with fail
                        go_cut [128] (fun x wx => x = .bool false ∧ Below wq.heap.size wq wx)
                        case first =>
                          go_region_with (go_at_call 4; refine (name q _ (by omega)).mono ?_; rintro e w' ⟨rfl, rfl⟩)
                          all_goals go_wp2_with fail
                          all_goals
                            go_meet
                            case rel => exact ⟨by first | rfl | simp, by repeat (first | exact Below.refl _ _ | exact (Below.refl _ _).alloc (Nat.le_refl _) _ | refine Below.drew ?_)⟩
                        case rest =>
                          obtain ⟨rfl, hb9⟩ := hcut
                          go_wp2
                          go_roundw
                          case rel => exact ⟨q + 1, by go_num, by omega, hbq.trans (hb9.mono hbq.size)⟩
                          case measure => simp [intOf]; omega
                    · go_wp2
                      go_ret
                      exact ⟨rfl, hb7.trans (hbq.mono hb7.size)⟩
end Go.Proofs.Ybulkkyg.Ny
