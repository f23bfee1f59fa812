/-
  'LawS0565ALong' (4): the bytes are drawn from three letters.
-/
import Derived.Test.YbulkkrgIxShort
namespace Go.Proofs.Ybulkkrg.Ix
open Go.RowKit Go.Proofs.Ybulkkrg.Srt
set_option linter.unusedVariables false

/-- a row of bytes in memory -/
structure Bytes (w : World) (B g n : Nat) (l : List Int) : Prop where
  own : w.ownsRow B 5 1 (.slice (some ⟨g, 0, none⟩) n n) n (eb l)
  len : l.length = n
  bd : ∀ x ∈ l, 0 ≤ x ∧ x ≤ 255

theorem Bytes.cell {w : World} {B g n : Nat} {l : List Int} (h : Bytes w B g n l) (j : Nat) (hj : j < n) : w.cell? ⟨g, j, none⟩ = some (.int .u8 (l.getD j 0)) := by
  rw [h.own.cellAt j (by omega)]
  have hl : j < l.length := by rw [h.len]; exact hj
  simp [eb, hl]
theorem Bytes.set {w : World} {B g n : Nat} {l : List Int} (h : Bytes w B g n l) (j : Nat) (x : Int) (hx : 0 ≤ x ∧ x ≤ 255) : Bytes (w.setCell ⟨g, j, none⟩ (.int .u8 x)) B g n (l.set j x) := by
  have h1 := h.own.stored j (.int .u8 x)
  refine ⟨?_, by rw [List.length_set]; exact h.len, fun y hy => ?_⟩
  · have := h1.1
    have e : (eb l).set j (.int .u8 x) = eb (l.set j x) := by simp [eb, List.map_set]
    rwa [e] at this
  · rcases List.mem_or_eq_of_mem_set hy with h' | h'
    · exact h.bd y h'
    · rw [h']; exact hx

set_option maxHeartbeats 1600000 in
set_option maxRecDepth 100000 in
theorem long (a0 : Option Addr) (len0 cap0 : Nat) (z0 : List Int) (a1 : Int) (a2 : Int) (a3 : Int) (a4 : Int) (a5 : Int) (a6 : Option Addr) (len6 cap6 : Nat) (z6 : List Int) (w : World) (w0 : IsR .u8 w a0 len0 cap0 z0) (w1 : (Lit.int .u8 a1).wf = true) (w2 : (Lit.int .u8 a2).wf = true) (w3 : (Lit.int .u8 a3).wf = true) (w4 : (Lit.int .u16 a4).wf = true) (w5 : (Lit.int .i64 a5).wf = true) (w6 : IsR .i64 w a6 len6 cap6 z6) :
    Calls Yba.prog 4 #[.slice a0 len0 cap0, .int .u8 a1, .int .u8 a2, .int .u8 a3, .int .u16 a4, .int .i64 a5, .slice a6 len6 cap6] w fun e w' => e = .returned (.bool true) ∧ Below w.heap.size w w' := by
  obtain ⟨i5, hi5, hz50, hz51, hz52⟩ := info_parts info5
  obtain ⟨n1, rfl⟩ : ∃ n : Nat, a1 = n := ⟨a1.toNat, by have := u8_bd w1; omega⟩
  obtain ⟨n2, rfl⟩ : ∃ n : Nat, a2 = n := ⟨a2.toNat, by have := u8_bd w2; omega⟩
  obtain ⟨n3, rfl⟩ : ∃ n : Nat, a3 = n := ⟨a3.toNat, by have := u8_bd w3; omega⟩
  obtain ⟨n4, rfl⟩ : ∃ n : Nat, a4 = n := ⟨a4.toNat, by have := u16_bd w4; omega⟩
  have b1 := u8_bd w1
  have b2 := u8_bd w2
  have b3 := u8_bd w3
  have b4 := u16_bd w4
  have b5 := i64_bd w5
  have hlen0 : len0 ≤ maxLen := by
    rcases w0 with ⟨_, rfl, _⟩ | ⟨x, _, h1, h2, _⟩
    · unfold maxLen; omega
    · omega
  have hlen6 : len6 ≤ maxLen := by
    rcases w6 with ⟨_, rfl, _⟩ | ⟨x, _, h1, h2, _⟩
    · unfold maxLen; omega
    · omega
  unfold maxLen at hlen0 hlen6
  clear w1 w2 w3 w4 w5
  have W0 : Hid (IsR .u8 w a0 len0 cap0 z0) := w0
  have W6 : Hid (IsR .i64 w a6 len6 cap6 z6) := w6
  clear w0 w6
  by_cases h0 : 1024 < len0
  · have h0i : (1024 : Int) < len0 := by omega
    go_enter Yba.func4, Yba.ntmps4
    go_wp2
    go_ret
    exact ⟨rfl, Below.refl _ _⟩
  by_cases h6 : 1024 < len6
  · have h0i : ¬ (1024 : Int) < len0 := by omega
    have h6i : (1024 : Int) < len6 := by omega
    go_enter Yba.func4, Yba.ntmps4
    go_wp2
    go_ret
    exact ⟨rfl, Below.refl _ _⟩
  have h0i : ¬ (1024 : Int) < len0 := by omega
  have h6i : ¬ (1024 : Int) < len6 := by omega
  obtain ⟨n, hn, hn0, hn1⟩ : ∃ n : Nat, 140 + (n1 : Int) % 110 = n ∧ 140 ≤ n ∧ n ≤ 249 := ⟨140 + n1 % 110, by omega, by omega, by omega⟩
  go_enter Yba.func4, Yba.ntmps4
  go_wp2_with (at_make; refine wpList_make_full _ rfl _ _ 22 rfl w.heap.size 5 i5 (.int .u8 0) 1 Yba.underlying22 hi5 hz50 hz51 .i64 .i64 n n n rfl rfl rfl rfl ?c1 ?c2 ?c3 ?_)
  case c1 => omega
  case c2 => unfold maxLen; omega
  intro w1 hown hgrow
  have hB0 : Bytes w1 w.heap.size w.heap.size n (List.replicate n 0) := by
    refine ⟨?_, by simp, by simp⟩
    have e : eb (List.replicate n 0) = (madeCells #[Value.int .u8 0] n).toList := by
      rw [toList_madeCells_one, eb, List.map_replicate]
    rw [e]; exact hown
  have hb1 : Below w.heap.size w w1 := (Below.refl _ _).grown hgrow (Nat.le_refl _) (fun k hk => by cases hk)
  clear hown hgrow hn
  go_wp2
  go_loopw [17] (fun iv wr => ∃ (i : Nat) (l : List Int), iv = .int .i64 i ∧ i ≤ n ∧ Bytes wr w.heap.size w.heap.size n l ∧ Below w.heap.size w wr) (fun iv _ => n - (intOf iv).toNat)
  case atStart => exact ⟨0, _, rfl, by omega, hB0, hb1⟩
  case round =>
    obtain ⟨i, l, rfl, hin, hB, hbr⟩ := hrel
    obtain ⟨wo, hwo⟩ : ∃ wo : World, wo = wr := ⟨_, rfl⟩
    rw [← hwo] at hB hbr ⊢
    clear hwo
    by_cases hlt : i < n
    · as_aux_lemma =>
      have hlti : (i : Int) < n := by omega
      have hcell := hB.cell i hlt
      have hfree : wo.frozen? ⟨w.heap.size, i, none⟩ = false := hB.own.frozenAt i
      by_cases hl0 : 0 < len0
      · have hl0i : (0 : Int) < len0 := by omega
        obtain ⟨b, o, hab, hc, hwf⟩ : ∃ b o, a0 = some ⟨b, o, none⟩ ∧ (∀ j, j < len0 → w.cell? ⟨b, o + j, none⟩ = some (.int .u8 (z0.getD j 0))) ∧ ∀ j, j < len0 → 0 ≤ z0.getD j 0 ∧ z0.getD j 0 ≤ 255 := by
          rcases W0.out with ⟨_, h, _⟩ | ⟨x, rfl, q1, q2, q3, q4, q5⟩
          · omega
          · obtain ⟨b, o, rfl, hc⟩ := Go.ints_at q4 (by omega)
            refine ⟨b, o, rfl, fun j hj => hc j (by omega), fun j hj => u8_bd (q5 _ ?_)⟩
            rw [List.getD_eq_getElem?_getD, List.getElem?_eq_getElem (by omega)]
            exact List.getElem_mem _
        subst hab
        obtain ⟨q, hq⟩ : ∃ q, q = i % len0 := ⟨_, rfl⟩
        have hql : q < len0 := by rw [hq]; exact Nat.mod_lt _ hl0
        have hqi : Int.tmod (i : Int) len0 = q := by rw [hq, Int.tmod_eq_emod_of_nonneg (by omega)]; simp
        have hcq : wo.cell? ⟨b, o + q, none⟩ = some (.int .u8 (z0.getD q 0)) := by rw [hbr.cell (World.block_lt_of_cell? _ _ (hc q hql))]; exact hc q hql
        have hzq := hwf q hql
        obtain ⟨z, hz⟩ : ∃ z, z = z0.getD q 0 := ⟨_, rfl⟩
        rw [← hz] at hcq hzq
        obtain ⟨hz0, hz1⟩ := hzq
        clear hz hq hc hwf
        go_wp2
        go_roundw
        case rel => exact ⟨i + 1, _, by go_num, by omega, hB.set i _ (by omega), hbr.setCell (Nat.le_refl _) _⟩
        case measure => simp [intOf]; omega
      · have hl0i : ¬ (0 : Int) < len0 := by omega
        go_wp2
        go_roundw
        case rel => exact ⟨i + 1, _, by go_num, by omega, hB.set i _ (by omega), hbr.setCell (Nat.le_refl _) _⟩
        case measure => simp [intOf]; omega
    · as_aux_lemma =>
      obtain rfl : i = n := by omega
      have hlti : ¬ (i : Int) < i := by omega
      obtain ⟨tp, htop, htp⟩ : ∃ tp : Nat, ((n2 : Int) % 33) = (tp : Int) ∧ tp ≤ 32 := ⟨n2 % 33, by omega, by omega⟩
      go_wp2_with fail
      have hz : ∀ j, 0 ≤ l.getD j 0 ∧ l.getD j 0 ≤ 255 := by
        intro j
        by_cases hj : j < l.length
        · refine hB.bd _ ?_
          rw [List.getD_eq_getElem?_getD, List.getElem?_eq_getElem hj]
          exact List.getElem_mem _
        · rw [List.getD_eq_getElem?_getD, List.getElem?_eq_none (by omega)]; simp
      refine (run _ (some ⟨w.heap.size, 0, none⟩) w.heap.size i i 1 tp n3 false 0 n4 a5 a6 len6 cap6 _ wo (by omega) (by omega) (by omega) (by omega) htp (by omega) hz (fun _ => ⟨rfl, fun j hj => hB.cell j hj⟩) (by omega) (by omega) (by omega) b5.1 b5.2 (W6.out.dst.below hbr) (by omega)).mono ?_
      rintro e2 w2 ⟨rfl, hb2⟩
      clear hz htop
      go_wp2
      go_ret
      exact ⟨rfl, hbr.trans (hb2.mono hbr.size)⟩
end Go.Proofs.Ybulkkrg.Ix
