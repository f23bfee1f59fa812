/-
  The walk of 'zzs0578cdigits' (7): it hands back a slice of its own that holds u's decimal numeral.
-/
import Derived.Test.YbulkkygDoorAppU
import Derived.Test.YbulkkygDoorDigPlain
namespace Go.Proofs.YbulkkygDoor.Dig
open Go.RowKit
open Go.Lib (decDigits nDigits byteCells dg byteCells_length decDigits_length)

theorem own_shape {w : World} {B : Nat} {e : TypeId} {v : Value} {n : Nat} {xs : List Value} (h : w.ownsRow B e 1 v n xs) (hn : 0 < n) : ∃ g cap, v = .slice (some ⟨g, 0, none⟩) n cap ∧ B ≤ g ∧ n ≤ cap := by
  rcases h.2 with ⟨_, h0⟩ | ⟨g, cap, cur, hv, hb, _, hc, _⟩
  · omega
  · exact ⟨g, cap, hv, hb, hc⟩

theorem val_u64 (u k : Nat) : Value.int .u64 ((u / 10 ^ k : Nat) / 10 : Int) = .int .u64 ((u / 10 ^ (k + 1) : Nat) : Int) := by
  rw [Nat.pow_succ, ← Nat.div_div_eq_div_mul]; simp

/-- one digit more -/
theorem cell_digit (u k : Nat) : Value.int .u8 (48 + ((u / 10 ^ k : Nat) : Int) % 10) = .int .u8 ((dg u k).toNat : Int) := by
  rw [dg_toNat]; simp

theorem pow20 (u j : Nat) (h : 10 ^ j ≤ u) (hu : u < 18446744073709551616) : j < 20 := by
  rcases Nat.lt_or_ge j 20 with h1 | h1
  · exact h1
  · have h2 : (10 : Nat) ^ 20 ≤ 10 ^ j := Nat.pow_le_pow_right (by decide) h1
    have h3 : (10 : Nat) ^ 20 = 100000000000000000000 := by decide
    omega

/-- the row behind one append -/
theorem row_next {w1 : World} {B : Nat} {v : Value} {u k q : Nat} (HQ : Hid (q = u / 10 ^ k)) (h : w1.ownsRow B 5 1 v (k + 1) (byteCells (lows u k) ++ [Value.int .u8 (48 + (q : Int) % 10)])) : w1.ownsRow B 5 1 v (k + 1) (byteCells (lows u (k + 1))) := by
  rw [lows_succ, byteCells_append, HQ.out] at *
  rw [cell_digit] at h
  exact h

theorem row_cell {w1 : World} {B g cap n : Nat} {l : List UInt8} (h : w1.ownsRow B 5 1 (.slice (some ⟨g, 0, none⟩) n cap) n (byteCells l)) (hl : l.length = n) (j : Nat) (hj : j < n) : w1.cell? ⟨g, j, none⟩ = some (.int .u8 ((l.getD j 0).toNat : Int)) := by
  rw [h.cellAt j (by omega), byteCells_at, List.getD_eq_getElem?_getD, List.getElem?_eq_getElem (by omega)]
  rfl

theorem sw_mid (a : Nat) (l : List UInt8) (t : Nat) (h1 : a ≤ t) (h2 : t + a < l.length) : (sw a l).getD t 0 = l.getD t 0 := by
  rw [List.getD_eq_getElem?_getD, sw_at a l t (by omega), if_neg (by omega)]
  rfl

/-- one exchange -/
theorem swap_row {w wr : World} {B g cap k a b : Nat} {l : List UInt8} (h : wr.ownsRow B 5 1 (.slice (some ⟨g, 0, none⟩) (k + 1) cap) (k + 1) (byteCells (sw a l))) (hnx : Below B w wr) (hg : B ≤ g) (hl : 2 * a + 1 < l.length) (hll : l.length = k + 1) (hb : a + b = k) :
    ((wr.setCell ⟨g, a, none⟩ (.int .u8 ((l.getD b 0).toNat : Int))).setCell ⟨g, b, none⟩ (.int .u8 ((l.getD a 0).toNat : Int))).ownsRow B 5 1 (.slice (some ⟨g, 0, none⟩) (k + 1) cap) (k + 1) (byteCells (sw (a + 1) l)) ∧
      Below B w ((wr.setCell ⟨g, a, none⟩ (.int .u8 ((l.getD b 0).toNat : Int))).setCell ⟨g, b, none⟩ (.int .u8 ((l.getD a 0).toNat : Int))) := by
  refine ⟨?_, (hnx.setCell hg _).setCell hg _⟩
  have h2 := ((h.stored a (.int .u8 ((l.getD b 0).toNat : Int))).1.stored b (.int .u8 ((l.getD a 0).toNat : Int))).1
  rw [byteCells_set, byteCells_set] at h2
  have e : l.length - 1 - a = b := by omega
  have h3 := sw_step a l hl
  rw [e] at h3
  rw [h3] at h2
  exact h2

set_option maxHeartbeats 1600000 in
set_option maxRecDepth 100000 in
theorem digits (u : Nat) (hu64 : u < 18446744073709551616) (w : World) :
    Calls Ybad.prog 7 #[.int .u64 u] w fun e w' => ∃ v, e = .returned v ∧ w'.ownsRow w.heap.size 5 1 v (decDigits u).length (byteCells (decDigits u)) ∧ Below w.heap.size w w' := by
  obtain ⟨i0, hi, hz0, hz1, hz2⟩ := info_parts AppU.info5
  go_enter Ybad.func7, Ybad.ntmps7
  go_wp2
  go_loopw [0, 3] (fun n r wr => ∃ k : Nat, n = .int .u64 ((u / 10 ^ k : Nat) : Int) ∧ k < 20 ∧ (k = 0 ∨ 10 ^ k ≤ u) ∧ wr.ownsRow w.heap.size 5 1 r k (byteCells (lows u k)) ∧ Below w.heap.size w wr) (fun n _ _ => (intOf n).toNat)
  case atStart => exact ⟨0, by simp, by omega, Or.inl rfl, World.ownsRow_nil _ _ _ _, Below.refl _ _⟩
  case round =>
    obtain ⟨k, rfl, hk20, hk, hown, hnx⟩ := hrel
    have hb : u / 10 ^ k < 18446744073709551616 := Nat.lt_of_le_of_lt (Nat.div_le_self _ _) hu64
    obtain ⟨q, hq⟩ : ∃ q, q = u / 10 ^ k := ⟨_, rfl⟩
    rw [← hq] at hb ⊢
    have HQ : Hid (q = u / 10 ^ k) := hq
    clear hq
    have hqi : (q : Int) < 18446744073709551616 := by omega
    have HK : Hid (k = 0 ∨ 10 ^ k ≤ u) := hk
    clear hk
    by_cases hz : q / 10 = 0
    · have hzb : ((q : Int) / 10 == 0) = true := by rw [beq_iff_eq]; omega
      clear hz
      go_wp2_with (at_builtin; refine wpList_append_own _ rfl _ _ 22 rfl w.heap.size 5 i0 (.int .u8 0) 1 1 Ybad.underlying22 hi hz0 hz1 hz2 rfl (by decide) _ _ _ rfl (hown.alloc _) ⟨wr.heap.size, 0, none⟩ 1 1 [Value.int .u8 (48 + (q : Int) % 10)] rfl rfl ?c1 ?c2 ?c3 ?c4 ?c5 ?_)
      case c1 =>
        intro j u' hj
        match j, hj with
        | 0, hj => simp at hj; subst hj; simp [Addr.add]
      case c2 => intro u' hu'; simp at hu'; subst hu'; rfl
      case c3 => unfold maxLen; omega
      case c4 => omega
      case c5 => have := hnx.size; simp; omega
      intro v' w1 hown' hgrow _
      have hnx1 : Below w.heap.size w w1 := (hnx.alloc hnx.size _).grown hgrow (by have := hnx.size; simp; omega) (fun k hk => (hown.lt k hk).1)
      obtain ⟨g, cap, hv, hgB, hcap⟩ := own_shape hown' (by omega)
      have hown1 := row_next HQ hown'
      have HN : Hid (nDigits u = k + 1) := nDigits_of u k HK.out (by rw [Nat.pow_succ, ← Nat.div_div_eq_div_mul, ← HQ.out]; have := beq_iff_eq.1 hzb; omega)
      clear hown' hgrow hown
      rw [hv] at hown1 ⊢
      clear hv
      go_wp2
      go_loopw [4, 5] (fun i j wr => ∃ a b : Nat, i = .int .i64 a ∧ j = .int .i64 b ∧ Hid (a + b = k) ∧ a ≤ b + 1 ∧ a ≤ k ∧ b ≤ k ∧ wr.ownsRow w.heap.size 5 1 (.slice (some ⟨g, 0, none⟩) (k + 1) cap) (k + 1) (byteCells (sw a (lows u (k + 1)))) ∧ Below w.heap.size w wr) (fun _ j _ => (intOf j).toNat)
      case atStart => exact ⟨0, k, rfl, rfl, Nat.zero_add k, by omega, by omega, by omega, by rw [sw_zero]; exact hown1, hnx1⟩
      case round =>
        obtain ⟨a, b, rfl, rfl, HA, hab, hak, hbk, hownr, hnxr⟩ := hrel
        have hll := lows_length u (k + 1)
        have hsl : (sw a (lows u (k + 1))).length = k + 1 := by rw [sw_length, hll]
        by_cases hlt : a < b
        · have hca := row_cell hownr hsl a (by omega)
          have hcb := row_cell hownr hsl b (by omega)
          have hfa := hownr.frozenAt a
          have hfb := hownr.frozenAt b
          have ex : (sw a (lows u (k + 1))).getD a 0 = (lows u (k + 1)).getD a 0 := sw_mid a (lows u (k + 1)) a (by have := HA.out; omega) (by have := HA.out; omega)
          have ey : (sw a (lows u (k + 1))).getD b 0 = (lows u (k + 1)).getD b 0 := sw_mid a (lows u (k + 1)) b (by have := HA.out; omega) (by have := HA.out; omega)
          rw [ex] at hca
          rw [ey] at hcb
          clear ex ey
          have R := swap_row hownr hnxr hgB (by rw [hll]; have := HA.out; omega) hll (by have := HA.out; omega)
          clear hll hsl
          go_wp2
          go_roundw
          case rel => exact ⟨a + 1, b - 1, by go_num, by go_num, by have := HA.out; show a + 1 + (b - 1) = k; omega, by omega, by omega, by omega, R.1, R.2⟩
          case measure => simp [intOf]; omega
        · go_wp2
          go_ret
          refine ⟨_, rfl, ?_, hnxr⟩
          rw [sw_end a _ (by rw [hll]; have := HA.out; omega)] at hownr
          have e1 : (lows u (k + 1)).reverse = decDigits u := by rw [← HN.out]; exact reverse_lows u
          rw [e1] at hownr
          rw [decDigits_length, HN.out]
          exact hownr
    · have hzb : ((q : Int) / 10 == 0) = false := by rw [beq_eq_false_iff_ne]; omega
      go_wp2_with (at_builtin; refine wpList_append_own _ rfl _ _ 22 rfl w.heap.size 5 i0 (.int .u8 0) 1 1 Ybad.underlying22 hi hz0 hz1 hz2 rfl (by decide) _ _ _ rfl (hown.alloc _) ⟨wr.heap.size, 0, none⟩ 1 1 [Value.int .u8 (48 + (q : Int) % 10)] rfl rfl ?d1 ?d2 ?d3 ?d4 ?d5 ?_)
      case d1 =>
        intro j u' hj
        match j, hj with
        | 0, hj => simp at hj; subst hj; simp [Addr.add]
      case d2 => intro u' hu'; simp at hu'; subst hu'; rfl
      case d3 => unfold maxLen; omega
      case d4 => omega
      case d5 => have := hnx.size; simp; omega
      intro v' w1 hown' hgrow _
      have hnx1 : Below w.heap.size w w1 := (hnx.alloc hnx.size _).grown hgrow (by have := hnx.size; simp; omega) (fun k hk => (hown.lt k hk).1)
      have hown1 := row_next HQ hown'
      have HP : Hid (10 ^ (k + 1) ≤ u) := next u k (by rw [Nat.pow_succ, ← Nat.div_div_eq_div_mul, ← HQ.out]; exact hz)
      clear hown' hgrow hown
      go_wp2
      go_roundw
      case rel => exact ⟨k + 1, by rw [HQ.out]; exact val_u64 u k, pow20 u (k + 1) HP.out hu64, Or.inr HP.out, hown1, hnx1⟩
      case measure => simp [intOf]; omega

end Go.Proofs.YbulkkygDoor.Dig
