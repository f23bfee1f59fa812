/-
  The key of the bytes at an offset: 'keyOf' (21), 'first' (22), 'key' (12): a number that hangs on the bytes alone.
-/
import Derived.Test.YbulkkrgRows
import Derived.Test.YbulkkrgShelf
import Derived.WalkKit
import Derived.ProofKit
import Derived.WalkSmall
namespace Go.Proofs.Ybulkkrg.Ix
open Go.RowKit
set_option linter.unusedVariables false

def ko (v : Int) : Int := IntKind.u64.wrap (IntKind.u64.wrap (v * 65536) * 11400714819323198485) / 4294967296 % 4294967296
def fl (zs : Nat → Int) : Nat → Int
  | 0 => 0
  | k + 1 => bits .or .u64 (IntKind.u64.wrap (fl zs k * 256)) (zs (5 - k))
def fh (zs : Nat → Int) : Int := bits .and .u64 (Lib.leZ [zs 0, zs 1, zs 2, zs 3, zs 4, zs 5, zs 6, zs 7]) 281474976710655
/-- the key of what is left from offset s on of N bytes -/
def kf (bt : Nat → Int) (N s : Nat) : Int := if 8 ≤ N - s then ko (fh fun j => bt (s + j)) else ko (fl (fun j => bt (s + j)) 6)

theorem ko_bd (v : Int) : 0 ≤ ko v ∧ ko v < 4294967296 := by unfold ko; omega
theorem kf_bd (bt : Nat → Int) (N s : Nat) : 0 ≤ kf bt N s ∧ kf bt N s < 4294967296 := by unfold kf; split <;> exact ko_bd _

theorem u64_or_bd (a b : Int) (h1 : 0 ≤ a) (h2 : a < 18446744073709551616) (h3 : 0 ≤ b) (h4 : b < 18446744073709551616) : 0 ≤ bits .or .u64 a b ∧ bits .or .u64 a b < 18446744073709551616 := by
  rw [u64_or a b h1 h2 h3 h4]
  have : a.toNat ||| b.toNat < 2 ^ 64 := Nat.or_lt_two_pow (by omega) (by omega)
  omega
theorem u64_and_bd (a b : Int) (h1 : 0 ≤ a) (h2 : a < 18446744073709551616) (h3 : 0 ≤ b) (h4 : b < 18446744073709551616) : 0 ≤ bits .and .u64 a b ∧ bits .and .u64 a b < 18446744073709551616 := by
  rw [u64_and a b h1 h2 h3 h4]
  have : a.toNat &&& b.toNat ≤ a.toNat := Nat.and_le_left
  omega
theorem wrap_bd (x : Int) : 0 ≤ IntKind.u64.wrap x ∧ IntKind.u64.wrap x < 18446744073709551616 := by rw [IntKind.wrap_u64]; omega

theorem fl_bd (zs : Nat → Int) (hz : ∀ j, 0 ≤ zs j ∧ zs j ≤ 255) : ∀ k, 0 ≤ fl zs k ∧ fl zs k < 18446744073709551616
  | 0 => by unfold fl; omega
  | k + 1 => by
    unfold fl
    have := wrap_bd (fl zs k * 256)
    have := hz (5 - k)
    exact u64_or_bd _ _ (by omega) (by omega) (by omega) (by omega)

set_option maxHeartbeats 400000 in
theorem keyOf (v : Int) (w : World) (h0 : 0 ≤ v) (h1 : v < 18446744073709551616) :
    Calls Yba.prog 21 #[.int .u64 v] w fun e w' => e = .returned (.int .u32 (ko v)) ∧ w' = w := by
  go_enter Yba.func21, Yba.ntmps21
  go_wp2
  go_ret
  exact ⟨rfl, rfl⟩

set_option maxHeartbeats 400000 in
theorem first_lo (g o n c : Nat) (zs : Nat → Int) (w : World) (hn : 6 ≤ n) (hn8 : n < 8) (hc : ∀ j, j < 6 → w.cell? ⟨g, o + j, none⟩ = some (.int .u8 (zs j))) (hz : ∀ j, 0 ≤ zs j ∧ zs j ≤ 255) :
    Calls Yba.prog 22 #[.slice (some ⟨g, o, none⟩) n c] w fun e w' => e = .returned (.int .u64 (fl zs 6)) ∧ w' = w := by
  have h8 : ¬ (8 : Int) ≤ n := by omega
  go_enter Yba.func22, Yba.ntmps22
  go_wp2
  go_loop [3, 4] (fun v i => ∃ k : Nat, v = .int .u64 (fl zs k) ∧ i = .int .i64 (5 - (k : Int)) ∧ k ≤ 6) (fun _ i => ((intOf i) + 1).toNat)
  case atStart => exact ⟨0, rfl, by go_num, by omega⟩
  case round =>
    obtain ⟨k, rfl, rfl, hk⟩ := hrel
    have hb := fl_bd zs hz k
    by_cases hlt : k < 6
    · have hi : (0 : Int) ≤ 5 - (k : Int) := by omega
      have c1 := hc (5 - k) (by omega)
      have hz' := hz (5 - k)
      go_wp2
      go_round
      case rel => exact ⟨k + 1, rfl, by go_num, by omega⟩
      case measure => simp [intOf]; omega
    · have hi : ¬ (0 : Int) ≤ 5 - (k : Int) := by omega
      go_wp2
      go_ret
      obtain rfl : k = 6 := by omega
      exact ⟨rfl, rfl⟩

theorem u8wf (x : Int) (h : 0 ≤ x ∧ x ≤ 255) : (Lit.int .u8 x).wf = true := by
  simp only [Lit.wf, Bool.and_eq_true, decide_eq_true_eq]
  exact h

theorem leZ_bd (a b c d e f g h : Int) (h0 : ∀ x ∈ [a, b, c, d, e, f, g, h], 0 ≤ x ∧ x ≤ 255) : 0 ≤ (Lib.leZ [a, b, c, d, e, f, g, h] : Int) ∧ (Lib.leZ [a, b, c, d, e, f, g, h] : Int) < 18446744073709551616 := by
  have q1 := h0 a (by simp)
  have q2 := h0 b (by simp)
  have q3 := h0 c (by simp)
  have q4 := h0 d (by simp)
  have q5 := h0 e (by simp)
  have q6 := h0 f (by simp)
  have q7 := h0 g (by simp)
  have q8 := h0 h (by simp)
  simp only [Lib.leZ]
  omega

set_option maxHeartbeats 800000 in
theorem first_hi (g o n c : Nat) (zs : Nat → Int) (w : World) (hn : 8 ≤ n) (hc : ∀ j, j < 8 → w.cell? ⟨g, o + j, none⟩ = some (.int .u8 (zs j))) (hz : ∀ j, 0 ≤ zs j ∧ zs j ≤ 255) :
    Calls Yba.prog 22 #[.slice (some ⟨g, o, none⟩) n c] w fun e w' => e = .returned (.int .u64 (fh zs)) ∧ Below w.heap.size w w' := by
  have h8 : (8 : Int) ≤ n := by omega
  have hw : ∀ x ∈ [zs 0, zs 1, zs 2, zs 3, zs 4, zs 5, zs 6, zs 7], (Lit.int .u8 x).wf = true := by
    intro x hx
    simp only [List.mem_cons, List.not_mem_nil, or_false] at hx
    rcases hx with rfl | rfl | rfl | rfl | rfl | rfl | rfl | rfl <;> exact u8wf _ (hz _)
  have hcell : ∀ i, i < [zs 0, zs 1, zs 2, zs 3, zs 4, zs 5, zs 6, zs 7].length → w.cell? ((⟨g, o, none⟩ : Addr).add i) = some (.int .u8 ([zs 0, zs 1, zs 2, zs 3, zs 4, zs 5, zs 6, zs 7].getD i 0)) := by
    intro i hi
    rw [Addr.add_lit]
    rw [hc i hi]
    match i, hi with
    | 0, _ => rfl
    | 1, _ => rfl
    | 2, _ => rfl
    | 3, _ => rfl
    | 4, _ => rfl
    | 5, _ => rfl
    | 6, _ => rfl
    | 7, _ => rfl
  have hb := leZ_bd (zs 0) (zs 1) (zs 2) (zs 3) (zs 4) (zs 5) (zs 6) (zs 7) (by
    intro x hx
    simp only [List.mem_cons, List.not_mem_nil, or_false] at hx
    rcases hx with rfl | rfl | rfl | rfl | rfl | rfl | rfl | rfl <;> exact hz _)
  go_enter Yba.func22, Yba.ntmps22
  go_wp2_with fail
  refine (Yba.binary_LE_Uint64_z ⟨g, o, none⟩ n c [zs 0, zs 1, zs 2, zs 3, zs 4, zs 5, zs 6, zs 7] w hn (by simp) hcell hw).mono ?_
  rintro e w' ⟨rfl, hbel⟩
  clear hcell hw
  rw [List.take_of_length_le (by simp)]
  generalize hL : Lib.leZ [zs 0, zs 1, zs 2, zs 3, zs 4, zs 5, zs 6, zs 7] = L at hb
  have HL : Hid (Lib.leZ [zs 0, zs 1, zs 2, zs 3, zs 4, zs 5, zs 6, zs 7] = L) := hL
  clear hL
  go_wp2
  go_ret
  refine ⟨?_, hbel⟩
  unfold fh
  rw [HL.out]
  rfl

set_option maxHeartbeats 800000 in
theorem key (bt : Nat → Int) (N g s c : Nat) (w : World) (hs : s + 6 ≤ N) (hc : ∀ j, j < N → w.cell? ⟨g, j, none⟩ = some (.int .u8 (bt j))) (hz : ∀ j, 0 ≤ bt j ∧ bt j ≤ 255) :
    Calls Yba.prog 12 #[.slice (some ⟨g, s, none⟩) (N - s) c] w fun e w' => e = .returned (.int .u32 (kf bt N s)) ∧ Below w.heap.size w w' := by
  by_cases h8 : 8 ≤ N - s
  · have hk : kf bt N s = ko (fh fun j => bt (s + j)) := by unfold kf; rw [if_pos h8]
    have hb1 := leZ_bd (bt (s + 0)) (bt (s + 1)) (bt (s + 2)) (bt (s + 3)) (bt (s + 4)) (bt (s + 5)) (bt (s + 6)) (bt (s + 7)) (by
      intro x hx
      simp only [List.mem_cons, List.not_mem_nil, or_false] at hx
      rcases hx with rfl | rfl | rfl | rfl | rfl | rfl | rfl | rfl <;> exact hz _)
    have hb : 0 ≤ (fh fun j => bt (s + j)) ∧ (fh fun j => bt (s + j)) < 18446744073709551616 := u64_and_bd _ _ hb1.1 hb1.2 (by omega) (by omega)
    clear hb1
    have HK : Hid (kf bt N s = ko (fh fun j => bt (s + j))) := hk
    clear hk
    go_enter Yba.func12, Yba.ntmps12
    go_wp2_with fail
    refine (first_hi g s (N - s) c (fun j => bt (s + j)) w h8 (fun j hj => hc (s + j) (by omega)) (fun j => hz _)).mono ?_
    rintro e w' ⟨rfl, hbel⟩
    generalize hv : (fh fun j => bt (s + j)) = v at hb
    have HV : Hid ((fh fun j => bt (s + j)) = v) := hv
    clear hv
    go_wp2_with fail
    refine (keyOf v w' hb.1 hb.2).mono ?_
    rintro e w'' ⟨rfl, rfl⟩
    go_wp2
    go_ret
    exact ⟨by rw [HK.out, HV.out]; rfl, hbel⟩
  · have hk : kf bt N s = ko (fl (fun j => bt (s + j)) 6) := by unfold kf; rw [if_neg h8]
    have hb := fl_bd (fun j => bt (s + j)) (fun j => hz _) 6
    have HK : Hid (kf bt N s = ko (fl (fun j => bt (s + j)) 6)) := hk
    clear hk
    go_enter Yba.func12, Yba.ntmps12
    go_wp2_with fail
    refine (first_lo g s (N - s) c (fun j => bt (s + j)) w (by omega) (by omega) (fun j hj => hc (s + j) (by omega)) (fun j => hz _)).mono ?_
    rintro e w' ⟨rfl, rfl⟩
    generalize hv : fl (fun j => bt (s + j)) 6 = v at hb
    have HV : Hid (fl (fun j => bt (s + j)) 6 = v) := hv
    clear hv
    go_wp2_with fail
    refine (keyOf v _ hb.1 hb.2).mono ?_
    rintro e w'' ⟨rfl, rfl⟩
    go_wp2
    go_ret
    exact ⟨by rw [HK.out, HV.out]; rfl, Below.refl _ _⟩
end Go.Proofs.Ybulkkrg.Ix
