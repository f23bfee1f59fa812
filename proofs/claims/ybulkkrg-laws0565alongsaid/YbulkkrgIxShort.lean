/-
  The laws' own walks: the clone of the bytes (7), 'LawS0565AShort' (3).
-/
import Derived.Test.YbulkkrgIxRun
import Derived.OpenShut
import Derived.Lib.SliceRun
namespace Go.Proofs.Ybulkkrg.Ix
open Go.RowKit Go.Proofs.Ybulkkrg.Srt
set_option linter.unusedVariables false
theorem info5 : (Yba.prog.info? 5).map (fun i => (i.zero, i.size, i.bytes)) = some (some (.int .u8 0), 1, 1) := by kernel_rfl

/-- a slice of integers that came in -/
def IsR (k : IntKind) (w : World) (a : Option Addr) (len cap : Nat) (zs : List Int) : Prop :=
  (a = none ∧ len = 0 ∧ cap = 0 ∧ zs = []) ∨
  ∃ x, a = some x ∧ len ≤ cap ∧ cap ≤ maxLen ∧ zs.length = cap ∧ (∀ i, i < zs.length → w.cell? (x.add i) = some (.int k (zs.getD i 0))) ∧ ∀ n ∈ zs, (Lit.int k n).wf = true

theorem IsR.dst {w : World} {a : Option Addr} {len cap : Nat} {zs : List Int} (h : IsR .i64 w a len cap zs) : Dst w a len cap (zs.take len) := by
  rcases h with ⟨rfl, rfl, rfl, rfl⟩ | ⟨x, rfl, h1, h2, h3, h4, h5⟩
  · exact ⟨rfl, .inl ⟨rfl, rfl, rfl⟩⟩
  · refine ⟨by rw [List.length_take]; omega, ?_⟩
    by_cases h0 : len = 0
    · exact .inr (.inl ⟨x, rfl, h0⟩)
    · obtain ⟨b, o, rfl, hc⟩ := Go.ints_at h4 (by omega)
      refine .inr (.inr ⟨b, o, rfl, fun j hj => ?_⟩)
      rw [List.length_take] at hj
      rw [hc j (by omega)]
      congr 2
      simp only [List.getD_eq_getElem?_getD]
      rw [List.getElem?_take, if_pos (by omega)]

theorem u8_bd {x : Int} (h : (Lit.int .u8 x).wf = true) : 0 ≤ x ∧ x ≤ 255 := by
  simp only [Lit.wf, Bool.and_eq_true, decide_eq_true_eq] at h
  exact h
theorem u16_bd {x : Int} (h : (Lit.int .u16 x).wf = true) : 0 ≤ x ∧ x ≤ 65535 := by
  simp only [Lit.wf, Bool.and_eq_true, decide_eq_true_eq] at h
  exact h
theorem u32_bd {x : Int} (h : (Lit.int .u32 x).wf = true) : 0 ≤ x ∧ x ≤ 4294967295 := by
  simp only [Lit.wf, Bool.and_eq_true, decide_eq_true_eq] at h
  exact h
theorem i64_bd {x : Int} (h : (Lit.int .i64 x).wf = true) : -9223372036854775808 ≤ x ∧ x ≤ 9223372036854775807 := by
  simp only [Lit.wf, Bool.and_eq_true, decide_eq_true_eq] at h
  exact h

def eb (l : List Int) : List Value := l.map (Value.int .u8)

set_option maxHeartbeats 800000 in
theorem cloneB (a : Option Addr) (len cap : Nat) (zs : List Int) (w : World) (h : IsR .u8 w a len cap zs) (hl : len ≤ 1024) :
    Calls Yba.prog 7 #[.slice a len cap] w fun e w' => ∃ v', e = .returned v' ∧ w'.ownsRow w.heap.size 5 1 v' len (eb (zs.take len)) ∧ Below w.heap.size w w' := by
  obtain ⟨i5, hi5, hz50, hz51, hz52⟩ := info_parts info5
  rcases h with ⟨rfl, rfl, rfl, rfl⟩ | ⟨x, rfl, h1, h2, h3, h4, h5⟩
  · have hnil := Lib.run_eql_slice_nil (P := Yba.prog) w 22 5 none 0 0 0 0 Yba.underlying22
    go_enter Yba.func7, Yba.ntmps7
    go_wp2
    go_ret
    exact ⟨_, rfl, World.ownsRow_nil _ _ _ _, Below.refl _ _⟩
  · have hcells : ∀ (W : World), Below w.heap.size w W → ∀ (j : Nat) (u : Value), (eb (zs.take len))[j]? = some u → W.cell? (x.add j) = some u := by
      intro W hb j u hj
      have hj2 : j < (eb (zs.take len)).length := (List.getElem?_eq_some_iff.1 hj).1
      rw [eb, List.length_map, List.length_take] at hj2
      have hc := h4 j (by omega)
      rw [hb.cell (World.block_lt_of_cell? _ _ hc), hc]
      rw [eb, List.getElem?_map, List.getElem?_take, if_pos (by omega)] at hj
      simp only [List.getD_eq_getElem?_getD]
      rw [List.getElem?_eq_getElem (by omega)] at hj ⊢
      simpa using hj
    have hone : ∀ u ∈ eb (zs.take len), u.oneCell' = true := by
      intro u hu; simp only [eb, List.mem_map] at hu; obtain ⟨z, _, rfl⟩ := hu; rfl
    have hnl : (eb (zs.take len)).length = len * 1 := by rw [eb, List.length_map, List.length_take]; omega
    have HC : Hid _ := hcells
    have HO : Hid _ := hone
    have HL : Hid _ := hnl
    clear hcells hone hnl h4 h5
    have hnil := Lib.run_eql_slice_nil (P := Yba.prog) w 22 5 (some x) len cap 0 0 Yba.underlying22
    go_enter Yba.func7, Yba.ntmps7
    have hown0 : (w.alloc (.cells #[] 5)).ownsRow w.heap.size 5 1 (.slice (some ⟨w.heap.size, 0, none⟩) 0 0) 0 [] :=
      ⟨by simp, .inr ⟨w.heap.size, 0, #[], rfl, Nat.le_refl _, heap_alloc_new w _, Nat.le_refl _, Nat.zero_le _, rfl, rfl⟩⟩
    have hb0 : Below w.heap.size w (w.alloc (.cells #[] 5)) := (Below.refl _ _).alloc (Nat.le_refl _) _
    have hsz0 := hb0.size
    go_wp2_with (at_builtin; refine wpList_append_own _ rfl _ _ 22 rfl w.heap.size 5 i5 (.int .u8 0) 1 1 Yba.underlying22 hi5 hz50 hz51 hz52 rfl (by decide) _ _ _ rfl hown0 x len cap (eb (zs.take len)) rfl HL.out (HC.out _ hb0) HO.out ?c3 ?c4 hsz0 ?_)
    case c3 => unfold maxLen; omega
    case c4 => omega
    intro v' w2 hown2 hgrow2 _
    have hb2 : Below w.heap.size w w2 := hb0.grown hgrow2 hsz0 (fun j hj => (hown0.lt j hj).1)
    clear hgrow2 hown0
    go_wp2
    go_ret
    exact ⟨v', rfl, hown2, hb2⟩

set_option maxHeartbeats 1600000 in
set_option maxRecDepth 100000 in
theorem short (a0 : Option Addr) (len0 cap0 : Nat) (z0 : List Int) (a1 : Int) (a2 : Int) (a3 : Int) (a4 : Int) (a5 : Bool) (a6 : Int) (a7 : Int) (a8 : Option Addr) (len8 cap8 : Nat) (z8 : List Int) (w : World) (w0 : IsR .u8 w a0 len0 cap0 z0) (w1 : (Lit.int .u8 a1).wf = true) (w2 : (Lit.int .u8 a2).wf = true) (w3 : (Lit.int .u8 a3).wf = true) (w4 : (Lit.int .u16 a4).wf = true) (w6 : (Lit.int .u32 a6).wf = true) (w7 : (Lit.int .i64 a7).wf = true) (w8 : IsR .i64 w a8 len8 cap8 z8) :
    Calls Yba.prog 3 #[.slice a0 len0 cap0, .int .u8 a1, .int .u8 a2, .int .u8 a3, .int .u16 a4, .bool a5, .int .u32 a6, .int .i64 a7, .slice a8 len8 cap8] w fun e w' => e = .returned (.bool true) ∧ Below w.heap.size w w' := by
  obtain ⟨n1, rfl⟩ : ∃ n : Nat, a1 = n := ⟨a1.toNat, by have := u8_bd w1; omega⟩
  obtain ⟨n2, rfl⟩ : ∃ n : Nat, a2 = n := ⟨a2.toNat, by have := u8_bd w2; omega⟩
  obtain ⟨n3, rfl⟩ : ∃ n : Nat, a3 = n := ⟨a3.toNat, by have := u8_bd w3; omega⟩
  obtain ⟨n4, rfl⟩ : ∃ n : Nat, a4 = n := ⟨a4.toNat, by have := u16_bd w4; omega⟩
  have b1 := u8_bd w1
  have b2 := u8_bd w2
  have b3 := u8_bd w3
  have b4 := u16_bd w4
  have b6 := u32_bd w6
  have b7 := i64_bd w7
  have hlen0 : len0 ≤ maxLen := by
    rcases w0 with ⟨_, rfl, _⟩ | ⟨x, _, h1, h2, _⟩
    · unfold maxLen; omega
    · omega
  have hlen8 : len8 ≤ maxLen := by
    rcases w8 with ⟨_, rfl, _⟩ | ⟨x, _, h1, h2, _⟩
    · unfold maxLen; omega
    · omega
  unfold maxLen at hlen0 hlen8
  clear w1 w2 w3 w4 w6 w7
  have W0 : Hid (IsR .u8 w a0 len0 cap0 z0) := w0
  have W8 : Hid (IsR .i64 w a8 len8 cap8 z8) := w8
  clear w0 w8
  by_cases h0 : 1024 < len0
  · have h0i : (1024 : Int) < len0 := by omega
    go_enter Yba.func3, Yba.ntmps3
    go_wp2
    go_ret
    exact ⟨rfl, Below.refl _ _⟩
  by_cases h8 : 1024 < len8
  · have h0i : ¬ (1024 : Int) < len0 := by omega
    have h8i : (1024 : Int) < len8 := by omega
    go_enter Yba.func3, Yba.ntmps3
    go_wp2
    go_ret
    exact ⟨rfl, Below.refl _ _⟩
  have h0i : ¬ (1024 : Int) < len0 := by omega
  have h8i : ¬ (1024 : Int) < len8 := by omega
  go_enter Yba.func3, Yba.ntmps3
  go_wp2_with fail
  refine (cloneB a0 len0 cap0 z0 w W0.out (by omega)).mono ?_
  rintro e1 w1 ⟨v1, rfl, hown1, hb1⟩
  go_wp2_with fail
  obtain ⟨st, hst⟩ : ∃ st, st = 2 ^ (n1 % 3) := ⟨_, rfl⟩
  have hcase : n1 % 3 = 0 ∨ n1 % 3 = 1 ∨ n1 % 3 = 2 := by omega
  have hst2 : wrap64 (2 ^ (n1 % 3)) = (st : Int) ∧ 1 ≤ st ∧ st ≤ 4 := by
    rw [hst]
    rcases hcase with h | h | h <;> rw [h] <;> decide +kernel
  obtain ⟨tp, htop, htp⟩ : ∃ tp : Nat, ((n2 : Int) % 33) = (tp : Int) ∧ tp ≤ 32 := ⟨n2 % 33, by omega, by omega⟩
  rw [hst2.1, htop]
  have hs1 := hst2.2.1
  have hs2 := hst2.2.2
  clear hst2 htop hst hcase
  obtain ⟨ao, g, c, hv1, hc1, hao⟩ : ∃ ao g c, v1 = .slice ao len0 c ∧ len0 ≤ c ∧ (6 ≤ len0 → ao = some ⟨g, 0, none⟩ ∧ ∀ j, j < len0 → w1.cell? ⟨g, j, none⟩ = some (.int .u8 ((z0.take len0).getD j 0))) := by
    rcases own_shape hown1 with ⟨h, h'⟩ | ⟨g, cap, h, _, h'⟩
    · subst h'
      exact ⟨none, 0, 0, h, Nat.le_refl _, fun h6 => by omega⟩
    · refine ⟨_, g, cap, h, h', fun _ => ⟨rfl, fun j hj => ?_⟩⟩
      subst h
      have hl : j < (z0.take len0).length := by
        have := hown1.1
        rw [eb, List.length_map] at this
        omega
      have := hown1.cells rfl j (.int .u8 ((z0.take len0).getD j 0)) (by simp only [eb, List.getElem?_map, List.getD_eq_getElem?_getD]; rw [List.getElem?_eq_getElem hl]; rfl)
      rw [Addr.add_lit, Nat.zero_add] at this
      exact this
  rw [hv1]
  have hz : ∀ j, 0 ≤ (z0.take len0).getD j 0 ∧ (z0.take len0).getD j 0 ≤ 255 := by
    intro j
    by_cases hj : j < (z0.take len0).length
    · have hm : (z0.take len0).getD j 0 ∈ z0 := by
        rw [List.getD_eq_getElem?_getD, List.getElem?_eq_getElem hj]
        exact List.mem_of_mem_take (List.getElem_mem hj)
      rcases W0.out with ⟨_, _, _, rfl⟩ | ⟨x, _, _, _, _, _, h⟩
      · simp at hj
      · exact u8_bd (h _ hm)
    · rw [List.getD_eq_getElem?_getD, List.getElem?_eq_none (by omega)]; simp
  refine (run _ ao g len0 c st tp n3 a5 a6 n4 a7 a8 len8 cap8 _ w1 (by omega) hc1 hs1 hs2 (by omega) (by omega) hz hao b6.1 (by omega) (by omega) b7.1 b7.2 (W8.out.dst.below hb1) (by omega)).mono ?_
  rintro e2 w2 ⟨rfl, hb2⟩
  clear hao hz hown1 hv1
  go_wp2
  go_ret
  exact ⟨rfl, hb1.trans (hb2.mono hb1.size)⟩
end Go.Proofs.Ybulkkrg.Ix
