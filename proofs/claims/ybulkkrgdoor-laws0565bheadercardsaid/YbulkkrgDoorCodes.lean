/-
  The walks of 'Reverse16' (19) and 'canonicalCodes' (15): each code fits its length.
-/
import Derived.Test.YbulkkrgDoorHuMem
import Derived.Test.YbulkkrgDoorRows
import Derived.WalkKit
import Derived.ProofKit
import Derived.WalkSmall
import Derived.BigRegion
import Derived.BigQuiet
import Derived.Laws.BitsAllLaws
import Derived.Deep.CutBlock
import Derived.Deep.DeepCutAuto
namespace Go.Proofs.YbulkkrgDoor.Co
open Go.RowKit Go.Proofs.YbulkkrgDoor.Srt Go.Proofs.YbulkkrgDoor.Mm Go.Proofs.YbulkkrgDoor.Hu
set_option linter.unusedVariables false
def Rv (e : Ending) : Prop := ∃ y : Nat, e = .returned (.int .u16 y) ∧ y < 65536
set_option maxHeartbeats 800000 in
set_option maxRecDepth 100000 in
theorem rev16 (x : Nat) (W : World) (hx : x < 65536) :
    Calls Ybad.prog 19 #[.int .u16 x] W fun e W' => Rv e ∧ ∃ n, W' = W.drewN n := by
  go_enter Ybad.func19, Ybad.ntmps19
  generalize hs : ByteArray.mk _ = S
  have hsz : S.size = 256 := by rw [← hs]; rfl
  clear hs
  have hidx : ∀ i : Int, 0 ≤ i → i < 256 → ∃ a : Nat, (∀ w : World, (Instr.index 9 (.string S) (.int .u16 i)).run Ybad.prog w = .ok (.int .u8 a) w) ∧ a < 256 := by
    intro i h0 h1
    have hi : 0 ≤ i ∧ i < (S.size : Int) := by rw [hsz]; omega
    refine ⟨(S[i.toNat]'(by omega)).toNat, fun w => ?_, UInt8.toNat_lt _⟩
    rw [run_index_string w 9 S .u16 i Ybad.underlying9, dif_pos hi]
  have hand : bits .and .u16 (x : Int) 255 = ((x &&& 255 : Nat) : Int) := u16_and_nat x 255 hx (by omega)
  have hand2 : x &&& 255 ≤ 255 := Nat.and_le_right
  obtain ⟨a, ha, ha1⟩ := hidx (x / 256) (by omega) (by omega)
  obtain ⟨b, hb, hb1⟩ := hidx (bits .and .u16 (x : Int) 255) (by rw [hand]; omega) (by rw [hand]; omega)
  clear hidx hand hand2 hsz
  go_wp2
  go_quiet (fail)
  go_wp2
  go_ret
  have hor : bits .or .u16 (a : Int) ((b : Int) * 256) = ((a ||| b * 256 : Nat) : Int) := by
    rw [show (b : Int) * 256 = ((b * 256 : Nat) : Int) by omega]
    exact u16_or_nat a (b * 256) (by omega) (by omega)
  exact ⟨⟨a ||| b * 256, by rw [← hor]; rfl, Nat.or_lt_two_pow (n := 16) (by omega) (by omega)⟩, _, rfl⟩

/-- the codes below i fit their lengths -/
structure Cd (N : Nat) (l c : List Int) (i : Nat) : Prop where
  len : c.length = N
  bd : ∀ j, j < i → 0 ≤ gt c j ∧ gt c j < 65536
  off : ∀ j, j < i → gt l j = 0 → gt c j = 0
  fit : ∀ j, j < i → gt l j ≠ 0 → gt c j < 2 ^ (gt l j).toNat
theorem Cd.step {N : Nat} {l c : List Int} {i : Nat} (h : Cd N l c i) (hi : i < N) (x : Int) (hx : 0 ≤ x ∧ x < 65536) (h0 : gt l i = 0 → x = 0) (h1 : gt l i ≠ 0 → x < 2 ^ (gt l i).toNat) : Cd N l (c.set i x) (i + 1) := by
  have hl := h.len
  have hs : gt (c.set i x) i = x := gt_set_self _ _ _ (by omega)
  have ho : ∀ j, j ≠ i → gt (c.set i x) j = gt c j := fun j hj => gt_set_ne _ _ _ _ (Ne.symm hj)
  refine ⟨by rw [List.length_set]; exact h.len, fun j hj => ?_, fun j hj h2 => ?_, fun j hj h2 => ?_⟩
  · by_cases e : j = i
    · subst e; rw [hs]; exact hx
    · rw [ho j e]; exact h.bd j (by omega)
  · by_cases e : j = i
    · subst e; rw [hs]; exact h0 h2
    · rw [ho j e]; exact h.off j (by omega) h2
  · by_cases e : j = i
    · subst e; rw [hs]; exact h1 h2
    · rw [ho j e]; exact h.fit j (by omega) h2

theorem Seg.pre {w : World} {b : Nat} {τ : TypeId} {k : IntKind} {pre post : List Value} {l : List Int} (h : Seg w b τ k pre l post) (j : Nat) (v : Value) (hv : pre[j]? = some v) : w.cell? ⟨b, j, none⟩ = some v := by
  rw [cell_of_row w b j _ τ (0, 0) h.at_, List.getElem?_toArray, List.getElem?_append_left (List.getElem?_eq_some_iff.1 hv).1]
  exact hv

/-- a row of sixteen -/
def Six (w : World) (b : Nat) : Prop := ∃ c : List Int, c.length = 16 ∧ (∀ j, j < 16 → 0 ≤ gt c j ∧ gt c j < 65536) ∧ Seg w b 69 .u16 [] c []
theorem Six.new (w : World) : Six (w.alloc (.cells #[.int .u16 0, .int .u16 0, .int .u16 0, .int .u16 0, .int .u16 0, .int .u16 0, .int .u16 0, .int .u16 0, .int .u16 0, .int .u16 0, .int .u16 0, .int .u16 0, .int .u16 0, .int .u16 0, .int .u16 0, .int .u16 0] 69)) w.heap.size :=
  ⟨List.replicate 16 0, by simp, fun j _ => by rw [gt_replicate]; omega, ⟨heap_alloc_new w _⟩⟩
theorem Six.alloc {w : World} {b : Nat} (h : Six w b) (o : Obj) : Six (w.alloc o) b := by
  obtain ⟨c, h1, h2, h3⟩ := h; exact ⟨c, h1, h2, h3.alloc o⟩
theorem Six.drewN {w : World} {b : Nat} (h : Six w b) (n : Nat) : Six (w.drewN n) b := by
  obtain ⟨c, h1, h2, h3⟩ := h; exact ⟨c, h1, h2, h3.drewN n⟩
theorem Six.other {w : World} {b : Nat} (h : Six w b) (a : Addr) (v : Value) (ha : b ≠ a.block) : Six (w.setCell a v) b := by
  obtain ⟨c, h1, h2, h3⟩ := h; exact ⟨c, h1, h2, h3.other a v ha⟩
theorem Six.lt {w : World} {b : Nat} (h : Six w b) : b < w.heap.size := by
  obtain ⟨c, h1, h2, h3⟩ := h; exact h3.lt
theorem Six.get {w : World} {b : Nat} (h : Six w b) (j : Nat) (hj : j < 16) : ∃ x : Nat, w.cell? ⟨b, j, none⟩ = some (.int .u16 x) ∧ x < 65536 ∧ w.frozen? ⟨b, j, none⟩ = false ∧ ∀ y : Int, 0 ≤ y → y < 65536 → Six (w.setCell ⟨b, j, none⟩ (.int .u16 y)) b := by
  obtain ⟨c, h1, h2, h3⟩ := h
  have b := h2 j hj
  refine ⟨(gt c j).toNat, ?_, by omega, h3.free j, fun y y0 y1 => ⟨c.set j y, by rw [List.length_set]; exact h1, fun i hi => ?_, Seg.set0 h3 j (by omega) y⟩⟩
  · rw [show ((gt c j).toNat : Int) = gt c j by omega]; exact Seg.cell0 h3 j (by omega)
  · by_cases e : i = j
    · subst e; rw [gt_set_self _ _ _ (by omega)]; omega
    · rw [gt_set_ne _ _ _ _ (by omega)]; exact h2 i hi

/-- the memory of 'canonicalCodes' -/
structure Mc (b : Nat) (τ : TypeId) (pre post : List Value) (s : Nat) (w0 wx : World) (c : List Int) : Prop where
  c1 : Six wx s
  c2 : Six wx (s + 1)
  hS : Seg wx b τ .u16 pre c post
  hG : w0.grownBy wx (some b)
  ord : b < s ∧ w0.heap.size = s
theorem Mc.six1 {b : Nat} {τ : TypeId} {pre post : List Value} {s : Nat} {w0 wx : World} {c : List Int} (h : Mc b τ pre post s w0 wx c) (j : Nat) (hj : j < 16) :
    ∃ x : Nat, wx.cell? ⟨s, j, none⟩ = some (.int .u16 x) ∧ x < 65536 ∧ wx.frozen? ⟨s, j, none⟩ = false ∧ ∀ y : Int, 0 ≤ y → y < 65536 → Mc b τ pre post s w0 (wx.setCell ⟨s, j, none⟩ (.int .u16 y)) c := by
  have o := h.ord
  obtain ⟨x, h1, h2, h3, h4⟩ := h.c1.get j hj
  exact ⟨x, h1, h2, h3, fun y y0 y1 => ⟨h4 y y0 y1, h.c2.other _ _ (by show s + 1 ≠ s; omega), h.hS.other _ _ (by show b ≠ s; omega), grown_set h.hG _ _ (.inl (by show _ ≤ s; omega)), o⟩⟩
theorem Mc.six2 {b : Nat} {τ : TypeId} {pre post : List Value} {s : Nat} {w0 wx : World} {c : List Int} (h : Mc b τ pre post s w0 wx c) (j : Nat) (hj : j < 16) :
    ∃ x : Nat, wx.cell? ⟨s + 1, j, none⟩ = some (.int .u16 x) ∧ x < 65536 ∧ wx.frozen? ⟨s + 1, j, none⟩ = false ∧ ∀ y : Int, 0 ≤ y → y < 65536 → Mc b τ pre post s w0 (wx.setCell ⟨s + 1, j, none⟩ (.int .u16 y)) c := by
  have o := h.ord
  obtain ⟨x, h1, h2, h3, h4⟩ := h.c2.get j hj
  exact ⟨x, h1, h2, h3, fun y y0 y1 => ⟨h.c1.other _ _ (by show s ≠ s + 1; omega), h4 y y0 y1, h.hS.other _ _ (by show b ≠ s + 1; omega), grown_set h.hG _ _ (.inl (by show _ ≤ s + 1; omega)), o⟩⟩
theorem Mc.setC {b : Nat} {τ : TypeId} {pre post : List Value} {s : Nat} {w0 wx : World} {c : List Int} (h : Mc b τ pre post s w0 wx c) (co j : Nat) (hco : co = pre.length) (hj : j < c.length) (x : Int) : Mc b τ pre post s w0 (wx.setCell ⟨b, co + j, none⟩ (.int .u16 x)) (c.set j x) := by
  have o := h.ord
  exact ⟨h.c1.other _ _ (by show s ≠ b; omega), h.c2.other _ _ (by show s + 1 ≠ b; omega), h.hS.set co j hco hj x, grown_set h.hG _ _ (.inr rfl), o⟩
theorem Mc.drewN {b : Nat} {τ : TypeId} {pre post : List Value} {s : Nat} {w0 wx : World} {c : List Int} (h : Mc b τ pre post s w0 wx c) (n : Nat) : Mc b τ pre post s w0 (wx.drewN n) c :=
  ⟨h.c1.drewN n, h.c2.drewN n, h.hS.drewN n, grown_drewN h.hG n, h.ord⟩
theorem Six.new2 (w : World) (o : Obj) : Six ((w.alloc o).alloc (.cells #[.int .u16 0, .int .u16 0, .int .u16 0, .int .u16 0, .int .u16 0, .int .u16 0, .int .u16 0, .int .u16 0, .int .u16 0, .int .u16 0, .int .u16 0, .int .u16 0, .int .u16 0, .int .u16 0, .int .u16 0, .int .u16 0] 69)) (w.heap.size + 1) := by
  have := Six.new (w.alloc o)
  rwa [show (w.alloc o).heap.size = w.heap.size + 1 from Array.size_push _] at this
theorem shr_lt (y l : Nat) (hy : y < 65536) (h1 : l ≤ 16) : y / 2 ^ (16 - l) < 2 ^ l := by
  rw [Nat.div_lt_iff_lt_mul (Nat.two_pow_pos _), ← Nat.pow_add, show l + (16 - l) = 16 by omega]; exact hy
set_option maxHeartbeats 1600000 in
set_option maxRecDepth 100000 in
theorem codes (b lo co N c1 c2 : Nat) (τ : TypeId) (pre post : List Value) (l c0 : List Int) (w : World) (hN : N ≤ 300) (hpre : ∀ j, j < N → pre[lo + j]? = some (.int .u8 (gt l j))) (hl : ∀ j, j < N → 0 ≤ gt l j ∧ gt l j ≤ 15) (hS : Seg w b τ .u16 pre c0 post) (hco : co = pre.length) (hc0 : c0.length = N) :
    Calls Ybad.prog 15 #[.slice (some ⟨b, lo, none⟩) N c1, .slice (some ⟨b, co, none⟩) N c2] w fun e w' => e = .returned (.tuple #[]) ∧ (∃ c, Seg w' b τ .u16 pre c post ∧ Cd N l c N) ∧ w.grownBy w' (some b) := by
  have hb := hS.lt
  have HPre : Hid (∀ j, j < N → pre[lo + j]? = some (.int .u8 (gt l j))) := hpre
  have HL : Hid (∀ j, j < N → 0 ≤ gt l j ∧ gt l j ≤ 15) := hl
  have HCo : Hid (co = pre.length) := hco
  clear hpre hl hco
  have hM0 : Mc b τ pre post w.heap.size w _ c0 := ⟨(Six.new w).alloc _, Six.new2 w _, (hS.alloc _).alloc _, grown_alloc (grown_alloc (World.grownBy.refl w (some b)) _) _, hb, rfl⟩
  clear hS
  go_enter Ybad.func15, Ybad.ntmps15
  go_upto_block 0 with fail
  go_cut [] from 12 to 23 (fun wx => Mc b τ pre post w.heap.size w wx c0)
  case first => as_aux_lemma =>
    go_wp2_with fail
    go_loopw [14] (fun iv wr => ∃ i : Nat, iv = .int .i64 i ∧ i ≤ N ∧ Mc b τ pre post w.heap.size w wr c0) (fun iv _ => N - (intOf iv).toNat)
    case atStart => exact ⟨0, rfl, by omega, hM0⟩
    case round =>
      clear hM0
      obtain ⟨i, rfl, hi, hM⟩ := hrel
      obtain ⟨wo, hwo⟩ : ∃ wo : World, wo = wr := ⟨_, rfl⟩
      rw [← hwo] at hM ⊢
      clear hwo
      by_cases hlt : i < N
      · as_aux_lemma =>
        have hlti : (i : Int) < N := by omega
        have hcl := Seg.pre hM.hS (lo + i) _ (HPre.out i hlt)
        have hbd := HL.out i hlt
        obtain ⟨x, hx⟩ : ∃ x : Nat, gt l i = x := ⟨(gt l i).toNat, by omega⟩
        rw [hx] at hcl hbd
        have hx15 : x ≤ 15 := by omega
        have hx16 : (x : Int) < 16 := by omega
        obtain ⟨v, hcv, hv1, hfr, hset⟩ := hM.six1 x (by omega)
        have hM' := hset (IntKind.u16.wrap (v + 1)) (by rw [IntKind.wrap_u16]; omega) (by rw [IntKind.wrap_u16]; omega)
        clear hset hbd hx
        go_wp2
        go_roundw
        case rel => exact ⟨i + 1, by go_num, by omega, hM'⟩
        case measure => simp [intOf]; omega
      · have hlti : ¬ (i : Int) < N := by omega
        go_wp2
        go_meet
        case rel => exact hM
  case rest =>
  clear hM0
  have hM1 := hcut
  clear hcut
  obtain ⟨v0, hcv0, hv01, hfr0, hset0⟩ := hM1.six1 0 (by omega)
  have hM2 := hset0 0 (by omega) (by omega)
  clear hset0
  go_upto_block 2 with fail
  go_cut [] from 24 to 38 (fun wx => Mc b τ pre post w.heap.size w wx c0)
  case first => as_aux_lemma =>
    go_wp2_with fail
    go_loopw [8, 9] (fun cv iv wr => ∃ i k : Nat, cv = .int .u16 k ∧ k < 65536 ∧ iv = .int .i64 i ∧ 1 ≤ i ∧ i ≤ 16 ∧ Mc b τ pre post w.heap.size w wr c0) (fun _ iv _ => 16 - (intOf iv).toNat)
    case atStart => exact ⟨1, 0, rfl, by omega, rfl, by omega, by omega, hM2⟩
    case round =>
      clear hM2 hM1 hcv0 hfr0
      obtain ⟨i, k, rfl, hk, rfl, hi1, hi, hM⟩ := hrel
      obtain ⟨wo, hwo⟩ : ∃ wo : World, wo = wr := ⟨_, rfl⟩
      rw [← hwo] at hM ⊢
      clear hwo
      by_cases hlt : i < 16
      · as_aux_lemma =>
        have hlti : (i : Int) < 16 := by omega
        obtain ⟨t, rfl⟩ : ∃ t, i = t + 1 := ⟨i - 1, by omega⟩
        have hti : (t : Int) < 16 := by omega
        obtain ⟨v, hcv, hv1, _, _⟩ := hM.six1 t (by omega)
        obtain ⟨v2, hcv2, hv2, hfr, hset⟩ := hM.six2 (t + 1) (by omega)
        obtain ⟨y, hy, hy1⟩ : ∃ y : Nat, IntKind.u16.wrap (IntKind.u16.wrap ((k : Int) + v) * 2) = y ∧ y < 65536 := ⟨(IntKind.u16.wrap (IntKind.u16.wrap ((k : Int) + v) * 2)).toNat, by simp only [IntKind.wrap_u16]; omega, by simp only [IntKind.wrap_u16]; omega⟩
        have hM' := hset y (by omega) (by omega)
        clear hset
        go_wp2
        go_roundw
        case rel => exact ⟨t + 1 + 1, y, by first | trivial | rfl, hy1, by go_num, by omega, by omega, hM'⟩
        case measure => simp [intOf]; omega
      · have hlti : ¬ (i : Int) < 16 := by omega
        go_wp2
        go_meet
        case rel => exact hM
  case rest =>
  have hM3 := hcut
  clear hcut hM2 hM1 hcv0 hfr0
  go_wp2_with fail
  go_loopw [41] (fun iv wr => ∃ (i : Nat) (c : List Int), iv = .int .i64 i ∧ i ≤ N ∧ Hid (Cd N l c i) ∧ Mc b τ pre post w.heap.size w wr c) (fun iv _ => N - (intOf iv).toNat)
  case atStart => exact ⟨0, c0, rfl, by omega, ⟨hc0, fun j hj => by omega, fun j hj => by omega, fun j hj => by omega⟩, hM3⟩
  case round =>
    clear hM3
    obtain ⟨i, c, rfl, hi, HC, hM⟩ := hrel
    obtain ⟨wo, hwo⟩ : ∃ wo : World, wo = wr := ⟨_, rfl⟩
    rw [← hwo] at hM ⊢
    clear hwo
    by_cases hlt : i < N
    · have hlti : (i : Int) < N := by omega
      have hcl := Seg.pre hM.hS (lo + i) _ (HPre.out i hlt)
      have hbd := HL.out i hlt
      have hcc := hM.hS.cell co i HCo.out (by rw [HC.out.len]; exact hlt)
      have hcf := hM.hS.free (co + i)
      obtain ⟨x, hx⟩ : ∃ x : Nat, gt l i = x := ⟨(gt l i).toNat, by omega⟩
      rw [hx] at hcl hbd
      have HX : Hid (gt l i = x) := hx
      have hx15 : x ≤ 15 := by omega
      clear hbd hx
      by_cases hx0 : x = 0
      · as_aux_lemma =>
        subst hx0
        have hM' := hM.setC co i HCo.out (by rw [HC.out.len]; exact hlt) 0
        have HC' : Hid (Cd N l (c.set i 0) (i + 1)) := HC.out.step hlt 0 (by omega) (fun _ => rfl) (fun h => absurd HX.out h)
        go_wp2
        go_roundw
        case rel => exact ⟨i + 1, _, by go_num, by omega, HC', hM'⟩
        case measure => simp [intOf]; omega
      · as_aux_lemma =>
        have hx0i : ¬ (x : Int) = 0 := by omega
        have hx16 : (x : Int) < 16 := by omega
        obtain ⟨v, hcv, hv1, _, _⟩ := hM.six2 x (by omega)
        go_wp2_with fail
        refine (rev16 v wo hv1).mono ?_
        rintro e w' ⟨⟨y, rfl, hy⟩, k, rfl⟩
        obtain ⟨z, hz, HZ⟩ : ∃ z : Nat, (16 : Int) - x = z ∧ Hid (z = 16 - x) := ⟨16 - x, by omega, rfl⟩
        have hq := shr_lt y x hy (by omega)
        rw [← HZ.out] at hq
        obtain ⟨d, hd⟩ : ∃ d, d = y / 2 ^ z := ⟨_, rfl⟩
        have hdi : (y : Int) / 2 ^ z = d := by rw [hd]; simp
        have hd1 : d < 65536 := by rw [hd]; exact Nat.lt_of_le_of_lt (Nat.div_le_self _ _) hy
        rw [← hd] at hq
        have HC' : Hid (Cd N l (c.set i d) (i + 1)) := HC.out.step hlt d (by omega) (fun h => by have := HX.out; omega) (fun _ => by rw [HX.out, Int.toNat_natCast]; exact_mod_cast hq)
        have hM2 := (hM.drewN k).setC co i HCo.out (by rw [HC.out.len]; exact hlt) d
        clear hq hd hcc
        obtain ⟨v2, hcv2, hv2, hfr2, hset2⟩ := hM2.six2 x (by omega)
        have hM4 := hset2 (IntKind.u16.wrap (v2 + 1)) (by rw [IntKind.wrap_u16]; omega) (by rw [IntKind.wrap_u16]; omega)
        clear hset2
        have hcc := (hM.drewN k).hS.cell co i HCo.out (by rw [HC.out.len]; exact hlt)
        have hcf' := (hM.drewN k).hS.free (co + i)
        go_wp2
        go_roundw
        case rel => exact ⟨i + 1, _, by go_num, by omega, HC', hM4⟩
        case measure => simp [intOf]; omega
    · have hlti : ¬ (i : Int) < N := by omega
      have e : i = N := by omega
      subst e
      go_wp2
      go_end0
      exact ⟨rfl, ⟨c, hM.hS, HC.out⟩, hM.hG⟩
end Go.Proofs.YbulkkrgDoor.Co
