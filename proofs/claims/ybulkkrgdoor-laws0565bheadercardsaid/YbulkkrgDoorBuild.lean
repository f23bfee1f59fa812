/-
  The walk of 'build' (6): the counts off the hits.
-/
import Derived.Test.YbulkkrgDoorFit
import Derived.Below
namespace Go.Proofs.YbulkkrgDoor.Bu
open Go.RowKit Go.Proofs.YbulkkrgDoor.Srt Go.Proofs.YbulkkrgDoor.Mm Go.Proofs.YbulkkrgDoor.Hu Go.Proofs.YbulkkrgDoor.Co Go.Proofs.YbulkkrgDoor.Fb
set_option linter.unusedVariables false

theorem build47 (w : World) : (Instr.build 47 #[]).run Ybad.prog w = .ok (.agg ((List.replicate 316 0).map (Value.int .u32)).toArray) w := by kernel_rfl
theorem box47 (cs : Array Value) (w : World) : (Instr.box 47 (.agg cs)).run Ybad.prog w = .ok (.pointer (some ⟨w.heap.size, 0, none⟩)) (w.alloc (.cells cs 47)) := by kernel_rfl
theorem wpList_new47 {ops : Array Oper} {rest : List Oper} {o1 o2 : Oper} {a : Act} {w : World} {Q : Exit → Act → World → Prop} (hg1 : o1.guard = none) (hg2 : o2.guard = none) (y : Operand)
    (ho1 : o1.op = .build 47 #[]) (ho2 : o2.op = .box 47 y) (hd : ∀ v, (a.put o1.dst v).eval y = v)
    (h : ∀ cs : Array Value, cs = ((List.replicate 316 0).map (Value.int .u32)).toArray → wpList Ybad.prog ops Q rest ((a.put o1.dst (.agg cs)).put o2.dst (.pointer (some ⟨w.heap.size, 0, none⟩))) (w.alloc (.cells cs 47))) : wpList Ybad.prog ops Q (o1 :: o2 :: rest) a w := by
  refine wpList_plain hg1 fun K hK => ?_
  unfold Oper.wp execOp
  have e : (#[] : Array (Nat × Operand)).map (fun (i, x) => (i, a.eval x)) = #[] := by simp
  simp only [ho1, Sem.run_bind, e, build47, Result.andThen_ok, Sem.run_pure]
  apply hK
  refine wpList_plain hg2 fun K hK => ?_
  unfold Oper.wp execOp
  simp only [ho2, hd, Sem.run_bind, box47, Result.andThen_ok, Sem.run_pure]
  apply hK
  exact h _ rfl

theorem gt_take (F : List Int) (n s : Nat) (h : s < n) : gt (F.take n) s = gt F s := by
  unfold gt; rw [List.getD_eq_getElem?_getD, List.getD_eq_getElem?_getD, List.getElem?_take, if_pos h]
theorem gt_drop (F : List Int) (n s : Nat) : gt (F.drop n) s = gt F (n + s) := by
  unfold gt; rw [List.getD_eq_getElem?_getD, List.getD_eq_getElem?_getD, List.getElem?_drop]
/-- the hits in memory -/
def Hits (w : World) (a : Option Addr) (len : Nat) : Prop := len = 0 ∨ ∃ b o, a = some ⟨b, o, none⟩ ∧ ∀ j, j < len → ∃ x y : Nat, w.cell? ⟨b, o + j * 2, none⟩ = some (.int .u16 x) ∧ x < 65536 ∧ w.cell? ⟨b, o + j * 2 + 1, none⟩ = some (.int .u32 y) ∧ y < 4294967296
/-- the counts while they are set -/
structure Ct (w0 wx : World) (F : List Int) : Prop where
  seg : Seg wx w0.heap.size 47 .u32 [] F []
  len : F.length = 316
  bd : ∀ s, s < 316 → 0 ≤ gt F s ∧ gt F s < 4294967296
  gr : w0.grownBy wx (some w0.heap.size)
theorem Ct.drewN {w0 wx : World} {F : List Int} (h : Ct w0 wx F) (n : Nat) : Ct w0 (wx.drewN n) F := ⟨h.seg.drewN n, h.len, h.bd, grown_drewN h.gr n⟩
theorem Ct.set {w0 wx : World} {F : List Int} (h : Ct w0 wx F) (j : Nat) (hj : j < 316) (y : Nat) (hy : y < 4294967296) : Ct w0 (wx.setCell ⟨w0.heap.size, j, none⟩ (.int .u32 y)) (F.set j y) := by
  have hl := h.len
  refine ⟨Seg.set0 h.seg j (by omega) y, by rw [List.length_set]; exact h.len, fun s hs => ?_, grown_set h.gr _ _ (.inr rfl)⟩
  by_cases e : s = j
  · subst e; rw [gt_set_self _ _ _ (by omega)]; omega
  · rw [gt_set_ne _ _ _ _ (by omega)]; exact h.bd s hs

set_option maxHeartbeats 1600000 in
set_option maxRecDepth 100000 in
theorem build (a0 a1 : Option Addr) (n0 c0 n1 c1 : Nat) (w : World) (h0 : Hits w a0 n0) (h1 : Hits w a1 n1) (hn0 : n0 ≤ 1024) (hn1 : n1 ≤ 1024) :
    Calls Ybad.prog 6 #[.slice a0 n0 c0, .slice a1 n1 c1] w fun e w' => e = .returned (.pointer (some ⟨w.heap.size, 0, none⟩)) ∧ (∃ Fl Fd : List Int, Cn w' w.heap.size Fl Fd ∧ Bd32 Fl 286 ∧ Bd32 Fd 30) ∧ w.grownBy w' (some w.heap.size) := by
  have H0 : Hid (Hits w a0 n0) := h0
  have H1 : Hid (Hits w a1 n1) := h1
  clear h0 h1
  go_enter Ybad.func6, Ybad.ntmps6
  go_upto_region 1 with fail
  go_step
  refine wpList_new47 rfl rfl (.tmp 8) rfl rfl (by exact fun _ => rfl) ?_
  intro cs hcs
  have hM0 : Ct w (w.alloc (.cells cs 47)) (List.replicate 316 0) := ⟨⟨by rw [hcs]; exact heap_alloc_new w _⟩, by simp, fun s _ => by rw [gt_replicate]; omega, grown_alloc (World.grownBy.refl w _) _⟩
  generalize w.alloc (.cells cs 47) = w1 at *
  clear hcs
  obtain ⟨nb, hnb⟩ : ∃ nb, nb = w.heap.size := ⟨_, rfl⟩
  go_upto_block 0 with fail
  go_cut [] from 10 to 31 (fun wx => ∃ F, Ct w wx F)
  case first =>
    go_wp2_with fail
    go_loopw [6] (fun iv wr => ∃ (i : Nat) (F : List Int), iv = .int .i64 i ∧ i ≤ n0 ∧ Ct w wr F) (fun iv _ => n0 - (intOf iv).toNat)
    case atStart => exact ⟨0, _, rfl, by omega, hM0⟩
    case round =>
      clear hM0
      obtain ⟨i, F, rfl, hi, hM⟩ := hrel
      obtain ⟨wo, hwo⟩ : ∃ wo : World, wo = wr := ⟨_, rfl⟩
      rw [← hwo] at hM ⊢
      clear hwo
      by_cases hlt : i < n0
      · have hlti : (i : Int) < n0 := by omega
        obtain ⟨b, o, hab, hc⟩ : ∃ b o, a0 = some ⟨b, o, none⟩ ∧ ∀ j, j < n0 → ∃ x y : Nat, w.cell? ⟨b, o + j * 2, none⟩ = some (.int .u16 x) ∧ x < 65536 ∧ w.cell? ⟨b, o + j * 2 + 1, none⟩ = some (.int .u32 y) ∧ y < 4294967296 := by
          rcases H0.out with h | h
          · omega
          · exact h
        subst hab
        obtain ⟨x, y, hx, hx1, hy, hy1⟩ := hc i hlt
        have hcx := grown_cell hM.gr hx (by have := World.block_lt_of_cell? _ _ hx; show b ≠ _; exact Nat.ne_of_lt this)
        have hcy := grown_cell hM.gr hy (by have := World.block_lt_of_cell? _ _ hy; show b ≠ _; exact Nat.ne_of_lt this)
        obtain ⟨q, hq, hq1⟩ : ∃ q : Nat, Int.tmod (x : Int) 286 = q ∧ q < 286 := ⟨x % 286, by rw [Int.tmod_eq_emod_of_nonneg (by omega)]; omega, Nat.mod_lt _ (by omega)⟩
        have hqi : (q : Int) < 286 := by omega
        have hcq := Seg.cell0 hM.seg q (by have := hM.len; omega)
        have hfq := hM.seg.free q
        have hM' := (hM.set q (by omega) y hy1).drewN 1
        clear hc hx hy
        go_wp2_with fail
        go_region
        go_wp2
        go_roundw
        case rel => exact ⟨i + 1, _, by go_num, by omega, hM'⟩
        case measure => simp [intOf]; omega
      · have hlti : ¬ (i : Int) < n0 := by omega
        go_wp2
        go_meet
        case rel => exact ⟨F, hM⟩
  case rest =>
  clear hM0
  obtain ⟨F1, hM1⟩ := hcut
  go_wp2_with fail
  go_loopw [7] (fun iv wr => ∃ (i : Nat) (F : List Int), iv = .int .i64 i ∧ i ≤ n1 ∧ Ct w wr F) (fun iv _ => n1 - (intOf iv).toNat)
  case atStart => exact ⟨0, _, rfl, by omega, hM1⟩
  case round =>
    clear hM1
    obtain ⟨i, F, rfl, hi, hM⟩ := hrel
    obtain ⟨wo, hwo⟩ : ∃ wo : World, wo = wr := ⟨_, rfl⟩
    rw [← hwo] at hM ⊢
    clear hwo
    by_cases hlt : i < n1
    · have hlti : (i : Int) < n1 := by omega
      obtain ⟨b, o, hab, hc⟩ : ∃ b o, a1 = some ⟨b, o, none⟩ ∧ ∀ j, j < n1 → ∃ x y : Nat, w.cell? ⟨b, o + j * 2, none⟩ = some (.int .u16 x) ∧ x < 65536 ∧ w.cell? ⟨b, o + j * 2 + 1, none⟩ = some (.int .u32 y) ∧ y < 4294967296 := by
        rcases H1.out with h | h
        · omega
        · exact h
      subst hab
      obtain ⟨x, y, hx, hx1, hy, hy1⟩ := hc i hlt
      have hcx := grown_cell hM.gr hx (by have := World.block_lt_of_cell? _ _ hx; show b ≠ _; exact Nat.ne_of_lt this)
      have hcy := grown_cell hM.gr hy (by have := World.block_lt_of_cell? _ _ hy; show b ≠ _; exact Nat.ne_of_lt this)
      obtain ⟨q, hq, hq1⟩ : ∃ q : Nat, Int.tmod (x : Int) 30 = q ∧ q < 30 := ⟨x % 30, by rw [Int.tmod_eq_emod_of_nonneg (by omega)]; omega, Nat.mod_lt _ (by omega)⟩
      have hqi : (q : Int) < 30 := by omega
      have hcq := Seg.cell0 hM.seg (286 + q) (by have := hM.len; omega)
      have hfq := hM.seg.free (286 + q)
      have hM' := (hM.set (286 + q) (by omega) y hy1).drewN 1
      clear hc hx hy
      go_wp2_with fail
      go_region
      go_wp2
      go_roundw
      case rel => exact ⟨i + 1, _, by go_num, by omega, hM'⟩
      case measure => simp [intOf]; omega
    · have hlti : ¬ (i : Int) < n1 := by omega
      go_wp2
      go_ret
      have hl := hM.len
      refine ⟨rfl, ⟨F.take 286, F.drop 286, ⟨fun s hs => ?_, fun s hs => ?_⟩, fun s hs => ?_, fun s hs => ?_⟩, hM.gr⟩
      · rw [gt_take F 286 s hs, Nat.zero_add]; exact Seg.cell0 hM.seg s (by omega)
      · rw [gt_drop F 286 s]; exact Seg.cell0 hM.seg (286 + s) (by omega)
      · rw [gt_take F 286 s hs]; exact hM.bd s (by omega)
      · rw [gt_drop F 286 s]; exact hM.bd (286 + s) (by omega)
end Go.Proofs.YbulkkrgDoor.Bu
