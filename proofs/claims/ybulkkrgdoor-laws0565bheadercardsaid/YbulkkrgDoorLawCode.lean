/-
  'LawS0565BCode' (3) returns true.
-/
import Derived.Test.YbulkkrgDoorBlk
import Derived.Test.YbulkkrgDoorChk
import Derived.Test.YbulkkrgDoorBuild
namespace Go.Proofs.YbulkkrgDoor.La
open Go.RowKit Go.Proofs.YbulkkrgDoor.Srt Go.Proofs.YbulkkrgDoor.Mm Go.Proofs.YbulkkrgDoor.Hu Go.Proofs.YbulkkrgDoor.Co Go.Proofs.YbulkkrgDoor.Fb Go.Proofs.YbulkkrgDoor.De Go.Proofs.YbulkkrgDoor.Bl Go.Proofs.YbulkkrgDoor.Bu Go.Proofs.YbulkkrgDoor.Ck
set_option linter.unusedVariables false

def z31 : List Value := e8 (List.replicate 286 0) ++ (e8 (List.replicate 30 0) ++ (e16 (List.replicate 286 0) ++ e16 (List.replicate 30 0)))
def z37 : List Value := h3 0 0 0 ++ ((List.replicate 19 0).map (Value.int .u8) ++ ((List.replicate 19 0).map (Value.int .u16) ++ [.slice none 0 0, .slice none 0 0]))
theorem alloc31 (w : World) : (Instr.alloc 31 true (.tuple #[])).run Ybad.prog w = .ok (.pointer (some ⟨w.heap.size, 0, none⟩)) (w.alloc (.cells z31.toArray 31)) := by kernel_rfl
theorem alloc37 (w : World) : (Instr.alloc 37 true (.tuple #[])).run Ybad.prog w = .ok (.pointer (some ⟨w.heap.size, 0, none⟩)) (w.alloc (.cells z37.toArray 37)) := by kernel_rfl
theorem wpList_alloc31 {ops : Array Oper} {rest : List Oper} {o : Oper} {a : Act} {w : World} {Q : Exit → Act → World → Prop} (hg : o.guard = none) (ho : o.op = .alloc 31)
    (h : ∀ cs : Array Value, cs = z31.toArray → wpList Ybad.prog ops Q rest (a.put o.dst (.pointer (some ⟨w.heap.size, 0, none⟩))) (w.alloc (.cells cs 31))) : wpList Ybad.prog ops Q (o :: rest) a w := by
  refine wpList_plain hg fun K hK => ?_
  unfold Oper.wp execOp
  simp only [ho, Sem.run_bind, alloc31, Result.andThen_ok, Sem.run_pure]
  apply hK
  exact h _ rfl
theorem wpList_alloc37 {ops : Array Oper} {rest : List Oper} {o : Oper} {a : Act} {w : World} {Q : Exit → Act → World → Prop} (hg : o.guard = none) (ho : o.op = .alloc 37)
    (h : ∀ cs : Array Value, cs = z37.toArray → wpList Ybad.prog ops Q rest (a.put o.dst (.pointer (some ⟨w.heap.size, 0, none⟩))) (w.alloc (.cells cs 37))) : wpList Ybad.prog ops Q (o :: rest) a w := by
  refine wpList_plain hg fun K hK => ?_
  unfold Oper.wp execOp
  simp only [ho, Sem.run_bind, alloc37, Result.andThen_ok, Sem.run_pure]
  apply hK
  exact h _ rfl
theorem cb_new (w : World) (cs : Array Value) (h : cs = z31.toArray) : ∃ a d ca cd, Cb (w.alloc (.cells cs 31)) w.heap.size a d ca cd :=
  ⟨List.replicate 286 0, List.replicate 30 0, List.replicate 286 0, List.replicate 30 0, by rw [h]; exact heap_alloc_new w _, List.length_replicate, List.length_replicate, List.length_replicate, List.length_replicate⟩
theorem hb_new (w : World) (cs : Array Value) (h : cs = z37.toArray) : ∃ cl cc, Hb (w.alloc (.cells cs 37)) w.heap.size 0 0 0 cl cc (.slice none 0 0) (.slice none 0 0) :=
  ⟨List.replicate 19 0, List.replicate 19 0, by rw [h]; exact heap_alloc_new w _, List.length_replicate, List.length_replicate⟩
theorem Cn.alloc {w : World} {nb : Nat} {Fl Fd : List Int} (h : Cn w nb Fl Fd) (o : Obj) : Cn (w.alloc o) nb Fl Fd := Cn.kept' h (World.grownBy_alloc w o none) (by simp)

set_option maxHeartbeats 1600000 in
set_option maxRecDepth 100000 in
theorem code (a0 a1 : Option Addr) (n0 c0 n1 c1 : Nat) (w : World) (h0 : Hits w a0 n0) (h1 : Hits w a1 n1) (hm0 : n0 ≤ maxLen) (hm1 : n1 ≤ maxLen) (hT : Tb w) (h4 : 4 ≤ w.heap.size) :
    Calls Ybad.prog 3 #[.slice a0 n0 c0, .slice a1 n1 c1] w fun e w' => e = .returned (.bool true) ∧ Below w.heap.size w w' := by
  unfold maxLen at hm0 hm1
  have H0 : Hid (Hits w a0 n0) := h0
  have H1 : Hid (Hits w a1 n1) := h1
  clear h0 h1
  by_cases k0 : 1024 < n0
  · have k0i : (1024 : Int) < n0 := by omega
    go_enter Ybad.func3, Ybad.ntmps3
    go_wp2
    go_ret
    exact ⟨rfl, Below.refl _ _⟩
  have k0i : ¬ (1024 : Int) < n0 := by omega
  by_cases k1 : 1024 < n1
  · have k1i : (1024 : Int) < n1 := by omega
    go_enter Ybad.func3, Ybad.ntmps3
    go_wp2
    go_ret
    exact ⟨rfl, Below.refl _ _⟩
  have k1i : ¬ (1024 : Int) < n1 := by omega
  go_enter Ybad.func3, Ybad.ntmps3
  go_wp2_with fail
  refine (build a0 a1 n0 c0 n1 c1 w H0.out H1.out (by omega) (by omega)).mono ?_
  rintro e w1 ⟨rfl, ⟨Fl, Fd, hn, hbl, hbd⟩, hg1⟩
  have HBl : Hid (Bd32 Fl 286) := hbl
  have HBd : Hid (Bd32 Fd 30) := hbd
  have hT1 := hT.kept hg1 (fun k hk => by have := Option.some.inj hk; omega)
  have hB1 : Below w.heap.size w w1 := (Below.refl _ _).grown hg1 (Nat.le_refl _) (fun k hk => by have := Option.some.inj hk; omega)
  have hnb := hn.lt
  obtain ⟨s, hs⟩ : ∃ s, s = w.heap.size := ⟨_, rfl⟩
  rw [← hs] at hn hnb hB1 h4 ⊢
  have HS : Hid (s = w.heap.size) := hs
  clear hbl hbd hT hg1 H0 H1 hs
  go_upto_region 4 with fail
  go_step
  refine wpList_alloc31 rfl rfl ?_
  intro cs1 hcs1
  obtain ⟨za, zd, zca, zcd, hC2⟩ := cb_new w1 cs1 hcs1
  have hn2 := Cn.alloc hn (.cells cs1 31)
  have hT2 := hT1.kept (World.grownBy_alloc w1 (.cells cs1 31) none) (fun k hk => by cases hk)
  have hB2 := hB1.alloc (by omega) (.cells cs1 31)
  obtain ⟨cb, hcb⟩ : ∃ cb, cb = w1.heap.size := ⟨_, rfl⟩
  have hsz2 : (w1.alloc (.cells cs1 31)).heap.size = cb + 1 := by rw [hcb]; exact Array.size_push _
  rw [← hcb] at hC2 hnb ⊢
  clear hcb hcs1 hn hT1 hB1
  generalize w1.alloc (.cells cs1 31) = w2 at *
  go_upto_region 5 with fail
  go_step
  refine wpList_alloc37 rfl rfl ?_
  intro cs2 hcs2
  obtain ⟨zl, zc, hH3⟩ := hb_new w2 cs2 hcs2
  have hC3 := Cb.kept' hC2 (World.grownBy_alloc w2 (.cells cs2 37) none) (by simp)
  have hn3 := Cn.alloc hn2 (.cells cs2 37)
  have hT3 := hT2.kept (World.grownBy_alloc w2 (.cells cs2 37) none) (fun k hk => by cases hk)
  have hB3 := hB2.alloc (by omega) (.cells cs2 37)
  have hsz3 : (w2.alloc (.cells cs2 37)).heap.size = cb + 1 + 1 := by rw [← hsz2]; exact Array.size_push _
  rw [hsz2] at hH3 ⊢
  clear hcs2 hC2 hn2 hT2 hB2
  generalize w2.alloc (.cells cs2 37) = w3 at *
  go_wp2_with fail
  have hcall := fitBlock cb (cb + 1) s Fl Fd za zd zca zcd zl zc 0 0 0 w3 hC3 hH3 hn3 HBl.out HBd.out (by omega) (by omega) (by omega) hT3 (by omega) (by omega)
  refine hcall.mono ?_
  clear hcall
  rintro e w4 ⟨a, d, ca, cd, L, D, C, R, cl, cc, rv, lv, rfl, hK, hbel⟩
  have hB4 := hB3.trans (hbel s (by omega) (by omega) (by omega))
  have hC4 := hK.hC
  have hn4 := hK.cn
  have HFt : Hid (Ft Fl Fd a d ca cd) := hK.ft
  clear hK hbel hB3 hC3 hH3 hn3 hT3
  have HA : Hid (∀ j, j < 286 → 0 ≤ gt a j ∧ gt a j ≤ 15) := fun j hj => by have := Hf.bd15 HFt.out.ha j hj; omega
  have HD : Hid (∀ j, j < 30 → 0 ≤ gt d j ∧ gt d j ≤ 15) := fun j hj => by have := Hf.bd15 HFt.out.hd j hj; omega
  have hq1 : ∀ W, Cb W cb a d ca cd → Cn W s Fl Fd → Calls Ybad.prog 8 #[.slice (some ⟨s, 0, none⟩) 286 286, .slice (some ⟨cb, 0, none⟩) 286 286, .int .i64 15] W fun e w' => e = .returned (.bool true) ∧ w' = W := fun W hW hN =>
    complete s 0 286 286 cb 0 286 15 Fl a W (by omega) (by omega) (by omega) hN.cl HBl.out (fun t ht => hW.segA.cell 0 t rfl (by rw [hW.la]; exact ht)) HFt.out.ha
  have hq2 : ∀ W, Cb W cb a d ca cd → Cn W s Fl Fd → Calls Ybad.prog 8 #[.slice (some ⟨s, 286, none⟩) 30 30, .slice (some ⟨cb, 286, none⟩) 30 30, .int .i64 15] W fun e w' => e = .returned (.bool true) ∧ w' = W := fun W hW hN =>
    complete s 286 30 30 cb 286 30 15 Fd d W (by omega) (by omega) (by omega) hN.cd HBd.out (fun t ht => hW.segD.cell 286 t (by rw [List.length_map]; exact hW.la.symm) (by rw [hW.ld]; exact ht)) HFt.out.hd
  have hq3 : ∀ W, Cb W cb a d ca cd → Calls Ybad.prog 9 #[.slice (some ⟨cb, 0, none⟩) 286 286, .slice (some ⟨cb, 316, none⟩) 286 286] W fun e w' => e = .returned (.bool true) ∧ ∃ n, w' = W.drewN n := fun W hW =>
    codesok cb 0 316 286 286 286 a ca W (by omega) (fun t ht => hW.segA.cell 0 t rfl (by rw [hW.la]; exact ht)) (fun t ht => hW.segC.cell 316 t (by rw [List.length_append, List.length_map, List.length_map, hW.la, hW.ld]) (by rw [hW.lca]; exact ht)) HA.out HFt.out.hca
  have hq4 : ∀ W, Cb W cb a d ca cd → Calls Ybad.prog 9 #[.slice (some ⟨cb, 286, none⟩) 30 30, .slice (some ⟨cb, 602, none⟩) 30 30] W fun e w' => e = .returned (.bool true) ∧ ∃ n, w' = W.drewN n := fun W hW =>
    codesok cb 286 602 30 30 30 d cd W (by omega) (fun t ht => hW.segD.cell 286 t (by rw [List.length_map]; exact hW.la.symm) (by rw [hW.ld]; exact ht)) (fun t ht => hW.segE.cell 602 t (by rw [List.length_append, List.length_append, List.length_map, List.length_map, List.length_map, hW.la, hW.ld, hW.lca]) (by rw [hW.lcd]; exact ht)) HD.out HFt.out.hcd
  have Q1 : Hid _ := hq1
  have Q2 : Hid _ := hq2
  have Q3 : Hid _ := hq3
  have Q4 : Hid _ := hq4
  clear hq1 hq2 hq3 hq4 HA HD HFt HBl HBd
  go_upto_region 7 with fail
  go_cut [28] from 21 to 28 (fun v wx => v = .bool false ∧ ∃ n, w4.drewN n = wx)
  case first =>
    go_region_with (go_at_call 8; refine (Q1.out _ (hC4.drewN 1) (hn4.drewN 1)).mono ?_; rintro e w' ⟨rfl, rfl⟩)
    all_goals
      go_wp2_with fail
      go_meet
      case rel => exact ⟨by first | rfl | simp, 1, rfl⟩
  case rest =>
  obtain ⟨rfl, k5, rfl⟩ := hcut
  have hC5 := hC4.drewN k5
  have hn5 := hn4.drewN k5
  have hB5 : Below s w (w4.drewN k5) := ⟨hB4.os, hB4.tape, hB4.output, hB4.size, hB4.block⟩
  clear hC4 hn4 hB4
  generalize w4.drewN k5 = w5 at *
  go_upto_region 9 with fail
  go_cut [36] from 29 to 36 (fun v wx => v = .bool false ∧ ∃ n, w5.drewN n = wx)
  case first =>
    go_region_with (go_at_call 8; refine (Q2.out _ (hC5.drewN 1) (hn5.drewN 1)).mono ?_; rintro e w' ⟨rfl, rfl⟩)
    all_goals
      go_wp2_with fail
      go_meet
      case rel => exact ⟨by first | rfl | simp, 1, rfl⟩
  case rest =>
  obtain ⟨rfl, k6, rfl⟩ := hcut
  have hC6 := hC5.drewN k6
  have hB6 : Below s w (w5.drewN k6) := ⟨hB5.os, hB5.tape, hB5.output, hB5.size, hB5.block⟩
  clear hC5 hn5 hB5
  generalize w5.drewN k6 = w6 at *
  go_upto_region 11 with fail
  go_quiet (first | (go_at_call 9; with_reducible refine Calls.quiet_of (Q3.out _ (hC6.drewN _))) | (go_at_call 9; with_reducible refine Calls.quiet_of (Q4.out _ (hC6.drewN _))))
  go_wp2
  go_ret
  exact ⟨rfl, by rw [← HS.out]; exact ⟨hB6.os, hB6.tape, hB6.output, hB6.size, hB6.block⟩⟩
end Go.Proofs.YbulkkrgDoor.La
