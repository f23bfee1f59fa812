import Derived.Test.YbulkkrgIxMask
namespace Go.Proofs.Ybulkkrg.Ix
open Go.RowKit
theorem build54 : ∃ z : Array Value, z.size = 1560 ∧ ∀ (a : Option Addr) (N cp : Nat) (t o c st : Int) (w : World),
    (Instr.build 54 #[(0, .slice a N cp), (3, .int .u64 t), (4, .int .u64 o), (5, .int .u64 c), (6, .int .i64 st)]).run Yba.prog w =
      .ok (.agg (((((z.setIfInBounds 0 (.slice a N cp)).setIfInBounds 3 (.int .u64 t)).setIfInBounds 4 (.int .u64 o)).setIfInBounds 5 (.int .u64 c)).setIfInBounds 6 (.int .i64 st))) w :=
  ⟨(((Yba.prog.info? 54).bind (·.zero)).getD (.agg #[])).cells, by kernel_rfl, fun a N cp t o c st w => by kernel_rfl⟩
theorem box54 (cs : Array Value) (w : World) : (Instr.box 54 (.agg cs)).run Yba.prog w = .ok (.pointer (some ⟨w.heap.size, 0, none⟩)) (w.alloc (.cells cs 54)) := by
  kernel_rfl
/-- the new index: a block whose five named cells are those that were handed -/
theorem wpList_new54 {ops : Array Oper} {rest : List Oper} {o1 o2 : Oper} {a : Act} {w : World} {Q : Exit → Act → World → Prop} (hg1 : o1.guard = none) (hg2 : o2.guard = none) (x0 x3 x4 x5 x6 y : Operand)
    (ho1 : o1.op = .build 54 #[(0, x0), (3, x3), (4, x4), (5, x5), (6, x6)]) (ho2 : o2.op = .box 54 y)
    (ad : Option Addr) (N cp : Nat) (t o c st : Int) (h0 : a.eval x0 = .slice ad N cp) (h3 : a.eval x3 = .int .u64 t) (h4 : a.eval x4 = .int .u64 o) (h5 : a.eval x5 = .int .u64 c) (h6 : a.eval x6 = .int .i64 st)
    (hd : ∀ v, (a.put o1.dst v).eval y = v)
    (h : ∀ cs : Array Value, cs.size = 1560 → cs[0]? = some (.slice ad N cp) → cs[3]? = some (.int .u64 t) → cs[4]? = some (.int .u64 o) → cs[5]? = some (.int .u64 c) → cs[6]? = some (.int .i64 st) →
      wpList Yba.prog ops Q rest ((a.put o1.dst (.agg cs)).put o2.dst (.pointer (some ⟨w.heap.size, 0, none⟩))) (w.alloc (.cells cs 54))) : wpList Yba.prog ops Q (o1 :: o2 :: rest) a w := by
  obtain ⟨z, hz, hb⟩ := build54
  refine wpList_plain hg1 fun K hK => ?_
  unfold Oper.wp execOp
  have e : (#[(0, x0), (3, x3), (4, x4), (5, x5), (6, x6)] : Array (Nat × Operand)).map (fun (i, x) => (i, a.eval x)) = #[(0, .slice ad N cp), (3, .int .u64 t), (4, .int .u64 o), (5, .int .u64 c), (6, .int .i64 st)] := by simp [h0, h3, h4, h5, h6]
  simp only [ho1, Sem.run_bind, e, hb, Result.andThen_ok, Sem.run_pure]
  apply hK
  refine wpList_plain hg2 fun K hK => ?_
  unfold Oper.wp execOp
  simp only [ho2, hd, Sem.run_bind, box54, Result.andThen_ok, Sem.run_pure]
  apply hK
  apply h <;> simp [hz]
end Go.Proofs.Ybulkkrg.Ix
