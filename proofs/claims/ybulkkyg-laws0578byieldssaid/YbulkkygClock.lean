/-
  The clock's struct: build, alloc, store as laws at the operation (the walk's own steps there cost the kernel its memory).
-/
import Derived.Test.YbulkkygCols
import Derived.Deep.WholeRow
namespace Go.Proofs.Ybulkkyg.Ny
open Go.RowKit
/-- the clock's cells, as 'build' lays them -/
abbrev clock0 (s : ByteArray) : Array Value := #[.string s, .int .i64 0, .int .i64 1, .int .i64 0, .string ⟨#[]⟩, .string ⟨#[]⟩, .string ⟨#[]⟩, .string ⟨#[]⟩, .string ⟨#[]⟩, .string ⟨#[]⟩, .string ⟨#[]⟩, .string ⟨#[]⟩,
        .int .i64 0, .int .i64 0, .int .i64 0, .int .i64 0, .int .i64 0, .int .i64 0, .int .i64 0, .int .i64 0, .pointer none]
abbrev zeros31 : Array Value := #[.string ⟨#[]⟩, .int .i64 0, .int .i64 0, .int .i64 0, .string ⟨#[]⟩, .string ⟨#[]⟩, .string ⟨#[]⟩, .string ⟨#[]⟩, .string ⟨#[]⟩, .string ⟨#[]⟩, .string ⟨#[]⟩, .string ⟨#[]⟩,
        .int .i64 0, .int .i64 0, .int .i64 0, .int .i64 0, .int .i64 0, .int .i64 0, .int .i64 0, .int .i64 0, .pointer none]

theorem run_build31 (s : ByteArray) (w : World) : (Instr.build 31 #[(0, .string s), (2, .int .i64 1)]).run Yba.prog w = .ok (.agg (clock0 s)) w := by kernel_rfl
theorem run_alloc31 (w : World) : (Instr.alloc 31 true (.tuple #[])).run Yba.prog w = .ok (.pointer (some ⟨w.heap.size, 0, none⟩)) (w.alloc (.cells zeros31 31)) := by kernel_rfl
theorem size31 : (Yba.prog.info? 31).map (·.size) = some 21 := by kernel_rfl

theorem wpList_build31 {ops : Array Oper} {rest : List Oper} {o : Oper} {a : Act} {w : World} {Q : Exit → Act → World → Prop} (hgd : o.guard = none) (x0 x2 : Operand) (s : ByteArray)
    (ho : o.op = .build 31 #[(0, x0), (2, x2)]) (h0 : a.eval x0 = .string s) (h2 : a.eval x2 = .int .i64 1)
    (h : wpList Yba.prog ops Q rest (a.put o.dst (.agg (clock0 s))) w) : wpList Yba.prog ops Q (o :: rest) a w := by
  refine wpList_plain hgd fun K hK => ?_
  unfold Oper.wp execOp
  have e : (#[(0, x0), (2, x2)] : Array (Nat × Operand)).map (fun (i, x) => (i, a.eval x)) = #[(0, .string s), (2, .int .i64 1)] := by simp [h0, h2]
  simp only [ho, Sem.run_bind, e, run_build31, Result.andThen_ok, Sem.run_pure]
  exact hK _ _ h

theorem wpList_alloc31 {ops : Array Oper} {rest : List Oper} {o : Oper} {a : Act} {w : World} {Q : Exit → Act → World → Prop} (hgd : o.guard = none)
    (ho : o.op = .alloc 31)
    (h : wpList Yba.prog ops Q rest (a.put o.dst (.pointer (some ⟨w.heap.size, 0, none⟩))) (w.alloc (.cells zeros31 31))) : wpList Yba.prog ops Q (o :: rest) a w := by
  refine wpList_plain hgd fun K hK => ?_
  unfold Oper.wp execOp
  simp only [ho, Sem.run_bind, run_alloc31, Result.andThen_ok, Sem.run_pure]
  exact hK _ _ h

theorem wpList_store31 {ops : Array Oper} {rest : List Oper} {o : Oper} {a : Act} {w : World} {Q : Exit → Act → World → Prop} (hgd : o.guard = none) (x y : Operand) (s : ByteArray)
    (ho : o.op = .store 31 x y) (hx : a.eval x = .pointer (some ⟨w.heap.size, 0, none⟩)) (hy : a.eval y = .agg (clock0 s))
    (h : wpList Yba.prog ops Q rest (a.put o.dst undef) (w.alloc (.cells (clock0 s) 31))) : wpList Yba.prog ops Q (o :: rest) a (w.alloc (.cells zeros31 31)) := by
  refine wpList_store_row hgd 31 x y ho w.heap.size (clock0 s) hx hy 31 zeros31 (heap_alloc_new w _) size31 rfl ?_ ?_
  · simp [clock0, Value.oneCell']
  · rw [World.setRow_alloc_new]; exact h
end Go.Proofs.Ybulkkyg.Ny
