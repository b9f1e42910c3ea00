import Derived.Test.YbulkcxfyP
namespace Go.Proofs.Ybulkcxfy
open Go.RowKit

theorem rep_start (w : World) (arr : Array Value) (me n : Int) (h0 : arr.toList.length = 61) (h1 : arr.toList[0]? = some (.int .i64 me)) (h2 : arr.toList[1]? = some (.int .i64 n)) (h3 : arr.toList[36]? = some (.slice none 0 0)) (h4 : arr.toList[38]? = some (.slice none 0 0)) :
    Rep w.heap.size (w.alloc (.cells arr 102)) w.heap.size me n [] [] arr.toList (.slice none 0 0) (.slice none 0 0) :=
  ⟨Blk.new w arr 102, h0, h1, h2, h3, h4, World.ownsRow_nil _ _ _ _, World.ownsRow_nil _ _ _ _, fun p hp => by simp at hp, fun p hp => by simp at hp, Nat.le_refl _⟩

theorem build_one (x : Int) : ∃ arr : Array Value, (∀ w, (Instr.build 102 #[(0, .int .i64 x)]).run Yba.prog w = .ok (.agg arr) w) ∧ arr.toList.length = 61 ∧ arr.toList[0]? = some (.int .i64 x) ∧ arr.toList[1]? = some (.int .i64 0) ∧ arr.toList[36]? = some (.slice none 0 0) ∧ arr.toList[38]? = some (.slice none 0 0) :=
  ⟨(match (Yba.prog.info? 102).bind (·.zero) with | some v => v.cells | none => #[]).setIfInBounds 0 (.int .i64 x), fun w => by kernel_rfl, by kernel_rfl, by kernel_rfl, by kernel_rfl, by kernel_rfl, by kernel_rfl⟩
theorem build_two (x y : Int) : ∃ arr : Array Value, (∀ w, (Instr.build 102 #[(0, .int .i64 x), (1, .int .i64 y)]).run Yba.prog w = .ok (.agg arr) w) ∧ arr.toList.length = 61 ∧ arr.toList[0]? = some (.int .i64 x) ∧ arr.toList[1]? = some (.int .i64 y) ∧ arr.toList[36]? = some (.slice none 0 0) ∧ arr.toList[38]? = some (.slice none 0 0) :=
  ⟨((match (Yba.prog.info? 102).bind (·.zero) with | some v => v.cells | none => #[]).setIfInBounds 0 (.int .i64 x)).setIfInBounds 1 (.int .i64 y), fun w => by kernel_rfl, by kernel_rfl, by kernel_rfl, by kernel_rfl, by kernel_rfl, by kernel_rfl⟩

/-- an operation whose run is known -/
theorem wpList_value {P : Program} {w w' : World} {ops : Array Oper} {rest : List Oper} {o : Oper} {a : Act} {Q : Exit → Act → World → Prop} (hg : o.guard = none) (v : Value) (hrun : (execOp a.eval o).run P w = .ok (.value v) w')
    (hK : wpList P ops Q rest (a.put o.dst v) w') : wpList P ops Q (o :: rest) a w :=
  wpList_plain hg fun K hK' => by unfold Oper.wp; rw [hrun]; exact hK' _ _ hK
theorem exec_build1 {w : World} {o : Oper} {a : Act} {s : Operand} {x : Int} {arr : Array Value} (hop : o.op = Op.build 102 #[(0, s)]) (hs : a.eval s = .int .i64 x) (h : ∀ w, (Instr.build 102 #[(0, .int .i64 x)]).run Yba.prog w = .ok (.agg arr) w) :
    (execOp a.eval o).run Yba.prog w = .ok (.value (.agg arr)) w := by
  simp only [execOp, hop, List.map_toArray, List.map_cons, List.map_nil, hs, Sem.run_bind, h, Result.andThen_ok, Sem.run_pure]
theorem exec_build2 {w : World} {o : Oper} {a : Act} {s t : Operand} {x y : Int} {arr : Array Value} (hop : o.op = Op.build 102 #[(0, s), (1, t)]) (hs : a.eval s = .int .i64 x) (ht : a.eval t = .int .i64 y) (h : ∀ w, (Instr.build 102 #[(0, .int .i64 x), (1, .int .i64 y)]).run Yba.prog w = .ok (.agg arr) w) :
    (execOp a.eval o).run Yba.prog w = .ok (.value (.agg arr)) w := by
  simp only [execOp, hop, List.map_toArray, List.map_cons, List.map_nil, hs, ht, Sem.run_bind, h, Result.andThen_ok, Sem.run_pure]
theorem exec_box {w : World} {o : Oper} {a : Act} {s : Operand} {arr : Array Value} (hop : o.op = Op.box 102 s) (hs : a.eval s = .agg arr) :
    (execOp a.eval o).run Yba.prog w = .ok (.value (.pointer (some ⟨w.heap.size, 0, none⟩))) (w.alloc (.cells arr 102)) := by
  simp [execOp, hop, hs, Instr.box, newVar, newRow, Value.cells]
end Go.Proofs.Ybulkcxfy
