import Derived.Test.YbulkbkkwGreatDoorMake
namespace Go.Proofs.YbulkbkkwGreatDoor
open Go.RowKit
set_option linter.unusedVariables false
set_option maxRecDepth 100000
/-- The node as the law makes it. -/
def nodeC (v : Value) : Array Value := #[.slice none 0 0, .nilIface, .pointer none, .int .i32 0, .bool false, .bool false, .bool false, .bool false, .string ⟨#[]⟩, .int .i64 0, .float .f64 0, .bool false, v, .int .u8 0, .int .u64 0, .string ⟨#[]⟩, .int .i64 0, .map none, .slice none 0 0, .slice none 0 0, .map none, .slice none 0 0, .int .i64 0, .int .i64 0, .slice none 0 0, .bool false, .slice none 0 0, .slice none 0 0, .slice none 0 0, .int .i64 0, .map none, .int .u32 0, .int .u64 0, .map none, .map none, .int .i64 0, .map none, .map none, .nilFunc, .int .u32 0, .int .u32 0, .slice none 0 0, .int .i64 0, .int .u64 0, .slice none 0 0, .slice none 0 0, .slice none 0 0, .slice none 0 0, .int .i64 0, .bool false, .int .i64 0, .slice none 0 0, .slice none 0 0, .int .u64 0, .slice none 0 0, .slice none 0 0, .map none, .int .i64 0, .int .i64 0, .int .u64 0, .map none, .map none, .int .u64 0, .int .u64 0, .int .u64 0, .int .u64 0, .int .u64 0, .int .u64 0, .int .u64 0, .int .u64 0, .int .u64 0, .int .u64 0, .int .u64 0, .int .u64 0, .int .u64 0, .int .u64 0, .int .u64 0, .int .u64 0, .int .u64 0, .int .u64 0, .int .u64 0, .int .u64 0, .int .u64 0, .int .u64 0, .int .u64 0, .int .u64 0, .int .u64 0, .int .u64 0, .int .u64 0, .int .u64 0, .int .u64 0, .int .u64 0, .int .u64 0, .int .u64 0, .int .u64 0, .int .u64 0, .int .u64 0, .int .u64 0, .int .u64 0, .int .u64 0, .int .u64 0, .int .u64 0, .int .u64 0, .int .u64 0, .int .u64 0, .int .u64 0, .int .u64 0, .int .u64 0, .int .u64 0, .int .u64 0, .int .u64 0, .int .u64 0, .int .u64 0, .int .u64 0, .int .u64 0, .int .u64 0, .int .u64 0, .int .u64 0, .int .u64 0, .int .u64 0, .int .u64 0, .int .u64 0, .int .u64 0, .int .u64 0, .int .u64 0, .int .u64 0]
theorem nodeC_5 (v : Value) : (nodeC v)[5]? = some (.bool false) := rfl
theorem nodeC_12 (v : Value) : (nodeC v)[12]? = some v := rfl
theorem ev {a : Act} {s : Nat} {v : Value} (h : a.tmps[s]? = some v) : a.eval (.tmp s) = v := by simp [Act.eval, h]
theorem g_build97 {o : Oper} {a : Act} {w1 : World} {s : Nat} {v : Int} (ho : o.op = .build 97 #[(8, .tmp s)]) (h1 : a.tmps[s]? = some (.agg (z68.setIfInBounds 4 (.int .i64 v)))) : (execOp a.eval o).run Ybaz.prog w1 = .ok (.value (.agg (nodeC (.int .i64 v)))) w1 := by
  unfold execOp
  rw [ho]
  simp only [List.map_toArray, List.map_cons, List.map_nil, ev h1]
  kernel_rfl
end Go.Proofs.YbulkbkkwGreatDoor
