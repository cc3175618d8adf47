/-
  Single operations of this program, over whatever frame: what each yields.
-/
import Derived.Test.YbulkbkkwDoorDisc
namespace Go.Proofs.YbulkbkkwDoor
open Go.RowKit
set_option linter.unusedVariables false

theorem g_field (k off : Nat) {o : Oper} {a : Act} {w1 : World} {cb : Nat} {s : Nat} (ho : o.op = .fieldAddr 40 (.tmp s) k) (h1 : a.tmps[s]? = some (.pointer (some ⟨cb, 0, none⟩)))
    (hk : (k, off) ∈ [(0, 0), (1, 1), (2, 2), (4, 4), (5, 5), (6, 6), (7, 12), (8, 13), (9, 14), (10, 15), (11, 16), (12, 17)]) :
    (execOp a.eval o).run Ybad.prog w1 = .ok (.value (.pointer (some ⟨cb, off, none⟩))) w1 := by
  unfold execOp
  rw [ho]
  simp only [List.mem_cons, Prod.mk.injEq, List.not_mem_nil, or_false] at hk
  rcases hk with ⟨rfl, rfl⟩ | ⟨rfl, rfl⟩ | ⟨rfl, rfl⟩ | ⟨rfl, rfl⟩ | ⟨rfl, rfl⟩ | ⟨rfl, rfl⟩ | ⟨rfl, rfl⟩ | ⟨rfl, rfl⟩ | ⟨rfl, rfl⟩ | ⟨rfl, rfl⟩ | ⟨rfl, rfl⟩ | ⟨rfl, rfl⟩ <;> go_simp
theorem g_load (t : TypeId) {o : Oper} {a : Act} {w1 : World} {b off s : Nat} {v : Value} (ho : o.op = .load t (.tmp s)) (h1 : a.tmps[s]? = some (.pointer (some ⟨b, off, none⟩))) (hc : w1.cell? ⟨b, off, none⟩ = some v)
    (ht : t ∈ [9, 21, 4, 3, 35, 37, 23, 34, 38]) : (execOp a.eval o).run Ybad.prog w1 = .ok (.value v) w1 := by
  unfold execOp
  rw [ho]
  simp only [List.mem_cons, List.not_mem_nil, or_false] at ht
  rcases ht with rfl | rfl | rfl | rfl | rfl | rfl | rfl | rfl | rfl <;> go_simp
theorem g_map (t : TypeId) {o : Oper} {a : Act} {w1 : World} (ho : o.op = .makeMap t none) : (execOp a.eval o).run Ybad.prog w1 = .ok (.value (.map (some w1.heap.size))) (w1.alloc (.map #[] 0)) := by
  have hmm := @run_makeMap Ybad.prog
  unfold execOp
  rw [ho]
  go_simp
theorem g_len {o : Oper} {a : Act} {w1 : World} {s : Nat} (ho : o.op = .call { callee := .builtin .len, args := #[.tmp s], argTypes := #[23] }) (h1 : a.tmps[s]? = some (.slice none 0 0)) : (execOp a.eval o).run Ybad.prog w1 = .ok (.value (.int .i64 0)) w1 := by
  unfold execOp
  rw [ho]
  go_simp
theorem g_call {o : Oper} {a : Act} {w1 : World} (ho : o.op = .call { callee := .value (.func 8), args := #[], argTypes := #[] }) : (execOp a.eval o).run Ybad.prog w1 = .ok (.enter 8 #[]) w1 := by
  unfold execOp
  rw [ho]
  go_simp
theorem g_box (t : TypeId) {o : Oper} {a : Act} {w1 : World} {s : Nat} {arr : Array Value} (ho : o.op = .box t (.tmp s)) (h1 : a.tmps[s]? = some (.agg arr)) : (execOp a.eval o).run Ybad.prog w1 = .ok (.value (.pointer (some ⟨w1.heap.size, 0, none⟩))) (w1.alloc (.cells arr t)) := by
  unfold execOp
  rw [ho]
  go_simp
theorem g_assign {o : Oper} {a : Act} {w1 : World} {s : Nat} {v : Value} (ho : o.op = .assign (.tmp s)) (h1 : a.tmps[s]? = some v) : (execOp a.eval o).run Ybad.prog w1 = .ok (.value v) w1 := by
  unfold execOp
  rw [ho]
  go_simp
theorem g_build (t : TypeId) {o : Oper} {a : Act} {w1 : World} {parts : Array (Nat × Operand)} {arr : Array Value} (ho : o.op = .build t parts) (vals : Array (Nat × Value)) (hv : parts.map (fun p => (p.1, a.eval p.2)) = vals) (hb : (Instr.build t vals).run Ybad.prog w1 = .ok (.agg arr) w1) :
    (execOp a.eval o).run Ybad.prog w1 = .ok (.value (.agg arr)) w1 := by
  unfold execOp
  rw [ho]
  subst hv
  simp [hb]
end Go.Proofs.YbulkbkkwDoor
