/-
  More single operations: what the laws' checks do.
-/
import Derived.Test.YbulkbkkwDoorOps2
namespace Go.Proofs.YbulkbkkwDoor
open Go.RowKit
set_option linter.unusedVariables false

theorem g_lenS (t : TypeId) {o : Oper} {a : Act} {w1 : World} {s n c : Nat} {p : Addr} (ho : o.op = .call { callee := .builtin .len, args := #[.tmp s], argTypes := #[t] }) (h1 : a.tmps[s]? = some (.slice (some p) n c)) (ht : t = 24 ∨ t = 23 ∨ t = 54 ∨ t = 91) : (execOp a.eval o).run Ybad.prog w1 = .ok (.value (.int .i64 n)) w1 := by
  unfold execOp
  rw [ho]
  rcases ht with rfl | rfl | rfl | rfl <;> go_simp
theorem g_eqI {o : Oper} {a : Act} {w1 : World} {s : Nat} {n : Int} (ho : o.op = .binOp .eql 3 (.tmp s) (.const (.int .i64 n)) 3) (h1 : a.tmps[s]? = some (.int .i64 n)) : (execOp a.eval o).run Ybad.prog w1 = .ok (.value (.bool true)) w1 := by
  unfold execOp
  rw [ho]
  go_simp
theorem g_eqS {o : Oper} {a : Act} {w1 : World} {s r : Nat} {x : ByteArray} (ho : o.op = .binOp .eql 9 (.tmp s) (.tmp r) 9) (h1 : a.tmps[s]? = some (.string x)) (h2 : a.tmps[r]? = some (.string x)) : (execOp a.eval o).run Ybad.prog w1 = .ok (.value (.bool true)) w1 := by
  unfold execOp
  rw [ho]
  go_simp
theorem g_neS {o : Oper} {a : Act} {w1 : World} {s r : Nat} {x : ByteArray} (ho : o.op = .binOp .neq 9 (.tmp s) (.tmp r) 9) (h1 : a.tmps[s]? = some (.string x)) (h2 : a.tmps[r]? = some (.string x)) : (execOp a.eval o).run Ybad.prog w1 = .ok (.value (.bool false)) w1 := by
  unfold execOp
  rw [ho]
  go_simp
theorem g_and {o : Oper} {a : Act} {w1 : World} {s r : Nat} (ho : o.op = .pick (.tmp s) (.tmp r) (.const (.bool false))) (h1 : a.tmps[s]? = some (.bool true)) (h2 : a.tmps[r]? = some (.bool true)) : (execOp a.eval o).run Ybad.prog w1 = .ok (.value (.bool true)) w1 := by
  unfold execOp
  rw [ho]
  go_simp
theorem g_or {o : Oper} {a : Act} {w1 : World} {s r : Nat} (ho : o.op = .pick (.tmp s) (.const (.bool true)) (.tmp r)) (h1 : a.tmps[s]? = some (.bool false)) (h2 : a.tmps[r]? = some (.bool false)) : (execOp a.eval o).run Ybad.prog w1 = .ok (.value (.bool false)) w1 := by
  unfold execOp
  rw [ho]
  go_simp
theorem g_not {o : Oper} {a : Act} {w1 : World} {s : Nat} {b : Bool} (ho : o.op = .unOp .not 4 (.tmp s)) (h1 : a.tmps[s]? = some (.bool b)) : (execOp a.eval o).run Ybad.prog w1 = .ok (.value (.bool (!b))) w1 := by
  unfold execOp
  rw [ho]
  go_simp
theorem g_ix0 (t sz : Nat) {o : Oper} {a : Act} {w1 : World} {s g n c : Nat} (ho : o.op = .indexAddr t (.tmp s) (.const (.int .i64 0))) (h1 : a.tmps[s]? = some (.slice (some ⟨g, 0, none⟩) (n + 1) c)) (ht : (t, sz) ∈ [(23, 1), (24, 39)]) : (execOp a.eval o).run Ybad.prog w1 = .ok (.value (.pointer (some ⟨g, 0, none⟩))) w1 := by
  unfold execOp
  rw [ho]
  simp only [List.mem_cons, Prod.mk.injEq, List.not_mem_nil, or_false] at ht
  have h3 : (0 : Int) < (n : Int) + 1 := by omega
  rcases ht with ⟨rfl, rfl⟩ | ⟨rfl, rfl⟩ <;> go_simp
theorem g_ix (t sz : Nat) {o : Oper} {a : Act} {w1 : World} {s r g n c i : Nat} (ho : o.op = .indexAddr t (.tmp s) (.tmp r)) (h1 : a.tmps[s]? = some (.slice (some ⟨g, 0, none⟩) n c)) (h2 : a.tmps[r]? = some (.int .i64 i)) (hi : i < n) (ht : (t, sz) ∈ [(23, 1), (24, 39), (54, 1), (91, 3)]) : (execOp a.eval o).run Ybad.prog w1 = .ok (.value (.pointer (some ⟨g, i * sz, none⟩))) w1 := by
  unfold execOp
  rw [ho]
  simp only [List.mem_cons, Prod.mk.injEq, List.not_mem_nil, or_false] at ht
  have h3 : (i : Int) < (n : Int) := by omega
  have h4 : (0 : Int) ≤ (i : Int) := by omega
  rcases ht with ⟨rfl, rfl⟩ | ⟨rfl, rfl⟩ | ⟨rfl, rfl⟩ | ⟨rfl, rfl⟩ <;> go_simp
theorem g_call7 {o : Oper} {a : Act} {w1 : World} {s r q p : Nat} {u v x y : Value} (ho : o.op = .call { callee := .value (.func 7), args := #[.tmp s, .tmp r, .tmp q, .tmp p], argTypes := #[89, 21, 9, 72] }) (h1 : a.tmps[s]? = some u) (h2 : a.tmps[r]? = some v) (h3 : a.tmps[q]? = some x) (h4 : a.tmps[p]? = some y) : (execOp a.eval o).run Ybad.prog w1 = .ok (.enter 7 #[u, v, x, y]) w1 := by
  unfold execOp
  rw [ho]
  go_simp
end Go.Proofs.YbulkbkkwDoor
