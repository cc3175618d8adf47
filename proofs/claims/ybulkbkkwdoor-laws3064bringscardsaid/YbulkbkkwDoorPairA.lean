/-
  LawS3064BPairwise (function 3): the chain of blocks that it lays.
-/
import Derived.Test.YbulkbkkwDoorCall6
import Derived.Test.YbulkbkkwDoorOps3
namespace Go.Proofs.YbulkbkkwDoor
open Go.RowKit
set_option linter.unusedVariables false

theorem heap_at (w : World) (o : Obj) (k : Nat) (hk : k = w.heap.size) : (w.alloc o).heap[k]? = some o := by subst hk; exact heap_alloc_new w o

theorem chain7 (w : World) (o0 o1 o2 o3 o4 o5 o6 : Obj) : Below w.heap.size w (((((((w.alloc o0).alloc o1).alloc o2).alloc o3).alloc o4).alloc o5).alloc o6) ∧ (((((((w.alloc o0).alloc o1).alloc o2).alloc o3).alloc o4).alloc o5).alloc o6).heap.size = w.heap.size + 1 + 1 + 1 + 1 + 1 + 1 + 1 ∧ (((((((w.alloc o0).alloc o1).alloc o2).alloc o3).alloc o4).alloc o5).alloc o6).heap[w.heap.size]? = some o0 ∧ (((((((w.alloc o0).alloc o1).alloc o2).alloc o3).alloc o4).alloc o5).alloc o6).heap[w.heap.size + 1]? = some o1 ∧ (((((((w.alloc o0).alloc o1).alloc o2).alloc o3).alloc o4).alloc o5).alloc o6).heap[w.heap.size + 1 + 1]? = some o2 ∧ (((((((w.alloc o0).alloc o1).alloc o2).alloc o3).alloc o4).alloc o5).alloc o6).heap[w.heap.size + 1 + 1 + 1]? = some o3 ∧ (((((((w.alloc o0).alloc o1).alloc o2).alloc o3).alloc o4).alloc o5).alloc o6).heap[w.heap.size + 1 + 1 + 1 + 1]? = some o4 ∧ (((((((w.alloc o0).alloc o1).alloc o2).alloc o3).alloc o4).alloc o5).alloc o6).heap[w.heap.size + 1 + 1 + 1 + 1 + 1]? = some o5 ∧ (((((((w.alloc o0).alloc o1).alloc o2).alloc o3).alloc o4).alloc o5).alloc o6).heap[w.heap.size + 1 + 1 + 1 + 1 + 1 + 1]? = some o6 := by
  refine ⟨((((((((Below.refl _ _).alloc (by simp <;> omega) _).alloc (by simp <;> omega) _).alloc (by simp <;> omega) _).alloc (by simp <;> omega) _).alloc (by simp <;> omega) _).alloc (by simp <;> omega) _).alloc (by simp <;> omega) _), by simp, ?_, ?_, ?_, ?_, ?_, ?_, ?_⟩
  · exact ((Below.heap_alloc _ _ _ (by simp <;> omega)).trans ((Below.heap_alloc _ _ _ (by simp <;> omega)).trans ((Below.heap_alloc _ _ _ (by simp <;> omega)).trans ((Below.heap_alloc _ _ _ (by simp <;> omega)).trans ((Below.heap_alloc _ _ _ (by simp <;> omega)).trans ((Below.heap_alloc _ _ _ (by simp <;> omega)).trans (heap_at _ _ _ (by simp))))))))
  · exact ((Below.heap_alloc _ _ _ (by simp <;> omega)).trans ((Below.heap_alloc _ _ _ (by simp <;> omega)).trans ((Below.heap_alloc _ _ _ (by simp <;> omega)).trans ((Below.heap_alloc _ _ _ (by simp <;> omega)).trans ((Below.heap_alloc _ _ _ (by simp <;> omega)).trans (heap_at _ _ _ (by simp)))))))
  · exact ((Below.heap_alloc _ _ _ (by simp <;> omega)).trans ((Below.heap_alloc _ _ _ (by simp <;> omega)).trans ((Below.heap_alloc _ _ _ (by simp <;> omega)).trans ((Below.heap_alloc _ _ _ (by simp <;> omega)).trans (heap_at _ _ _ (by simp))))))
  · exact ((Below.heap_alloc _ _ _ (by simp <;> omega)).trans ((Below.heap_alloc _ _ _ (by simp <;> omega)).trans ((Below.heap_alloc _ _ _ (by simp <;> omega)).trans (heap_at _ _ _ (by simp)))))
  · exact ((Below.heap_alloc _ _ _ (by simp <;> omega)).trans ((Below.heap_alloc _ _ _ (by simp <;> omega)).trans (heap_at _ _ _ (by simp))))
  · exact ((Below.heap_alloc _ _ _ (by simp <;> omega)).trans (heap_at _ _ _ (by simp)))
  · exact (heap_at _ _ _ (by simp))

theorem chain8 (w : World) (o0 o1 o2 o3 o4 o5 o6 o7 : Obj) : Below w.heap.size w ((((((((w.alloc o0).alloc o1).alloc o2).alloc o3).alloc o4).alloc o5).alloc o6).alloc o7) ∧ ((((((((w.alloc o0).alloc o1).alloc o2).alloc o3).alloc o4).alloc o5).alloc o6).alloc o7).heap.size = w.heap.size + 1 + 1 + 1 + 1 + 1 + 1 + 1 + 1 ∧ ((((((((w.alloc o0).alloc o1).alloc o2).alloc o3).alloc o4).alloc o5).alloc o6).alloc o7).heap[w.heap.size]? = some o0 ∧ ((((((((w.alloc o0).alloc o1).alloc o2).alloc o3).alloc o4).alloc o5).alloc o6).alloc o7).heap[w.heap.size + 1]? = some o1 ∧ ((((((((w.alloc o0).alloc o1).alloc o2).alloc o3).alloc o4).alloc o5).alloc o6).alloc o7).heap[w.heap.size + 1 + 1]? = some o2 ∧ ((((((((w.alloc o0).alloc o1).alloc o2).alloc o3).alloc o4).alloc o5).alloc o6).alloc o7).heap[w.heap.size + 1 + 1 + 1]? = some o3 ∧ ((((((((w.alloc o0).alloc o1).alloc o2).alloc o3).alloc o4).alloc o5).alloc o6).alloc o7).heap[w.heap.size + 1 + 1 + 1 + 1]? = some o4 ∧ ((((((((w.alloc o0).alloc o1).alloc o2).alloc o3).alloc o4).alloc o5).alloc o6).alloc o7).heap[w.heap.size + 1 + 1 + 1 + 1 + 1]? = some o5 ∧ ((((((((w.alloc o0).alloc o1).alloc o2).alloc o3).alloc o4).alloc o5).alloc o6).alloc o7).heap[w.heap.size + 1 + 1 + 1 + 1 + 1 + 1]? = some o6 ∧ ((((((((w.alloc o0).alloc o1).alloc o2).alloc o3).alloc o4).alloc o5).alloc o6).alloc o7).heap[w.heap.size + 1 + 1 + 1 + 1 + 1 + 1 + 1]? = some o7 := by
  refine ⟨(((((((((Below.refl _ _).alloc (by simp <;> omega) _).alloc (by simp <;> omega) _).alloc (by simp <;> omega) _).alloc (by simp <;> omega) _).alloc (by simp <;> omega) _).alloc (by simp <;> omega) _).alloc (by simp <;> omega) _).alloc (by simp <;> omega) _), by simp, ?_, ?_, ?_, ?_, ?_, ?_, ?_, ?_⟩
  · exact ((Below.heap_alloc _ _ _ (by simp <;> omega)).trans ((Below.heap_alloc _ _ _ (by simp <;> omega)).trans ((Below.heap_alloc _ _ _ (by simp <;> omega)).trans ((Below.heap_alloc _ _ _ (by simp <;> omega)).trans ((Below.heap_alloc _ _ _ (by simp <;> omega)).trans ((Below.heap_alloc _ _ _ (by simp <;> omega)).trans ((Below.heap_alloc _ _ _ (by simp <;> omega)).trans (heap_at _ _ _ (by simp)))))))))
  · exact ((Below.heap_alloc _ _ _ (by simp <;> omega)).trans ((Below.heap_alloc _ _ _ (by simp <;> omega)).trans ((Below.heap_alloc _ _ _ (by simp <;> omega)).trans ((Below.heap_alloc _ _ _ (by simp <;> omega)).trans ((Below.heap_alloc _ _ _ (by simp <;> omega)).trans ((Below.heap_alloc _ _ _ (by simp <;> omega)).trans (heap_at _ _ _ (by simp))))))))
  · exact ((Below.heap_alloc _ _ _ (by simp <;> omega)).trans ((Below.heap_alloc _ _ _ (by simp <;> omega)).trans ((Below.heap_alloc _ _ _ (by simp <;> omega)).trans ((Below.heap_alloc _ _ _ (by simp <;> omega)).trans ((Below.heap_alloc _ _ _ (by simp <;> omega)).trans (heap_at _ _ _ (by simp)))))))
  · exact ((Below.heap_alloc _ _ _ (by simp <;> omega)).trans ((Below.heap_alloc _ _ _ (by simp <;> omega)).trans ((Below.heap_alloc _ _ _ (by simp <;> omega)).trans ((Below.heap_alloc _ _ _ (by simp <;> omega)).trans (heap_at _ _ _ (by simp))))))
  · exact ((Below.heap_alloc _ _ _ (by simp <;> omega)).trans ((Below.heap_alloc _ _ _ (by simp <;> omega)).trans ((Below.heap_alloc _ _ _ (by simp <;> omega)).trans (heap_at _ _ _ (by simp)))))
  · exact ((Below.heap_alloc _ _ _ (by simp <;> omega)).trans ((Below.heap_alloc _ _ _ (by simp <;> omega)).trans (heap_at _ _ _ (by simp))))
  · exact ((Below.heap_alloc _ _ _ (by simp <;> omega)).trans (heap_at _ _ _ (by simp)))
  · exact (heap_at _ _ _ (by simp))

theorem calls_chain7 {f : FuncId} {args : Array Value} {R : Ending → World → Prop} (w : World) (o0 o1 o2 o3 o4 o5 o6 : Obj) (h : ∀ V, Below w.heap.size w V → V.heap.size = w.heap.size + 1 + 1 + 1 + 1 + 1 + 1 + 1 → V.heap[w.heap.size]? = some o0 → V.heap[w.heap.size + 1]? = some o1 → V.heap[w.heap.size + 1 + 1]? = some o2 → V.heap[w.heap.size + 1 + 1 + 1]? = some o3 → V.heap[w.heap.size + 1 + 1 + 1 + 1]? = some o4 → V.heap[w.heap.size + 1 + 1 + 1 + 1 + 1]? = some o5 → V.heap[w.heap.size + 1 + 1 + 1 + 1 + 1 + 1]? = some o6 → Calls Ybad.prog f args V R) : Calls Ybad.prog f args (((((((w.alloc o0).alloc o1).alloc o2).alloc o3).alloc o4).alloc o5).alloc o6) R := by
  obtain ⟨hB, hS, k0, k1, k2, k3, k4, k5, k6⟩ := chain7 w o0 o1 o2 o3 o4 o5 o6
  exact h _ hB hS k0 k1 k2 k3 k4 k5 k6

theorem calls_chain8 {f : FuncId} {args : Array Value} {R : Ending → World → Prop} (w : World) (o0 o1 o2 o3 o4 o5 o6 o7 : Obj) (h : ∀ V, Below w.heap.size w V → V.heap.size = w.heap.size + 1 + 1 + 1 + 1 + 1 + 1 + 1 + 1 → V.heap[w.heap.size]? = some o0 → V.heap[w.heap.size + 1]? = some o1 → V.heap[w.heap.size + 1 + 1]? = some o2 → V.heap[w.heap.size + 1 + 1 + 1]? = some o3 → V.heap[w.heap.size + 1 + 1 + 1 + 1]? = some o4 → V.heap[w.heap.size + 1 + 1 + 1 + 1 + 1]? = some o5 → V.heap[w.heap.size + 1 + 1 + 1 + 1 + 1 + 1]? = some o6 → V.heap[w.heap.size + 1 + 1 + 1 + 1 + 1 + 1 + 1]? = some o7 → Calls Ybad.prog f args V R) : Calls Ybad.prog f args ((((((((w.alloc o0).alloc o1).alloc o2).alloc o3).alloc o4).alloc o5).alloc o6).alloc o7) R := by
  obtain ⟨hB, hS, k0, k1, k2, k3, k4, k5, k6, k7⟩ := chain8 w o0 o1 o2 o3 o4 o5 o6 o7
  exact h _ hB hS k0 k1 k2 k3 k4 k5 k6 k7

theorem KeptX.low {w w2 : World} {X : Nat → Prop} {B : Nat} (h : KeptX X B w w2) {u : World} (hu : Below u.heap.size u w) (hB : u.heap.size ≤ B) (hX : ∀ k, X k → u.heap.size ≤ k) : KeptX (fun _ => False) u.heap.size u w2 :=
  ⟨h.os.trans hu.os, h.output.trans hu.output, Nat.le_trans hu.size h.size, fun k hk _ => (h.block k (by omega) (fun hx => by have := hX k hx; omega)).trans (hu.block k hk)⟩

set_option maxRecDepth 100000 in
theorem ring_at {V : World} {rb : Nat} {x : Int} (h : V.heap[rb]? = some (.cells ((((((((((((((((z79.setIfInBounds 33 (.int .u8 x)).setIfInBounds 34 (.int .u8 0)).setIfInBounds 35 (.int .u8 0)).setIfInBounds 36 (.int .u8 0)).setIfInBounds 37 (.int .u8 0)).setIfInBounds 38 (.int .u8 0)).setIfInBounds 39 (.int .u8 0)).setIfInBounds 40 (.int .u8 0)).setIfInBounds 41 (.int .u8 0)).setIfInBounds 42 (.int .u8 0)).setIfInBounds 43 (.int .u8 0)).setIfInBounds 44 (.int .u8 0)).setIfInBounds 45 (.int .u8 0)).setIfInBounds 46 (.int .u8 0)).setIfInBounds 47 (.int .u8 0)).setIfInBounds 48 (.int .u8 (bits .xor .u8 x 255))) 79 (0, 0))) : V.rangeAt rb 33 (ids16 (by16 fun i => if i = 0 then x else if i = 15 then bits .xor .u8 x 255 else 0)) := by
  intro j v hv
  have hj : j < 16 := (List.getElem?_eq_some_iff.1 hv).1
  rw [cell_of_row _ _ _ _ 79 (0, 0) h, ← hv]
  have : j = 0 ∨ j = 1 ∨ j = 2 ∨ j = 3 ∨ j = 4 ∨ j = 5 ∨ j = 6 ∨ j = 7 ∨ j = 8 ∨ j = 9 ∨ j = 10 ∨ j = 11 ∨ j = 12 ∨ j = 13 ∨ j = 14 ∨ j = 15 := by omega
  rcases this with rfl | rfl | rfl | rfl | rfl | rfl | rfl | rfl | rfl | rfl | rfl | rfl | rfl | rfl | rfl | rfl <;> (show (_ : Option Value) = _; kernel_rfl)

end Go.Proofs.YbulkbkkwDoor
