/-
  More single operations, over whatever frame.
-/
import Derived.Test.YbulkbkkwDoorOps
import Derived.Test.YbulkbkkwDoorTable2
namespace Go.Proofs.YbulkbkkwDoor
open Go.RowKit
set_option linter.unusedVariables false

theorem g_move {o : Oper} {a : Act} {w1 : World} {s : Nat} {v : Value} (ho : o.op = .move (.tmp s)) (h1 : a.tmps[s]? = some v) : (execOp a.eval o).run Ybad.prog w1 = .ok (.value v) w1 := by
  unfold execOp
  rw [ho]
  go_simp
theorem g_nil {o : Oper} {a : Act} {w1 : World} {s : Nat} {p : Addr} (ho : o.op = .nilCheck (.tmp s)) (h1 : a.tmps[s]? = some (.pointer (some p))) : (execOp a.eval o).run Ybad.prog w1 = .ok (.value (.pointer (some p))) w1 := by
  unfold execOp
  rw [ho]
  go_simp
theorem g_fld (t k off : Nat) {o : Oper} {a : Act} {w1 : World} {b i s : Nat} (ho : o.op = .fieldAddr t (.tmp s) k) (h1 : a.tmps[s]? = some (.pointer (some ⟨b, i, none⟩)))
    (hk : (t, k, off) ∈ [(26, 0, 0), (26, 1, 1), (64, 0, 0), (64, 14, 24), (71, 4, 4), (68, 0, 0), (48, 0, 0), (71, 7, 9), (71, 8, 10), (79, 4, 4), (79, 5, 33), (84, 0, 0), (84, 1, 1), (84, 6, 6), (121, 1, 1), (121, 3, 3), (121, 8, 8), (33, 1, 1), (93, 0, 0), (93, 1, 1), (93, 2, 2)]) :
    (execOp a.eval o).run Ybad.prog w1 = .ok (.value (.pointer (some ⟨b, i + off, none⟩))) w1 := by
  unfold execOp
  rw [ho]
  simp only [List.mem_cons, Prod.mk.injEq, List.not_mem_nil, or_false] at hk
  rcases hk with ⟨rfl, rfl, rfl⟩ | ⟨rfl, rfl, rfl⟩ | ⟨rfl, rfl, rfl⟩ | ⟨rfl, rfl, rfl⟩ | ⟨rfl, rfl, rfl⟩ | ⟨rfl, rfl, rfl⟩ | ⟨rfl, rfl, rfl⟩ | ⟨rfl, rfl, rfl⟩ | ⟨rfl, rfl, rfl⟩ | ⟨rfl, rfl, rfl⟩ | ⟨rfl, rfl, rfl⟩ | ⟨rfl, rfl, rfl⟩ | ⟨rfl, rfl, rfl⟩ | ⟨rfl, rfl, rfl⟩ | ⟨rfl, rfl, rfl⟩ | ⟨rfl, rfl, rfl⟩ | ⟨rfl, rfl, rfl⟩ | ⟨rfl, rfl, rfl⟩ | ⟨rfl, rfl, rfl⟩ | ⟨rfl, rfl, rfl⟩ | ⟨rfl, rfl, rfl⟩ <;> go_simp
theorem g_ld (t : TypeId) {o : Oper} {a : Act} {w1 : World} {b off s : Nat} {v : Value} (ho : o.op = .load t (.tmp s)) (h1 : a.tmps[s]? = some (.pointer (some ⟨b, off, none⟩))) (hc : w1.cell? ⟨b, off, none⟩ = some v)
    (ht : t ∈ [9, 21, 4, 3, 23, 24, 37, 41, 49, 54, 65, 80, 5]) : (execOp a.eval o).run Ybad.prog w1 = .ok (.value v) w1 := by
  unfold execOp
  rw [ho]
  simp only [List.mem_cons, List.not_mem_nil, or_false] at ht
  rcases ht with rfl | rfl | rfl | rfl | rfl | rfl | rfl | rfl | rfl | rfl | rfl | rfl | rfl <;> go_simp
theorem g_store24 {o : Oper} {a : Act} {w1 : World} {b i s r : Nat} {ad : Addr} {n c : Nat} {u : Value} (ho : o.op = .store 24 (.tmp s) (.tmp r)) (h1 : a.tmps[s]? = some (.pointer (some ⟨b, i, none⟩))) (h2 : a.tmps[r]? = some (.slice (some ad) n c)) (hc : w1.cell? ⟨b, i, none⟩ = some u) (hf : w1.frozen? ⟨b, i, none⟩ = false) :
    (execOp a.eval o).run Ybad.prog w1 = .ok .skip (w1.setCell ⟨b, i, none⟩ (.slice (some ad) n c)) := by
  unfold execOp
  rw [ho]
  go_simp
theorem fold_zip : ∀ (ms : List Value) (pre z : List Value), ms.length ≤ z.length →
    (ms.zipIdx pre.length).foldl (fun (cs : Array Value) x => cs.setIfInBounds x.2 x.1) (pre ++ z).toArray = (pre ++ ms ++ z.drop ms.length).toArray
  | [], pre, z, _ => by simp
  | m :: ms, pre, [], h => by simp at h
  | m :: ms, pre, y :: z, h => by
    have ih := fold_zip ms (pre ++ [m]) z (by simpa using h)
    rw [List.zipIdx_cons, List.foldl_cons]
    have e : (pre ++ y :: z).toArray.setIfInBounds pre.length m = ((pre ++ [m]) ++ z).toArray := by
      simp
    simp only at e ⊢
    rw [e]
    have e2 : (pre ++ [m]).length = pre.length + 1 := by simp
    rw [e2] at ih
    rw [ih]
    simp
theorem fold_arr (ms z : Array Value) (n : Nat) (h : z.size = ms.size) (hn : n = ms.size) : Array.foldl (fun (cs : Array Value) x => cs.setIfInBounds x.snd x.fst) z ms.zipIdx 0 n = ms := by
  have h1 : n = ms.zipIdx.size := by simp [hn]
  rw [h1, ← Array.foldl_toList]
  have := fold_zip ms.toList [] z.toList (by simp [h])
  simp only [List.length_nil, List.nil_append, Array.length_toList] at this
  rw [Array.toList_zipIdx]
  have e : z.toList.drop ms.size = [] := List.drop_eq_nil_of_le (by simp [h])
  rw [e] at this
  simpa using this
theorem g_bsl24 {o : Oper} {a : Act} {w1 : World} {s : Nat} {ms : Array Value} (ho : o.op = .buildSlice 24 1 #[(0, .tmp s)]) (h1 : a.tmps[s]? = some (.agg ms)) (hs : ms.size = 39) :
    (execOp a.eval o).run Ybad.prog w1 = .ok (.value (.slice (some ⟨w1.heap.size, 0, none⟩) 1 1)) (w1.alloc (.cells ms 89)) := by
  unfold execOp
  rw [ho]
  go_simp
  rw [fold_arr ms _ 39 (by rw [hs]; rfl) hs.symm]
end Go.Proofs.YbulkbkkwDoor
