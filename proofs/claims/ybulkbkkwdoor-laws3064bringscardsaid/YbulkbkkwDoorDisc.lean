/-
  newDiscovery (function 8).
-/
import Derived.Test.YbulkbkkwDoorZero
import Derived.Test.YbulkbkkwDoorTable
import Derived.Carry
import Derived.OwnWalk
import Derived.Laws.Tables
import Derived.Deep.MidRow
namespace Go.Proofs.YbulkbkkwDoor
open Go.RowKit
set_option linter.unusedVariables false

/-- What newDiscovery hands back: three new maps, all else zero. -/
def d115 (r1 r2 r3 : Nat) : Array Value := ((z115.setIfInBounds 5 (.map (some r1))).setIfInBounds 9 (.map (some r2))).setIfInBounds 10 (.map (some r3))
set_option maxRecDepth 100000 in
theorem built115 (r1 r2 r3 : Nat) (w : World) : (Instr.build 115 #[(3, .map (some r1)), (7, .map (some r2)), (8, .map (some r3))]).run Ybad.prog w = .ok (.agg (d115 r1 r2 r3)) w :=
  run_build w 115 _ _ (by kernel_rfl)
theorem size_d115 (r1 r2 r3 : Nat) : (d115 r1 r2 r3).size = 75 := by simp [d115, zs115]
set_option maxRecDepth 100000 in
theorem one_d115 (r1 r2 r3 : Nat) : (d115 r1 r2 r3).all (·.oneCell') = true := by kernel_rfl
theorem info115 : (Ybad.prog.info? 115).map (·.size) = some 75 := by kernel_rfl

theorem there_new (w : World) (arr : Array Value) (t : TypeId) (n : Nat) (h : n ≤ arr.size) : (w.alloc (.cells arr t)).there w.heap.size 0 n := by
  intro j hj
  have hr := heap_alloc_new w (.cells arr t)
  refine ⟨by rw [Nat.zero_add, cell_of_row _ _ _ arr t (0, 0) hr, Array.getElem?_eq_getElem (by omega)]; rfl, ?_⟩
  unfold World.frozen?
  rw [hr]
  simp

theorem there_below {w w' : World} {b o n : Nat} (h : w.there b o n) (hb : Below w.heap.size w w') : w'.there b o n := by
  intro j hj
  obtain ⟨h1, h2⟩ := h j hj
  obtain ⟨x, hx⟩ := Option.isSome_iff_exists.1 h1
  have hl := World.block_lt_of_cell? w _ hx
  rw [hb.cell hl, hb.frozen hl]
  exact ⟨h1, h2⟩

theorem below_setCells {B : Nat} (b : Nat) (hb : B ≤ b) : ∀ (vs : List Value) (o : Nat) (w : World), Below B w (w.setCells b o vs)
  | [], _, _ => Below.refl _ _
  | v :: vs, o, w => ((Below.refl B w).setCell (p := ⟨b, o, none⟩) hb v).trans (below_setCells b hb vs (o + 1) _)

set_option maxHeartbeats 4000000 in
set_option maxRecDepth 100000 in
theorem disc8 (w : World) :
    Calls Ybad.prog 8 #[] w fun e w' => ∃ v, e = .returned v ∧ (∃ r1 r2 r3, v = .agg (d115 r1 r2 r3)) ∧ Below w.heap.size w w' := by
  have hmm := @run_makeMap Ybad.prog
  have hz := zv115
  have hs := zs115
  have ht : ∀ o1 o2 o3, ((((w.alloc (.cells z115 115)).alloc o1).alloc o2).alloc o3).there w.heap.size 0 75 := fun o1 o2 o3 =>
    there_below (there_new w z115 115 75 (by rw [zs115]; omega)) (((((Below.refl _ _).alloc (Nat.le_refl _) _)).alloc (by simp) _).alloc (by simp) _)
  go_enter Ybad.func8, Ybad.ntmps8
  go_wp2_with (refine wpList_store_mid rfl 115 _ _ rfl w.heap.size 0 _ rfl rfl (ht _ _ _) info115 (one_d115 _ _ _) ?_)
  have hst := World.rangeAt_setCells_same _ w.heap.size 0 (d115 (w.heap.size + 1) (w.heap.size + 1 + 1) (w.heap.size + 1 + 1 + 1)).toList (by rw [Array.length_toList, size_d115]; exact ht (.map #[] 0) (.map #[] 0) (.map #[] 0))
  have hld := run_loadVar_mid (P := Ybad.prog) _ w.heap.size 0 115 _ _ hst Ybad.underlying115 rfl (by rw [Array.length_toList, size_d115]; exact info115)
  refine bodyPost_ret_by (v := .agg (d115 (w.heap.size + 1) (w.heap.size + 1 + 1) (w.heap.size + 1 + 1 + 1))) ?_ rfl ⟨_, rfl, ⟨_, _, _, rfl⟩, ?_⟩
  · simp only [Array.toArray_toList] at hld
    simp [results, Ybad.results8, Act.put, asAddr]
    exact hld
  · exact (((((Below.refl _ _).alloc (Nat.le_refl _) _).alloc (by simp) _).alloc (by simp; omega) _).alloc (by simp; omega) _).trans (below_setCells _ (Nat.le_refl _) _ _ _)

end Go.Proofs.YbulkbkkwDoor
