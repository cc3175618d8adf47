/-
  ringID (function 15): the ID of the ring that a trade is along, or noRing.
-/
import Derived.Test.YbulkbkkwDoorNew
namespace Go.Proofs.YbulkbkkwDoor
open Go.RowKit
set_option linter.unusedVariables false

theorem info72 : (Ybad.prog.info? 72).map (·.size) = some 16 := by kernel_rfl
theorem rangeAt_below {w w' : World} {b o : Nat} {cs : List Value} (h : w.rangeAt b o cs) (hb : Below w.heap.size w w') : w'.rangeAt b o cs := by
  intro j v hv
  have := h j v hv
  exact (hb.cell (World.block_lt_of_cell? w _ this)).trans this

set_option maxHeartbeats 4000000 in
set_option maxRecDepth 100000 in
theorem ringID_none (tb to : Nat) (ids : List Value) (w : World) (hl : ids.length = 16) (h1 : ∀ v ∈ ids, v.oneCell' = true) (hal : w.cell? ⟨tb, to + 9, none⟩ = some (.pointer none)) (hid : w.rangeAt 0 0 ids) :
    Calls Ybad.prog 15 #[.pointer (some ⟨tb, to, none⟩)] w fun e w' => e = .returned (.agg ids.toArray) ∧ Below w.heap.size w w' := by
  have hz := zv72
  have htb := World.block_lt_of_cell? w _ hal
  have h16 : ids.toArray.size = 16 := by simpa using hl
  have ht : (w.alloc (.cells z72 72)).there w.heap.size 0 ids.toArray.size := there_new w z72 72 _ (by rw [h16, zs72]; omega)
  have hra := rangeAt_below hid ((Below.refl _ _).alloc (Nat.le_refl _) (.cells z72 72))
  have hst := World.rangeAt_setCells_same (w.alloc (.cells z72 72)) w.heap.size 0 ids (by rw [hl, ← h16]; exact ht)
  have hld := run_loadVar_mid (P := Ybad.prog) _ w.heap.size 0 72 _ _ hst Ybad.underlying72 rfl (by rw [hl]; exact info72)
  go_enter Ybad.func15, Ybad.ntmps15
  go_wp2_with (first | (refine wpList_load_mid rfl 72 _ rfl 0 0 rfl ids _ hra Ybad.underlying72 rfl (by rw [hl]; exact info72) ?_) | (refine wpList_store_mid rfl 72 _ _ rfl w.heap.size 0 _ rfl rfl ht (by rw [h16]; exact info72) (all_oneCell_toArray h1) ?_))
  refine bodyPost_ret_by (v := .agg ids.toArray) ?_ rfl ⟨rfl, ?_⟩
  · simp [results, Ybad.results15, asAddr]
    exact hld
  · exact ((Below.refl _ _).alloc (Nat.le_refl _) _).trans (below_setCells _ (Nat.le_refl _) _ _ _)

set_option maxHeartbeats 4000000 in
set_option maxRecDepth 100000 in
theorem ringID_some (tb to rb : Nat) (ids : List Value) (w : World) (hl : ids.length = 16) (h1 : ∀ v ∈ ids, v.oneCell' = true) (hal : w.cell? ⟨tb, to + 9, none⟩ = some (.pointer (some ⟨rb, 0, none⟩))) (hid : w.rangeAt rb 33 ids) :
    Calls Ybad.prog 15 #[.pointer (some ⟨tb, to, none⟩)] w fun e w' => e = .returned (.agg ids.toArray) ∧ Below w.heap.size w w' := by
  have hz := zv72
  have htb := World.block_lt_of_cell? w _ hal
  have h16 : ids.toArray.size = 16 := by simpa using hl
  have ht : (w.alloc (.cells z72 72)).there w.heap.size 0 ids.toArray.size := there_new w z72 72 _ (by rw [h16, zs72]; omega)
  have hra := rangeAt_below hid ((Below.refl _ _).alloc (Nat.le_refl _) (.cells z72 72))
  have hst := World.rangeAt_setCells_same (w.alloc (.cells z72 72)) w.heap.size 0 ids (by rw [hl, ← h16]; exact ht)
  have hld := run_loadVar_mid (P := Ybad.prog) _ w.heap.size 0 72 _ _ hst Ybad.underlying72 rfl (by rw [hl]; exact info72)
  go_enter Ybad.func15, Ybad.ntmps15
  go_wp2_with (first | (refine wpList_load_mid rfl 72 _ rfl rb 33 rfl ids _ hra Ybad.underlying72 rfl (by rw [hl]; exact info72) ?_) | (refine wpList_store_mid rfl 72 _ _ rfl w.heap.size 0 _ rfl rfl ht (by rw [h16]; exact info72) (all_oneCell_toArray h1) ?_))
  refine bodyPost_ret_by (v := .agg ids.toArray) ?_ rfl ⟨rfl, ?_⟩
  · simp [results, Ybad.results15, asAddr]
    exact hld
  · exact ((Below.refl _ _).alloc (Nat.le_refl _) _).trans (below_setCells _ (Nat.le_refl _) _ _ _)
end Go.Proofs.YbulkbkkwDoor
