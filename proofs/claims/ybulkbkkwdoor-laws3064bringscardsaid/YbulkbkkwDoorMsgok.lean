/-
  zzs3064bmsgok (function 7): the message that withdraw sends is the one that the law wants.
-/
import Derived.Test.YbulkbkkwDoorWithdraw
import Derived.DeepKeys
namespace Go.Proofs.YbulkbkkwDoor
open Go.RowKit
set_option linter.unusedVariables false

/-- Sixteen bytes. -/
def by16 (g : Nat → Int) : Nat → Value := fun i => .int .u8 (g i)
theorem by16_one (g : Nat → Int) : ∀ i, (by16 g i).oneCell' = true := fun _ => rfl

theorem eqItems_same (w : World) (xs : Array Value) (c : Nat) (g : Nat → Int) (hu : Ybad.prog.underlying 5 = some (.int .u8)) : ∀ (is : List Nat), (∀ i ∈ is, (part 5 xs (i * c)).run Ybad.prog w = .ok (.int .u8 (g i)) w) → (Op.eqItems 9999 5 c xs xs is).run Ybad.prog w = .ok true w
  | [], _ => by simp [Op.eqItems]
  | i :: is, h => by
    have h1 := h i (List.mem_cons_self ..)
    have h2 := eqItems_same w xs c g hu is (fun j hj => h j (List.mem_cons_of_mem _ hj))
    simp [Op.eqItems, h1, run_equalIn_int w 9998 5 .u8 .u8 (g i) (g i) hu, h2]
theorem eq72 (g : Nat → Int) (w : World) : (Op.equalIn 10000 72 (.agg (ids16 (by16 g)).toArray) (.agg (ids16 (by16 g)).toArray)).run Ybad.prog w = .ok true w := by
  have hi : (Ybad.prog.info? 5).isSome = true := by kernel_rfl
  obtain ⟨i, hi⟩ := Option.isSome_iff_exists.1 hi
  rw [run_equalIn_array w 9999 _ _ Ybad.underlying72 hi]
  refine eqItems_same w _ _ g Ybad.underlying5 _ (fun j hj => ?_)
  have hj : j < 16 := List.mem_range.1 hj
  have : j = 0 ∨ j = 1 ∨ j = 2 ∨ j = 3 ∨ j = 4 ∨ j = 5 ∨ j = 6 ∨ j = 7 ∨ j = 8 ∨ j = 9 ∨ j = 10 ∨ j = 11 ∨ j = 12 ∨ j = 13 ∨ j = 14 ∨ j = 15 := by omega
  rcases this with rfl | rfl | rfl | rfl | rfl | rfl | rfl | rfl | rfl | rfl | rfl | rfl | rfl | rfl | rfl | rfl <;> (show (part 5 (ids16 (by16 g)).toArray _).run Ybad.prog w = .ok (.int .u8 (g _)) w; kernel_rfl)

set_option maxHeartbeats 4000000 in
set_option maxRecDepth 100000 in
theorem msgok7 (number : Int) (sw : ByteArray) (g : Nat → Int) (w : World) :
    Calls Ybad.prog 7 #[.agg (msg number sw (by16 g)), .int .i32 number, .string sw, .agg (ids16 (by16 g)).toArray] w fun e w' => e = .returned (.bool true) ∧ Below w.heap.size w w' := by
  have hb : Below w.heap.size w ((w.alloc (.cells (msg number sw (by16 g)) 89)).alloc (.cells (ids16 (by16 g)).toArray 72)) := ((Below.refl _ _).alloc (Nat.le_refl _) _).alloc (by simp) _
  have hr1 : ((w.alloc (.cells (msg number sw (by16 g)) 89)).alloc (.cells (ids16 (by16 g)).toArray 72)).heap[w.heap.size]? = some (.cells (msg number sw (by16 g)) 89 (0, 0)) := by
    rw [Below.heap_alloc _ _ _ (by simp)]; exact heap_alloc_new w _
  have hr2 : ((w.alloc (.cells (msg number sw (by16 g)) 89)).alloc (.cells (ids16 (by16 g)).toArray 72)).heap[w.heap.size + 1]? = some (.cells (ids16 (by16 g)).toArray 72 (0, 0)) := by
    have := heap_alloc_new (w.alloc (.cells (msg number sw (by16 g)) 89)) (.cells (ids16 (by16 g)).toArray 72)
    rw [← this]; congr 1; simp
  have a1 : ((w.alloc (.cells (msg number sw (by16 g)) 89)).alloc (.cells (ids16 (by16 g)).toArray 72)).rangeAt w.heap.size 6 (ids16 (by16 g)) := by
    intro j v hv
    have hj : j < 16 := (List.getElem?_eq_some_iff.1 hv).1
    rw [cell_of_row _ _ _ _ 89 (0, 0) hr1, ← hv]
    have : j = 0 ∨ j = 1 ∨ j = 2 ∨ j = 3 ∨ j = 4 ∨ j = 5 ∨ j = 6 ∨ j = 7 ∨ j = 8 ∨ j = 9 ∨ j = 10 ∨ j = 11 ∨ j = 12 ∨ j = 13 ∨ j = 14 ∨ j = 15 := by omega
    rcases this with rfl | rfl | rfl | rfl | rfl | rfl | rfl | rfl | rfl | rfl | rfl | rfl | rfl | rfl | rfl | rfl <;> rfl
  have a2 : ((w.alloc (.cells (msg number sw (by16 g)) 89)).alloc (.cells (ids16 (by16 g)).toArray 72)).rangeAt (w.heap.size + 1) 0 (ids16 (by16 g)) := by
    intro j v hv
    rw [cell_of_row _ _ _ _ 72 (0, 0) hr2, Nat.zero_add]
    simpa using hv
  have cc : ∀ i v, (msg number sw (by16 g))[i]? = some v → ((w.alloc (.cells (msg number sw (by16 g)) 89)).alloc (.cells (ids16 (by16 g)).toArray 72)).cell? ⟨w.heap.size, i, none⟩ = some v := fun i v h => by
    rw [cell_of_row _ _ _ _ 89 (0, 0) hr1]; exact h
  have c0 := cc 0 (.int .u8 3) rfl
  have c1 := cc 1 (.int .i32 number) rfl
  have c2 := cc 2 (.string sw) rfl
  have c3 := cc 3 (.int .i64 0) rfl
  have c4 := cc 4 (.slice none 0 0) rfl
  have c5 := cc 5 (.slice none 0 0) rfl
  have c6 := cc 6 (.int .u8 (g 0)) rfl
  have c7 := cc 7 (.int .u8 (g 1)) rfl
  have c8 := cc 8 (.int .u8 (g 2)) rfl
  have c9 := cc 9 (.int .u8 (g 3)) rfl
  have c10 := cc 10 (.int .u8 (g 4)) rfl
  have c11 := cc 11 (.int .u8 (g 5)) rfl
  have c12 := cc 12 (.int .u8 (g 6)) rfl
  have c13 := cc 13 (.int .u8 (g 7)) rfl
  have c14 := cc 14 (.int .u8 (g 8)) rfl
  have c15 := cc 15 (.int .u8 (g 9)) rfl
  have c16 := cc 16 (.int .u8 (g 10)) rfl
  have c17 := cc 17 (.int .u8 (g 11)) rfl
  have c18 := cc 18 (.int .u8 (g 12)) rfl
  have c19 := cc 19 (.int .u8 (g 13)) rfl
  have c20 := cc 20 (.int .u8 (g 14)) rfl
  have c21 := cc 21 (.int .u8 (g 15)) rfl
  have dd : ∀ i v, (ids16 (by16 g))[i]? = some v → ((w.alloc (.cells (msg number sw (by16 g)) 89)).alloc (.cells (ids16 (by16 g)).toArray 72)).cell? ⟨w.heap.size + 1, i, none⟩ = some v := fun i v h => by
    rw [cell_of_row _ _ _ _ 72 (0, 0) hr2]; simpa using h
  have d0 := dd 0 (.int .u8 (g 0)) rfl
  have d1 := dd 1 (.int .u8 (g 1)) rfl
  have d2 := dd 2 (.int .u8 (g 2)) rfl
  have d3 := dd 3 (.int .u8 (g 3)) rfl
  have d4 := dd 4 (.int .u8 (g 4)) rfl
  have d5 := dd 5 (.int .u8 (g 5)) rfl
  have d6 := dd 6 (.int .u8 (g 6)) rfl
  have d7 := dd 7 (.int .u8 (g 7)) rfl
  have d8 := dd 8 (.int .u8 (g 8)) rfl
  have d9 := dd 9 (.int .u8 (g 9)) rfl
  have d10 := dd 10 (.int .u8 (g 10)) rfl
  have d11 := dd 11 (.int .u8 (g 11)) rfl
  have d12 := dd 12 (.int .u8 (g 12)) rfl
  have d13 := dd 13 (.int .u8 (g 13)) rfl
  have d14 := dd 14 (.int .u8 (g 14)) rfl
  have d15 := dd 15 (.int .u8 (g 15)) rfl
  clear cc dd a1 a2 hr1 hr2
  have HB : Hid _ := hb
  have he43 : ∀ w, (binOp .eql 43 (.slice none 0 0) (.slice none 0 0)).run Ybad.prog w = .ok (.bool true) w := fun w => by kernel_rfl
  have he73 : ∀ w, (binOp .eql 73 (.slice none 0 0) (.slice none 0 0)).run Ybad.prog w = .ok (.bool true) w := fun w => by kernel_rfl
  have he72 : ∀ w, (Op.equalIn 10000 72 (.agg #[.int .u8 (g 0), .int .u8 (g 1), .int .u8 (g 2), .int .u8 (g 3), .int .u8 (g 4), .int .u8 (g 5), .int .u8 (g 6), .int .u8 (g 7), .int .u8 (g 8), .int .u8 (g 9), .int .u8 (g 10), .int .u8 (g 11), .int .u8 (g 12), .int .u8 (g 13), .int .u8 (g 14), .int .u8 (g 15)]) (.agg #[.int .u8 (g 0), .int .u8 (g 1), .int .u8 (g 2), .int .u8 (g 3), .int .u8 (g 4), .int .u8 (g 5), .int .u8 (g 6), .int .u8 (g 7), .int .u8 (g 8), .int .u8 (g 9), .int .u8 (g 10), .int .u8 (g 11), .int .u8 (g 12), .int .u8 (g 13), .int .u8 (g 14), .int .u8 (g 15)])).run Ybad.prog w = .ok true w := fun w => eq72 g w
  clear hb
  go_enter Ybad.func7, Ybad.ntmps7
  go_wp2
  go_ret
  exact ⟨rfl, HB.out⟩
end Go.Proofs.YbulkbkkwDoor
