/-
  What LawS3064BRings makes: the rings, and what holds behind k rounds of its first loop.
-/
import Derived.Test.YbulkbkkwDoorMake
namespace Go.Proofs.YbulkbkkwDoor
open Go.RowKit
set_option linter.unusedVariables false

/-- What the input holds at k. -/
def InAt (a0 : Option Addr) (sel id : Nat → Int) (wd : Nat → Bool) (B : Nat) (w : World) (k : Nat) : Prop :=
  ∃ ab ao, a0 = some ⟨ab, ao, none⟩ ∧ ab < B ∧ w.cell? ⟨ab, ao + k * 3, none⟩ = some (.int .u8 (sel k)) ∧ w.cell? ⟨ab, ao + k * 3 + 1, none⟩ = some (.bool (wd k)) ∧ w.cell? ⟨ab, ao + k * 3 + 2, none⟩ = some (.int .u8 (id k))

/-- Ring j as the law makes it. -/
def ringC (sa sb r0 : Nat) (sel id : Nat → Int) (wd : Nat → Bool) (j : Nat) : Array Value :=
  if sel j % 3 = 0 then (((((((z79.setIfInBounds 33 (.int .u8 (id j))).setIfInBounds 34 (.int .u8 ((j : Int) % 256))).setIfInBounds 35 (.int .u8 ((j : Int) / 256))).setIfInBounds 13 (.pointer (some ⟨r0 + j, 0, none⟩))).setIfInBounds 14 (.bool (wd j))).setIfInBounds 8 (.pointer (some ⟨sa, 0, none⟩))).setIfInBounds 9 (.int .i64 j))
  else if sel j % 3 = 1 then (((((((z79.setIfInBounds 33 (.int .u8 (id j))).setIfInBounds 34 (.int .u8 ((j : Int) % 256))).setIfInBounds 35 (.int .u8 ((j : Int) / 256))).setIfInBounds 13 (.pointer (some ⟨r0 + j, 0, none⟩))).setIfInBounds 14 (.bool (wd j))).setIfInBounds 8 (.pointer (some ⟨sb, 0, none⟩))).setIfInBounds 9 (.int .i64 j))
  else (((((z79.setIfInBounds 33 (.int .u8 (id j))).setIfInBounds 34 (.int .u8 ((j : Int) % 256))).setIfInBounds 35 (.int .u8 ((j : Int) / 256))).setIfInBounds 13 (.pointer (some ⟨r0 + j, 0, none⟩))).setIfInBounds 14 (.bool (wd j)))

/-- Behind k rounds of the first loop. -/
structure RelB (V : World) (gb len sa sb : Nat) (sel id : Nat → Int) (wd : Nat → Bool) (k : Nat) (wr : World) : Prop where
  size : wr.heap.size = gb + 1 + k
  kept : KeptX (· = gb) (gb + 1) V wr
  rings : ∀ j, j < k → wr.heap[gb + 1 + j]? = some (.cells (ringC sa sb (gb + 1) sel id wd j) 79 (0, 0))
  row : ∃ arr : Array Value, wr.heap[gb]? = some (.cells arr 65 (0, 0)) ∧ arr.size = len ∧ ∀ j, j < k → arr[j]? = some (.pointer (some ⟨gb + 1 + j, 0, none⟩))


theorem ringC_0 {sa sb r0 : Nat} {sel id : Nat → Int} {wd : Nat → Bool} {j : Nat} (h : (sel j % 3 == 0) = true) : ringC sa sb r0 sel id wd j = (((((((z79.setIfInBounds 33 (.int .u8 (id j))).setIfInBounds 34 (.int .u8 ((j : Int) % 256))).setIfInBounds 35 (.int .u8 ((j : Int) / 256))).setIfInBounds 13 (.pointer (some ⟨r0 + j, 0, none⟩))).setIfInBounds 14 (.bool (wd j))).setIfInBounds 8 (.pointer (some ⟨sa, 0, none⟩))).setIfInBounds 9 (.int .i64 j)) := if_pos (by simpa using h)
theorem ringC_1 {sa sb r0 : Nat} {sel id : Nat → Int} {wd : Nat → Bool} {j : Nat} (h : (sel j % 3 == 0) = false) (h1 : (sel j % 3 == 1) = true) : ringC sa sb r0 sel id wd j = (((((((z79.setIfInBounds 33 (.int .u8 (id j))).setIfInBounds 34 (.int .u8 ((j : Int) % 256))).setIfInBounds 35 (.int .u8 ((j : Int) / 256))).setIfInBounds 13 (.pointer (some ⟨r0 + j, 0, none⟩))).setIfInBounds 14 (.bool (wd j))).setIfInBounds 8 (.pointer (some ⟨sb, 0, none⟩))).setIfInBounds 9 (.int .i64 j)) := (if_neg (by simpa using h)).trans (if_pos (by simpa using h1))
theorem ringC_2 {sa sb r0 : Nat} {sel id : Nat → Int} {wd : Nat → Bool} {j : Nat} (h : (sel j % 3 == 0) = false) (h1 : (sel j % 3 == 1) = false) : ringC sa sb r0 sel id wd j = (((((z79.setIfInBounds 33 (.int .u8 (id j))).setIfInBounds 34 (.int .u8 ((j : Int) % 256))).setIfInBounds 35 (.int .u8 ((j : Int) / 256))).setIfInBounds 13 (.pointer (some ⟨r0 + j, 0, none⟩))).setIfInBounds 14 (.bool (wd j))) := (if_neg (by simpa using h)).trans (if_neg (by simpa using h1))

theorem RelB.step {V : World} {gb len sa sb : Nat} {sel id : Nat → Int} {wd : Nat → Bool} {k : Nat} {wr : World} (h : RelB V gb len sa sb sel id wd k wr) (hk : k < len) {C : Array Value} (hC : C = ringC sa sb (gb + 1) sel id wd k) :
    RelB V gb len sa sb sel id wd (k + 1) (((wr.setCell ⟨gb, k, none⟩ (.pointer (some ⟨gb + 1 + k, 0, none⟩))).alloc (.cells C 79)).drew) := by
  obtain ⟨arr, a1, a2, a3⟩ := h.row
  have hs := h.size
  have hsz : (wr.setCell ⟨gb, k, none⟩ (.pointer (some ⟨gb + 1 + k, 0, none⟩))).heap.size = wr.heap.size := Array.size_modify
  have hne : ∀ j, j ≠ gb → (wr.setCell ⟨gb, k, none⟩ (.pointer (some ⟨gb + 1 + k, 0, none⟩))).heap[j]? = wr.heap[j]? := fun j hj => Below.heap_setCell wr ⟨gb, k, none⟩ _ j hj
  have hgb := heap_setCell_at (i := k) a1 (.pointer (some ⟨gb + 1 + k, 0, none⟩))
  have hk1 : KeptX (· = gb) (gb + 1) V (wr.setCell ⟨gb, k, none⟩ (.pointer (some ⟨gb + 1 + k, 0, none⟩))) := h.kept.trans (KeptX.setCell wr _ _ rfl)
  have hrg := h.rings
  clear h
  generalize (wr.setCell ⟨gb, k, none⟩ (.pointer (some ⟨gb + 1 + k, 0, none⟩))) = w1 at *
  have hal : ∀ i, i < w1.heap.size → (w1.alloc (.cells C 79)).drew.heap[i]? = w1.heap[i]? := fun i hi => Below.heap_alloc w1 _ i hi
  refine ⟨?_, ?_, fun j hj => ?_, _, (hal gb (by omega)).trans hgb, by simp [a2], fun j hj => ?_⟩
  · have e : (w1.alloc (.cells C 79)).drew.heap.size = w1.heap.size + 1 := by simp
    omega
  · exact hk1.trans (KeptX.of ((((Below.refl (gb + 1) w1).alloc (by omega) _)).drew))
  · by_cases hjk : j = k
    · subst hjk
      rw [← hC]
      exact heap_at w1 _ _ (by omega)
    · rw [hal _ (by omega), hne _ (by omega)]
      exact hrg j (by omega)
  · by_cases hjk : j = k
    · subst hjk
      simp [a2, hk]
    · rw [Array.getElem?_setIfInBounds_ne (Ne.symm hjk)]
      exact a3 j (by omega)
end Go.Proofs.YbulkbkkwDoor
