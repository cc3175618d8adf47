/-
  LawS3064BPairwise (function 3): nothing asked.
-/
import Derived.Test.YbulkbkkwDoorPairA
namespace Go.Proofs.YbulkbkkwDoor
open Go.RowKit
set_option linter.unusedVariables false

set_option maxHeartbeats 4000000 in
set_option maxRecDepth 100000 in
theorem pair_a (nid sw : ByteArray) (number : Int) (b4 : Bool) (x : Int) (w : World) (h0 : w.rangeAt 0 0 (ids16 (by16 fun _ => 0))) :
    Calls Ybad.prog 3 #[.string nid, .string sw, .int .i32 number, .bool false, .bool b4, .bool false, .int .u8 x] w fun e w' => e = .returned (.bool true) ∧ KeptX (fun _ => False) w.heap.size w w' := by
  have q64 := zv64
  have q79 := zv79
  have n64 : z64 ≠ #[] := fun h => by have := congrArg Array.size h; cases this
  have n79 : z79 ≠ #[] := fun h => by have := congrArg Array.size h; cases this
  have z1 : z79[8]? = some (.pointer none) := rfl
  have z2 : z79[9]? = some (.int .i64 0) := rfl
  have z3 : z79[13]? = some (.pointer none) := rfl
  have z4 : z79[14]? = some (.bool false) := rfl
  have z5 : z79[33]? = some (.int .u8 0) := rfl
  have z6 : z64[24]? = some (.slice none 0 0) := rfl
  have z7 : z79.size = 82 := rfl
  have z8 : z64.size = 68 := rfl
  go_enter Ybad.func3, Ybad.ntmps3
  go_wp2_with (first | (go_at_call 5; refine (new5 0 number w.heap.size _).mono ?_; rintro e w1 ⟨nb, rfl, hlt, hN, hb⟩; have HB : Hid _ := hb; have HN : Hid _ := hN; clear hb hN))
  go_at_call 6
  refine calls_chain7 w1 _ _ _ _ _ _ _ (fun V hBV hS k0 k1 k2 k3 k4 k5 k6 => ?_)
  have hN1 : NodeAt 0 number w.heap.size nb V := NodeAt.below HN.out hBV
  have hw1 : w.heap.size < w1.heap.size := Nat.lt_of_lt_of_le (by simp) HB.out.size
  have he : V.heap[w.heap.size]? = some (.cells #[.slice none 0 0, .slice none 0 0] 26 (0, 0)) := (hBV.block _ hw1).trans ((HB.out.block _ (by simp)).trans (heap_alloc_new w _))
  have hwV : Below w.heap.size w V := (((Below.refl _ _).alloc (Nat.le_refl _) _).trans (HB.out.mono (by simp))).trans (hBV.mono (by omega))
  refine (call6_idle number w.heap.size nb (w1.heap.size + 1 + 1 + 1 + 1 + 1 + 1) (w1.heap.size + 1 + 1 + 1 + 1 + 1) (w1.heap.size + 1) V hN1 ((cell_of_row _ _ _ _ 84 (0, 0) k6).trans rfl) ((cell_of_row _ _ _ _ 84 (0, 0) k6).trans rfl) (.inl ((cell_of_row _ _ _ _ 71 (0, 0) k5).trans rfl))).mono ?_
  rintro e w2 ⟨rfl, e2⟩
  have g2 : KeptX (fun _ => False) V.heap.size V w2 := by (subst e2; exact KeptX.drew _ _ V)
  have hB0 : ∀ i b, V.heap[i]? = some b → w2.heap[i]? = some b := fun i b h => (g2.block i (Array.getElem?_eq_some_iff.1 h).1 id).trans h
  have c14 : w2.cell? ⟨w1.heap.size + 1 + 1, 14, none⟩ = some (.bool false) := (cell_of_row _ _ _ _ 79 (0, 0) (hB0 _ _ k2)).trans rfl
  have ce1 : w2.cell? ⟨w.heap.size, 1, none⟩ = some (.slice none 0 0) := (cell_of_row _ _ _ _ 26 (0, 0) (hB0 _ _ he)).trans rfl
  have ct : w2.cell? ⟨w1.heap.size + 1 + 1 + 1 + 1 + 1, 10, none⟩ = some (.bool b4) := (cell_of_row _ _ _ _ 71 (0, 0) (hB0 _ _ k5)).trans rfl
  have HF : Hid _ := KeptX.low g2 hwV (by omega) (fun _ h => h.elim)
  clear hB0 g2 e2 k0 k1 k2 k3 k4 k5 k6 he hwV hN1 hBV hS
  go_wp2
  go_ret
  exact ⟨by simp, HF.out⟩
set_option maxHeartbeats 4000000 in
set_option maxRecDepth 100000 in
theorem pair_b (nid sw : ByteArray) (number : Int) (b4 : Bool) (x : Int) (w : World) (h0 : w.rangeAt 0 0 (ids16 (by16 fun _ => 0))) :
    Calls Ybad.prog 3 #[.string nid, .string sw, .int .i32 number, .bool false, .bool b4, .bool true, .int .u8 x] w fun e w' => e = .returned (.bool true) ∧ KeptX (fun _ => False) w.heap.size w w' := by
  have q64 := zv64
  have q79 := zv79
  have n64 : z64 ≠ #[] := fun h => by have := congrArg Array.size h; cases this
  have n79 : z79 ≠ #[] := fun h => by have := congrArg Array.size h; cases this
  have z1 : z79[8]? = some (.pointer none) := rfl
  have z2 : z79[9]? = some (.int .i64 0) := rfl
  have z3 : z79[13]? = some (.pointer none) := rfl
  have z4 : z79[14]? = some (.bool false) := rfl
  have z5 : z79[33]? = some (.int .u8 0) := rfl
  have z6 : z64[24]? = some (.slice none 0 0) := rfl
  have z7 : z79.size = 82 := rfl
  have z8 : z64.size = 68 := rfl
  go_enter Ybad.func3, Ybad.ntmps3
  go_wp2_with (first | (go_at_call 5; refine (new5 0 number w.heap.size _).mono ?_; rintro e w1 ⟨nb, rfl, hlt, hN, hb⟩; have HB : Hid _ := hb; have HN : Hid _ := hN; clear hb hN))
  go_at_call 6
  refine calls_chain8 w1 _ _ _ _ _ _ _ _ (fun V hBV hS k0 k1 k2 k3 k4 k5 k6 k7 => ?_)
  have hN1 : NodeAt 0 number w.heap.size nb V := NodeAt.below HN.out hBV
  have hw1 : w.heap.size < w1.heap.size := Nat.lt_of_lt_of_le (by simp) HB.out.size
  have he : V.heap[w.heap.size]? = some (.cells #[.slice none 0 0, .slice none 0 0] 26 (0, 0)) := (hBV.block _ hw1).trans ((HB.out.block _ (by simp)).trans (heap_alloc_new w _))
  have hwV : Below w.heap.size w V := (((Below.refl _ _).alloc (Nat.le_refl _) _).trans (HB.out.mono (by simp))).trans (hBV.mono (by omega))
  refine (call6_idle number w.heap.size nb (w1.heap.size + 1 + 1 + 1 + 1 + 1 + 1 + 1) (w1.heap.size + 1 + 1 + 1 + 1 + 1) (w1.heap.size + 1) V hN1 ((cell_of_row _ _ _ _ 84 (0, 0) k7).trans rfl) ((cell_of_row _ _ _ _ 84 (0, 0) k7).trans rfl) (.inl ((cell_of_row _ _ _ _ 71 (0, 0) k5).trans rfl))).mono ?_
  rintro e w2 ⟨rfl, e2⟩
  have g2 : KeptX (fun _ => False) V.heap.size V w2 := by (subst e2; exact KeptX.drew _ _ V)
  have hB0 : ∀ i b, V.heap[i]? = some b → w2.heap[i]? = some b := fun i b h => (g2.block i (Array.getElem?_eq_some_iff.1 h).1 id).trans h
  have c14 : w2.cell? ⟨w1.heap.size + 1 + 1, 14, none⟩ = some (.bool false) := (cell_of_row _ _ _ _ 79 (0, 0) (hB0 _ _ k2)).trans rfl
  have ce1 : w2.cell? ⟨w.heap.size, 1, none⟩ = some (.slice none 0 0) := (cell_of_row _ _ _ _ 26 (0, 0) (hB0 _ _ he)).trans rfl
  have ct : w2.cell? ⟨w1.heap.size + 1 + 1 + 1 + 1 + 1, 10, none⟩ = some (.bool b4) := (cell_of_row _ _ _ _ 71 (0, 0) (hB0 _ _ k5)).trans rfl
  have HF : Hid _ := KeptX.low g2 hwV (by omega) (fun _ h => h.elim)
  clear hB0 g2 e2 k0 k1 k2 k3 k4 k5 k6 k7 he hwV hN1 hBV hS
  go_wp2
  go_ret
  exact ⟨by simp, HF.out⟩
end Go.Proofs.YbulkbkkwDoor
