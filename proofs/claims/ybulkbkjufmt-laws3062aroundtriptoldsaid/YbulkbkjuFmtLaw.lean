/-
  The walk of LawS3062ARoundTrip: returns true, and nothing that was there has turned. Three ways (scale 0; scale > 0 and a trailing zero: scale becomes 0; scale > 0 and none), one text each.
-/
import Derived.Test.YbulkbkjuFmtUnm
import Derived.OpenShut
namespace Go.Proofs.YbulkbkjuFmt
open Go.RowKit
set_option linter.unusedVariables false

set_option maxHeartbeats 4000000 in
set_option maxRecDepth 100000 in
theorem walk_long (a0 : Option Addr) (len0 cap0 : Nat) (a1 : Int) (a2 : Int) (w : World) (hl : 4096 < len0) :
    Calls Ybaf.prog 3 #[.slice a0 len0 cap0, .int .i64 a1, .int .u8 a2] w fun e w' => e = .returned (.bool true) ∧ Kept w.heap.size w w' := by
  have hl' : (4096 : Int) < (len0 : Int) := by omega
  go_enter Ybaf.func3, Ybaf.ntmps3
  go_wp2
  go_ret
  exact ⟨rfl, Kept.refl _ _⟩

theorem new_cells (W : World) (a b : Value) (t : TypeId) (n : Nat) (hn : n = W.heap.size) :
    (W.alloc (.cells #[a, b] t)).cell? ⟨n, 0, none⟩ = some a ∧ (W.alloc (.cells #[a, b] t)).cell? ⟨n, 1, none⟩ = some b ∧ (W.alloc (.cells #[a, b] t)).frozen? ⟨n, 0, none⟩ = false ∧ (W.alloc (.cells #[a, b] t)).frozen? ⟨n, 1, none⟩ = false := by
  subst hn
  refine ⟨?_, ?_, ?_, ?_⟩ <;> simp
theorem new_set (W : World) (x y a b : Value) (t : TypeId) (n : Nat) (hn : n = W.heap.size) :
    ((W.alloc (.cells #[x, y] t)).setCell ⟨n, 0, none⟩ a).setCell ⟨n, 1, none⟩ b = W.alloc (.cells #[a, b] t) := by
  rw [World.setCell_alloc_at _ _ _ _ _ hn, World.setCell_alloc_at _ _ _ _ _ hn]
  rfl

/-- What is known behind AppendBinary: where the bytes lie, and what is as it was. -/
theorem behind (a0 : Option Addr) (len0 cap0 : Nat) (zs : List Int) (w w1 w4 W1 : World) (hz : zs.length = len0)
    (hb : len0 = 0 ∨ ∃ g o, a0 = some ⟨g, o, none⟩ ∧ g < w.heap.size ∧ ∀ i, i < len0 → w.cell? ⟨g, o + i, none⟩ = some (.int .u8 (zs.getD i 0)))
    (x y : Value) (hg1 : (w.alloc (.cells #[x, y] 24)).grownBy w1 none) (ao : Option Addr) (bb capB : Nat) (hcm : capB ≤ maxLen) (hbb : 0 < capB → w.heap.size + 1 ≤ bb) (hcame : Came w1 1 ao bb 0 len0 capB (u8s zs))
    (hk : Kept w1.heap.size w1 W1) (out : Value) (sn : Nat) (C : Int)
    (ho : Onto W1 5 1 ao bb 0 len0 capB (u8s zs) w4 out ((Lib.uvarint sn).length + (Lib.uvarint (Lib.zigzag C)).length) (Lib.byteCells (Lib.uvarint sn) ++ Lib.byteCells (Lib.uvarint (Lib.zigzag C)))) :
    Kept (w.heap.size + 1) (w.alloc (.cells #[x, y] 24)) w4 ∧ w.heap.size + 1 ≤ w4.heap.size ∧
    ∃ g o' cap', out = .slice (some ⟨g, o', none⟩) (len0 + ((Lib.uvarint sn).length + (Lib.uvarint (Lib.zigzag C)).length)) cap' ∧ len0 + ((Lib.uvarint sn).length + (Lib.uvarint (Lib.zigzag C)).length) ≤ cap' ∧ cap' ≤ maxLen ∧
      Reads w4 (.slice (some ⟨g, o', none⟩) len0 cap') zs ∧ Reads w4 (.slice a0 len0 cap0) zs ∧
      ∀ j (hj : j < (Lib.uvarint sn ++ Lib.uvarint (Lib.zigzag C)).length), w4.cell? ⟨g, o' + len0 + j, none⟩ = some (.int .u8 ((Lib.uvarint sn ++ Lib.uvarint (Lib.zigzag C))[j]).toNat) := by
  have hp := Lib.uvarint_pos sn
  have s1 := hg1.size
  simp at s1
  have hc1 : Came W1 1 ao bb 0 len0 capB (u8s zs) := Came.below hcame hk
  have k1 : Kept (w.heap.size + 1) (w.alloc (.cells #[x, y] 24)) w1 := Kept.grown hg1 (by simp)
  have k2 := k1.trans (hk.mono s1)
  have k4 := k2.trans (Kept.onto ho (Nat.le_trans s1 hk.size) hbb)
  have kw : Kept w.heap.size w w4 := (Kept.of ((Below.refl _ _).alloc (Nat.le_refl _) _)).trans (k4.mono (by omega))
  refine ⟨k4, by have := k4.size; simpa using this, ?_⟩
  obtain ⟨g, o', cap', e1, e2, e3, e4⟩ := ho.value hc1 hcm (.inr (by omega))
  have hul : (u8s zs).length = len0 := by rw [u8s_length, hz]
  refine ⟨g, o', cap', e1, e2, e3, ⟨_, cap', by rw [hz], ?_⟩, Reads.kept ⟨a0, cap0, by rw [hz], ?_⟩ kw, fun j hj => ?_⟩
  · by_cases h0 : zs.length = 0
    · exact .inl h0
    · refine .inr ⟨g, o', rfl, fun i hi => ?_⟩
      rw [e4 i (by omega), List.getElem?_append_left (by omega), u8s_at hi]
  · rw [hz]
    rcases hb with h0 | ⟨g', o, h2, _, h3⟩
    · exact .inl h0
    · exact .inr ⟨g', o, h2, h3⟩
  · have hj' := hj
    rw [List.length_append] at hj'
    rw [Nat.add_assoc, e4 (len0 + j) (by omega), List.getElem?_append_right (by omega), hul, Nat.add_sub_cancel_left]
    have : Lib.byteCells (Lib.uvarint sn) ++ Lib.byteCells (Lib.uvarint (Lib.zigzag C)) = Lib.byteCells (Lib.uvarint sn ++ Lib.uvarint (Lib.zigzag C)) := by simp [Lib.byteCells]
    rw [this]
    simp only [Lib.byteCells, List.getElem?_map, List.getElem?_eq_getElem hj]
    rfl

set_option maxHeartbeats 4000000 in
set_option maxRecDepth 100000 in
theorem walk_zero (a0 : Option Addr) (len0 cap0 : Nat) (zs : List Int) (a1 : Int) (a2 : Int) (C : Int) (sn : Nat) (w : World) (hl : len0 ≤ 4096) (hz : zs.length = len0)
    (hb : len0 = 0 ∨ ∃ g o, a0 = some ⟨g, o, none⟩ ∧ g < w.heap.size ∧ ∀ i, i < len0 → w.cell? ⟨g, o + i, none⟩ = some (.int .u8 (zs.getD i 0)))
    (h2 : 0 ≤ a2) (h2' : a2 ≤ 255) (hC : a1.tmod 1000000000000000000 = C) (hC1 : -1000000000000000000 < C) (hC2 : C < 1000000000000000000) (hS : a2 % 19 = (sn : Int)) (hs18 : sn ≤ 18) (hp : ¬ 0 < sn) :
    Calls Ybaf.prog 3 #[.slice a0 len0 cap0, .int .i64 a1, .int .u8 a2] w fun e w' => e = .returned (.bool true) ∧ Kept w.heap.size w w' := by
  have hl' : ¬ (4096 : Int) < (len0 : Int) := by omega
  obtain ⟨i0, hi, hz0, hz1, hz2⟩ := info_parts info5
  have HB : Hid _ := hb
  have HZ : Hid _ := hz
  clear hb hz
  have HL : (u8s zs).length = len0 := by rw [u8s_length]; exact HZ.out
  have hm : len0 ≤ maxLen := by unfold maxLen; omega
  have kA : ∀ o, Kept w.heap.size w (w.alloc o) := fun o => Kept.of ((Below.refl _ _).alloc (Nat.le_refl _) o)
  have hshort : Hid (sn = 0 ∨ (C.tmod 10 == 0) = false) := Or.inl (by omega)
  have hs64 : IntKind.u64.wrap (sn : Int) = (sn : Int) := by rw [IntKind.wrap_u64]; omega
  have hp' : ¬ (0 : Int) < (sn : Int) := by omega
  go_enter Ybaf.func3, Ybaf.ntmps3
  go_wp2_with (at_builtin; refine wpList_append_clone _ rfl _ _ 22 rfl 5 i0 (.int .u8 0) 1 Ybaf.underlying22 hi hz0 hz1 hz2 rfl a0 len0 cap0 (u8s zs) rfl rfl HL (src_kept HZ.out HB.out (kA _)) (u8s_one zs) hm (by omega) ?_)
  intro vb w1 hob hg1
  obtain ⟨ao, bb, capB, rfl, hcm, hbb, hcame⟩ := came_of_owns hob
  have hd0 : w1.cell? ⟨w.heap.size, 0, none⟩ = some (.int .i64 C) := hg1.cell (by simp) (by simp)
  have hd1 : w1.cell? ⟨w.heap.size, 1, none⟩ = some (.int .i64 (sn : Int)) := hg1.cell (by simp) (by simp)
  have hA := ab4 ao bb 0 len0 capB _ C (sn : Int) (by omega) (by omega) sn hs64 (by omega) w1 hcame (by omega)
  have HBE := fun w4 W1 (hk : Kept w1.heap.size w1 W1) out ho => behind a0 len0 cap0 zs w w1 w4 W1 HZ.out HB.out _ _ hg1 ao bb capB hcm (by simpa using hbb) hcame hk out sn C ho
  clear hob hcame hbb hg1
  have hn1 := Lib.uvarint_pos sn
  have hn10 := Lib.uvarint_length64 (x := sn) (by omega)
  have hm1 := Lib.uvarint_pos (Lib.zigzag C)
  have hm10 := Lib.uvarint_length64 (Lib.zigzag_lt (x := C) (by omega) (by omega))
  go_wp2_with (go_at_call 4; refine hA.mono ?_; clear hA; rintro e w4 ⟨out, W1, rfl, k1, ho⟩; clear hd0 hd1; obtain ⟨k4, s4, g, o', cap', rfl, c1, c2, r1, r2, hx⟩ := HBE _ _ k1 _ ho; clear HBE k1 ho)
  have hzm : zs.length ≤ maxLen := by have := HZ.out; omega
  have hE := eq5 _ _ zs w4 hzm r1 r2
  clear r1 r2
  have d0 : w4.cell? ⟨w.heap.size, 0, none⟩ = some (.int .i64 C) := (k4.cell (p := ⟨w.heap.size, 0, none⟩) (by simp)).trans (by simp)
  have d1 : w4.cell? ⟨w.heap.size, 1, none⟩ = some (.int .i64 (sn : Int)) := (k4.cell (p := ⟨w.heap.size, 1, none⟩) (by simp)).trans (by simp)
  have kZ : ∀ n5, Kept w4.heap.size w4 ((w4.drewN n5).alloc (.cells #[.int .i64 0, .int .i64 0] 24)) := fun n5 => (Kept.drewN _ _ _).trans (Kept.of ((Below.refl _ _).alloc (by simp) _))
  have kw : Kept w.heap.size w w4 := (kA _).trans (k4.mono (by omega))
  have hU := fun n5 => unm6 g (o' + len0) (cap' - len0) w4.heap.size sn C _ _ _ ((w4.drewN n5).alloc (.cells #[.int .i64 0, .int .i64 0] 24)) rfl rfl rfl (by omega) (by omega)
    (fun j hj => ((kZ n5).cell (p := ⟨g, o' + len0 + j, none⟩) (World.block_lt_of_cell? w4 _ (hx j hj))).trans (hx j hj)) (by omega) hC1 hC2 hshort.out (.int .i64 0) (.int .i64 0) (new_cells _ _ _ _ _ rfl).1 (new_cells _ _ _ _ _ rfl).2.1 (new_cells _ _ _ _ _ rfl).2.2.1 (new_cells _ _ _ _ _ rfl).2.2.2
  have hF : ∀ n5 w6, w6 = (((w4.drewN n5).alloc (.cells #[.int .i64 0, .int .i64 0] 24)).setCell ⟨w4.heap.size, 0, none⟩ (.int .i64 C)).setCell ⟨w4.heap.size, 1, none⟩ (.int .i64 (sn : Int)) →
      w6.cell? ⟨w4.heap.size, 0, none⟩ = some (.int .i64 C) ∧ w6.cell? ⟨w4.heap.size, 1, none⟩ = some (.int .i64 (sn : Int)) ∧ w6.cell? ⟨w.heap.size, 0, none⟩ = some (.int .i64 C) ∧ w6.cell? ⟨w.heap.size, 1, none⟩ = some (.int .i64 (sn : Int)) ∧ Kept w.heap.size w w6 := by
    rintro n5 w6 rfl
    have kS : Kept w4.heap.size w4 ((((w4.drewN n5).alloc (.cells #[.int .i64 0, .int .i64 0] 24)).setCell ⟨w4.heap.size, 0, none⟩ (.int .i64 C)).setCell ⟨w4.heap.size, 1, none⟩ (.int .i64 (sn : Int))) :=
      (kZ n5).trans (Kept.of (((Below.refl _ _).setCell (p := ⟨w4.heap.size, 0, none⟩) (Nat.le_refl _) _).setCell (p := ⟨w4.heap.size, 1, none⟩) (Nat.le_refl _) _))
    refine ⟨?_, ?_, (kS.cell (p := ⟨w.heap.size, 0, none⟩) (by show w.heap.size < _; omega)).trans d0, (kS.cell (p := ⟨w.heap.size, 1, none⟩) (by show w.heap.size < _; omega)).trans d1, kw.trans (kS.mono (by omega))⟩
    · rw [new_set (w4.drewN n5) _ _ _ _ _ w4.heap.size rfl]; exact (new_cells _ _ _ _ _ rfl).1
    · rw [new_set (w4.drewN n5) _ _ _ _ _ w4.heap.size rfl]; exact (new_cells _ _ _ _ _ rfl).2.1
  have HF : Hid _ := hF
  have HU : Hid _ := hU
  clear hF kZ kw k4 hx kA hC hS hU hshort d0 d1
  go_wp2_with (first | (go_at_call 5; refine hE.mono ?_; clear hE; rintro e w5 ⟨rfl, n5, rfl⟩; have hU5 := HU.out n5; clear HU) | (go_at_call 6; refine hU5.mono ?_; clear hU5; rintro e w6 ⟨rfl, hw6⟩; obtain ⟨f0, f1, d0, d1, kE⟩ := HF.out _ _ hw6; clear hw6))
  go_ret
  exact ⟨rfl, kE⟩

set_option maxHeartbeats 4000000 in
set_option maxRecDepth 100000 in
theorem walk_pos (a0 : Option Addr) (len0 cap0 : Nat) (zs : List Int) (a1 : Int) (a2 : Int) (C : Int) (sn : Nat) (w : World) (hl : len0 ≤ 4096) (hz : zs.length = len0)
    (hb : len0 = 0 ∨ ∃ g o, a0 = some ⟨g, o, none⟩ ∧ g < w.heap.size ∧ ∀ i, i < len0 → w.cell? ⟨g, o + i, none⟩ = some (.int .u8 (zs.getD i 0)))
    (h2 : 0 ≤ a2) (h2' : a2 ≤ 255) (hC : a1.tmod 1000000000000000000 = C) (hC1 : -1000000000000000000 < C) (hC2 : C < 1000000000000000000) (hS : a2 % 19 = (sn : Int)) (hs18 : sn ≤ 18) (hp : 0 < sn) (ht : (C.tmod 10 == 0) = false) :
    Calls Ybaf.prog 3 #[.slice a0 len0 cap0, .int .i64 a1, .int .u8 a2] w fun e w' => e = .returned (.bool true) ∧ Kept w.heap.size w w' := by
  have hl' : ¬ (4096 : Int) < (len0 : Int) := by omega
  obtain ⟨i0, hi, hz0, hz1, hz2⟩ := info_parts info5
  have HB : Hid _ := hb
  have HZ : Hid _ := hz
  clear hb hz
  have HL : (u8s zs).length = len0 := by rw [u8s_length]; exact HZ.out
  have hm : len0 ≤ maxLen := by unfold maxLen; omega
  have kA : ∀ o, Kept w.heap.size w (w.alloc o) := fun o => Kept.of ((Below.refl _ _).alloc (Nat.le_refl _) o)
  have hshort : Hid (sn = 0 ∨ (C.tmod 10 == 0) = false) := Or.inr ht
  have hs64 : IntKind.u64.wrap (sn : Int) = (sn : Int) := by rw [IntKind.wrap_u64]; omega
  have hp' : (0 : Int) < (sn : Int) := by omega
  go_enter Ybaf.func3, Ybaf.ntmps3
  go_wp2_with (at_builtin; refine wpList_append_clone _ rfl _ _ 22 rfl 5 i0 (.int .u8 0) 1 Ybaf.underlying22 hi hz0 hz1 hz2 rfl a0 len0 cap0 (u8s zs) rfl rfl HL (src_kept HZ.out HB.out (kA _)) (u8s_one zs) hm (by omega) ?_)
  intro vb w1 hob hg1
  obtain ⟨ao, bb, capB, rfl, hcm, hbb, hcame⟩ := came_of_owns hob
  have hd0 : w1.cell? ⟨w.heap.size, 0, none⟩ = some (.int .i64 C) := hg1.cell (by simp) (by simp)
  have hd1 : w1.cell? ⟨w.heap.size, 1, none⟩ = some (.int .i64 (sn : Int)) := hg1.cell (by simp) (by simp)
  have hA := ab4 ao bb 0 len0 capB _ C (sn : Int) (by omega) (by omega) sn hs64 (by omega) w1 hcame (by omega)
  have HBE := fun w4 W1 (hk : Kept w1.heap.size w1 W1) out ho => behind a0 len0 cap0 zs w w1 w4 W1 HZ.out HB.out _ _ hg1 ao bb capB hcm (by simpa using hbb) hcame hk out sn C ho
  clear hob hcame hbb hg1
  have hn1 := Lib.uvarint_pos sn
  have hn10 := Lib.uvarint_length64 (x := sn) (by omega)
  have hm1 := Lib.uvarint_pos (Lib.zigzag C)
  have hm10 := Lib.uvarint_length64 (Lib.zigzag_lt (x := C) (by omega) (by omega))
  go_wp2_with (go_at_call 4; refine hA.mono ?_; clear hA; rintro e w4 ⟨out, W1, rfl, k1, ho⟩; clear hd0 hd1; obtain ⟨k4, s4, g, o', cap', rfl, c1, c2, r1, r2, hx⟩ := HBE _ _ k1 _ ho; clear HBE k1 ho)
  have hzm : zs.length ≤ maxLen := by have := HZ.out; omega
  have hE := eq5 _ _ zs w4 hzm r1 r2
  clear r1 r2
  have d0 : w4.cell? ⟨w.heap.size, 0, none⟩ = some (.int .i64 C) := (k4.cell (p := ⟨w.heap.size, 0, none⟩) (by simp)).trans (by simp)
  have d1 : w4.cell? ⟨w.heap.size, 1, none⟩ = some (.int .i64 (sn : Int)) := (k4.cell (p := ⟨w.heap.size, 1, none⟩) (by simp)).trans (by simp)
  have kZ : ∀ n5, Kept w4.heap.size w4 ((w4.drewN n5).alloc (.cells #[.int .i64 0, .int .i64 0] 24)) := fun n5 => (Kept.drewN _ _ _).trans (Kept.of ((Below.refl _ _).alloc (by simp) _))
  have kw : Kept w.heap.size w w4 := (kA _).trans (k4.mono (by omega))
  have hU := fun n5 => unm6 g (o' + len0) (cap' - len0) w4.heap.size sn C _ _ _ ((w4.drewN n5).alloc (.cells #[.int .i64 0, .int .i64 0] 24)) rfl rfl rfl (by omega) (by omega)
    (fun j hj => ((kZ n5).cell (p := ⟨g, o' + len0 + j, none⟩) (World.block_lt_of_cell? w4 _ (hx j hj))).trans (hx j hj)) (by omega) hC1 hC2 hshort.out (.int .i64 0) (.int .i64 0) (new_cells _ _ _ _ _ rfl).1 (new_cells _ _ _ _ _ rfl).2.1 (new_cells _ _ _ _ _ rfl).2.2.1 (new_cells _ _ _ _ _ rfl).2.2.2
  have hF : ∀ n5 w6, w6 = (((w4.drewN n5).alloc (.cells #[.int .i64 0, .int .i64 0] 24)).setCell ⟨w4.heap.size, 0, none⟩ (.int .i64 C)).setCell ⟨w4.heap.size, 1, none⟩ (.int .i64 (sn : Int)) →
      w6.cell? ⟨w4.heap.size, 0, none⟩ = some (.int .i64 C) ∧ w6.cell? ⟨w4.heap.size, 1, none⟩ = some (.int .i64 (sn : Int)) ∧ w6.cell? ⟨w.heap.size, 0, none⟩ = some (.int .i64 C) ∧ w6.cell? ⟨w.heap.size, 1, none⟩ = some (.int .i64 (sn : Int)) ∧ Kept w.heap.size w w6 := by
    rintro n5 w6 rfl
    have kS : Kept w4.heap.size w4 ((((w4.drewN n5).alloc (.cells #[.int .i64 0, .int .i64 0] 24)).setCell ⟨w4.heap.size, 0, none⟩ (.int .i64 C)).setCell ⟨w4.heap.size, 1, none⟩ (.int .i64 (sn : Int))) :=
      (kZ n5).trans (Kept.of (((Below.refl _ _).setCell (p := ⟨w4.heap.size, 0, none⟩) (Nat.le_refl _) _).setCell (p := ⟨w4.heap.size, 1, none⟩) (Nat.le_refl _) _))
    refine ⟨?_, ?_, (kS.cell (p := ⟨w.heap.size, 0, none⟩) (by show w.heap.size < _; omega)).trans d0, (kS.cell (p := ⟨w.heap.size, 1, none⟩) (by show w.heap.size < _; omega)).trans d1, kw.trans (kS.mono (by omega))⟩
    · rw [new_set (w4.drewN n5) _ _ _ _ _ w4.heap.size rfl]; exact (new_cells _ _ _ _ _ rfl).1
    · rw [new_set (w4.drewN n5) _ _ _ _ _ w4.heap.size rfl]; exact (new_cells _ _ _ _ _ rfl).2.1
  have HF : Hid _ := hF
  have HU : Hid _ := hU
  clear hF kZ kw k4 hx kA hC hS hU hshort d0 d1
  go_wp2_with (first | (go_at_call 5; refine hE.mono ?_; clear hE; rintro e w5 ⟨rfl, n5, rfl⟩; have hU5 := HU.out n5; clear HU) | (go_at_call 6; refine hU5.mono ?_; clear hU5; rintro e w6 ⟨rfl, hw6⟩; obtain ⟨f0, f1, d0, d1, kE⟩ := HF.out _ _ hw6; clear hw6))
  go_ret
  exact ⟨rfl, kE⟩

set_option maxHeartbeats 4000000 in
set_option maxRecDepth 100000 in
theorem walk_cut (a0 : Option Addr) (len0 cap0 : Nat) (zs : List Int) (a1 : Int) (a2 : Int) (C : Int) (sn : Nat) (w : World) (hl : len0 ≤ 4096) (hz : zs.length = len0)
    (hb : len0 = 0 ∨ ∃ g o, a0 = some ⟨g, o, none⟩ ∧ g < w.heap.size ∧ ∀ i, i < len0 → w.cell? ⟨g, o + i, none⟩ = some (.int .u8 (zs.getD i 0)))
    (h2 : 0 ≤ a2) (h2' : a2 ≤ 255) (hC : a1.tmod 1000000000000000000 = C) (hC1 : -1000000000000000000 < C) (hC2 : C < 1000000000000000000) (hS : a2 % 19 = (sn : Int)) (hs18 : sn ≤ 18) (hp : 0 < sn) (ht : (C.tmod 10 == 0) = true) :
    Calls Ybaf.prog 3 #[.slice a0 len0 cap0, .int .i64 a1, .int .u8 a2] w fun e w' => e = .returned (.bool true) ∧ Kept w.heap.size w w' := by
  have hl' : ¬ (4096 : Int) < (len0 : Int) := by omega
  obtain ⟨i0, hi, hz0, hz1, hz2⟩ := info_parts info5
  have HB : Hid _ := hb
  have HZ : Hid _ := hz
  clear hb hz
  have HL : (u8s zs).length = len0 := by rw [u8s_length]; exact HZ.out
  have hm : len0 ≤ maxLen := by unfold maxLen; omega
  have kA : ∀ o, Kept w.heap.size w (w.alloc o) := fun o => Kept.of ((Below.refl _ _).alloc (Nat.le_refl _) o)
  have hshort := trivial
  have hs64 : IntKind.u64.wrap 0 = ((0 : Nat) : Int) := by decide
  have hp' : (0 : Int) < (sn : Int) := by omega
  go_enter Ybaf.func3, Ybaf.ntmps3
  go_wp2_with (at_builtin; refine wpList_append_clone _ rfl _ _ 22 rfl 5 i0 (.int .u8 0) 1 Ybaf.underlying22 hi hz0 hz1 hz2 rfl a0 len0 cap0 (u8s zs) rfl rfl HL (src_kept HZ.out HB.out (kA _)) (u8s_one zs) hm (by omega) ?_)
  intro vb w1 hob hg1
  obtain ⟨ao, bb, capB, rfl, hcm, hbb, hcame⟩ := came_of_owns hob
  have hd0 : w1.cell? ⟨w.heap.size, 0, none⟩ = some (.int .i64 C) := hg1.cell (by simp) (by simp)
  have hd1 : w1.cell? ⟨w.heap.size, 1, none⟩ = some (.int .i64 0) := hg1.cell (by simp) (by simp)
  have hA := ab4 ao bb 0 len0 capB _ C 0 (by omega) (by omega) 0 hs64 (by omega) w1 hcame (by omega)
  have HBE := fun w4 W1 (hk : Kept w1.heap.size w1 W1) out ho => behind a0 len0 cap0 zs w w1 w4 W1 HZ.out HB.out _ _ hg1 ao bb capB hcm (by simpa using hbb) hcame hk out 0 C ho
  clear hob hcame hbb hg1
  have hn1 := Lib.uvarint_pos 0
  have hn10 := Lib.uvarint_length64 (x := 0) (by omega)
  have hm1 := Lib.uvarint_pos (Lib.zigzag C)
  have hm10 := Lib.uvarint_length64 (Lib.zigzag_lt (x := C) (by omega) (by omega))
  go_wp2_with (go_at_call 4; refine hA.mono ?_; clear hA; rintro e w4 ⟨out, W1, rfl, k1, ho⟩; clear hd0 hd1; obtain ⟨k4, s4, g, o', cap', rfl, c1, c2, r1, r2, hx⟩ := HBE _ _ k1 _ ho; clear HBE k1 ho)
  have hzm : zs.length ≤ maxLen := by have := HZ.out; omega
  have hE := eq5 _ _ zs w4 hzm r1 r2
  clear r1 r2
  have d0 : w4.cell? ⟨w.heap.size, 0, none⟩ = some (.int .i64 C) := (k4.cell (p := ⟨w.heap.size, 0, none⟩) (by simp)).trans (by simp)
  have d1 : w4.cell? ⟨w.heap.size, 1, none⟩ = some (.int .i64 0) := (k4.cell (p := ⟨w.heap.size, 1, none⟩) (by simp)).trans (by simp)
  have kZ : ∀ n5, Kept w4.heap.size w4 ((w4.drewN n5).alloc (.cells #[.int .i64 0, .int .i64 0] 24)) := fun n5 => (Kept.drewN _ _ _).trans (Kept.of ((Below.refl _ _).alloc (by simp) _))
  have kw : Kept w.heap.size w w4 := (kA _).trans (k4.mono (by omega))
  have hU := fun n5 => unm6 g (o' + len0) (cap' - len0) w4.heap.size 0 C _ _ _ ((w4.drewN n5).alloc (.cells #[.int .i64 0, .int .i64 0] 24)) rfl rfl rfl (by omega) (by omega)
    (fun j hj => ((kZ n5).cell (p := ⟨g, o' + len0 + j, none⟩) (World.block_lt_of_cell? w4 _ (hx j hj))).trans (hx j hj)) (by omega) hC1 hC2 (Or.inl rfl) (.int .i64 0) (.int .i64 0) (new_cells _ _ _ _ _ rfl).1 (new_cells _ _ _ _ _ rfl).2.1 (new_cells _ _ _ _ _ rfl).2.2.1 (new_cells _ _ _ _ _ rfl).2.2.2
  have hF : ∀ n5 w6, w6 = (((w4.drewN n5).alloc (.cells #[.int .i64 0, .int .i64 0] 24)).setCell ⟨w4.heap.size, 0, none⟩ (.int .i64 C)).setCell ⟨w4.heap.size, 1, none⟩ (.int .i64 0) →
      w6.cell? ⟨w4.heap.size, 0, none⟩ = some (.int .i64 C) ∧ w6.cell? ⟨w4.heap.size, 1, none⟩ = some (.int .i64 0) ∧ w6.cell? ⟨w.heap.size, 0, none⟩ = some (.int .i64 C) ∧ w6.cell? ⟨w.heap.size, 1, none⟩ = some (.int .i64 0) ∧ Kept w.heap.size w w6 := by
    rintro n5 w6 rfl
    have kS : Kept w4.heap.size w4 ((((w4.drewN n5).alloc (.cells #[.int .i64 0, .int .i64 0] 24)).setCell ⟨w4.heap.size, 0, none⟩ (.int .i64 C)).setCell ⟨w4.heap.size, 1, none⟩ (.int .i64 0)) :=
      (kZ n5).trans (Kept.of (((Below.refl _ _).setCell (p := ⟨w4.heap.size, 0, none⟩) (Nat.le_refl _) _).setCell (p := ⟨w4.heap.size, 1, none⟩) (Nat.le_refl _) _))
    refine ⟨?_, ?_, (kS.cell (p := ⟨w.heap.size, 0, none⟩) (by show w.heap.size < _; omega)).trans d0, (kS.cell (p := ⟨w.heap.size, 1, none⟩) (by show w.heap.size < _; omega)).trans d1, kw.trans (kS.mono (by omega))⟩
    · rw [new_set (w4.drewN n5) _ _ _ _ _ w4.heap.size rfl]; exact (new_cells _ _ _ _ _ rfl).1
    · rw [new_set (w4.drewN n5) _ _ _ _ _ w4.heap.size rfl]; exact (new_cells _ _ _ _ _ rfl).2.1
  have HF : Hid _ := hF
  have HU : Hid _ := hU
  clear hF kZ kw k4 hx kA hC hS hU hshort d0 d1
  go_wp2_with (first | (go_at_call 5; refine hE.mono ?_; clear hE; rintro e w5 ⟨rfl, n5, rfl⟩; have hU5 := HU.out n5; clear HU) | (go_at_call 6; refine hU5.mono ?_; clear hU5; rintro e w6 ⟨rfl, hw6⟩; obtain ⟨f0, f1, d0, d1, kE⟩ := HF.out _ _ hw6; clear hw6))
  go_ret
  exact ⟨rfl, kE⟩

theorem walk (a0 : Option Addr) (len0 cap0 : Nat) (zs : List Int) (a1 : Int) (a2 : Int) (w : World) (hz : zs.length = len0)
    (hb : len0 = 0 ∨ ∃ g o, a0 = some ⟨g, o, none⟩ ∧ g < w.heap.size ∧ ∀ i, i < len0 → w.cell? ⟨g, o + i, none⟩ = some (.int .u8 (zs.getD i 0)))
    (h2 : 0 ≤ a2) (h2' : a2 ≤ 255) :
    Calls Ybaf.prog 3 #[.slice a0 len0 cap0, .int .i64 a1, .int .u8 a2] w fun e w' => e = .returned (.bool true) ∧ Kept w.heap.size w w' := by
  by_cases hl : 4096 < len0
  · exact walk_long a0 len0 cap0 a1 a2 w hl
  obtain ⟨sn, hS⟩ : ∃ sn : Nat, a2 % 19 = (sn : Int) := ⟨(a2 % 19).toNat, by omega⟩
  obtain ⟨C, hC, hC1, hC2⟩ : ∃ C : Int, a1.tmod 1000000000000000000 = C ∧ -1000000000000000000 < C ∧ C < 1000000000000000000 := by
    refine ⟨_, rfl, ?_, ?_⟩
    · have h1 := Int.natAbs_tmod a1 1000000000000000000
      have h2 : a1.natAbs % (1000000000000000000 : Int).natAbs < 1000000000000000000 := Nat.mod_lt _ (by decide)
      omega
    · have h1 := Int.natAbs_tmod a1 1000000000000000000
      have h2 : a1.natAbs % (1000000000000000000 : Int).natAbs < 1000000000000000000 := Nat.mod_lt _ (by decide)
      omega
  by_cases hp : 0 < sn
  · cases ht : (C.tmod 10 == 0) with
    | true => exact walk_cut a0 len0 cap0 zs a1 a2 C sn w (by omega) hz hb h2 h2' hC hC1 hC2 hS (by omega) hp ht
    | false => exact walk_pos a0 len0 cap0 zs a1 a2 C sn w (by omega) hz hb h2 h2' hC hC1 hC2 hS (by omega) hp ht
  · exact walk_zero a0 len0 cap0 zs a1 a2 C sn w (by omega) hz hb h2 h2' hC hC1 hC2 hS (by omega) hp

end Go.Proofs.YbulkbkjuFmt
