/-
  'Rows.LawS3062AExactSaid', proved. The frame (behind the walk) is the seat's own shell, written by program; the walk's end says 'Kept' (below the old heap nothing has turned) in the place of 'Below'.
-/
import Derived.Test.YbulkbkjuRows
import Derived.WalkKit
import Derived.ProofKit
import Derived.OpenShut
import Derived.ShutString
import Derived.ChangeOld
import Derived.Below
import Derived.Test.YbulkbkjuEq
namespace Go.Proofs.Ybulkbkju.lawS3062AExact
open Go.ChangeShapes Go.WideShapes Go.ChangeAt Go.RowKit
open Go.ChangeMaps (open_string shut_string)
set_option linter.unusedVariables false

theorem own : ownKnob Yba.prog.godebug = none := by kernel_rfl
theorem laidOut : laidOutB Yba.prog = true := by kernel_rfl

/-- WHAT THE WALK IS TOLD OF A SLICE OF INTEGERS THAT CAME IN: it is nil; or it leads to a row of 'cap' cells, the numbers 'zs' (the first 'len' are its elements, the rest its spare room), each fitting its kind. -/
def IsRow (k : IntKind) (w : World) (a : Option Addr) (len cap : Nat) (zs : List Int) : Prop :=
  (a = none ∧ len = 0 ∧ cap = 0 ∧ zs = []) ∨
  ∃ x, a = some x ∧ len ≤ cap ∧ cap ≤ maxLen ∧ zs.length = cap ∧ (∀ i, i < zs.length → w.cell? (x.add i) = some (.int k (zs.getD i 0))) ∧ ∀ n ∈ zs, (Lit.int k n).wf = true

/-! ### STEP 1: THE WALK: the Go text returns true, and writes nothing that was there. -/
/-- The elements of an incoming row as cells. -/
theorem row_cells {w : World} {a : Option Addr} {len cap : Nat} {zs : List Int} (h : IsRow .u8 w a len cap zs) :
    (len = 0 ∨ ∃ g o, a = some ⟨g, o, none⟩ ∧ g < w.heap.size ∧ ∀ i, i < len → w.cell? ⟨g, o + i, none⟩ = some (.int .u8 ((zs.take len).getD i 0))) ∧ (zs.take len).length = len := by
  rcases h with ⟨rfl, rfl, rfl, rfl⟩ | ⟨x, rfl, h1, h2, h3, h4, h5⟩
  · exact ⟨.inl rfl, rfl⟩
  · refine ⟨?_, by rw [List.length_take]; omega⟩
    by_cases h0 : len = 0
    · exact .inl h0
    · obtain ⟨g, o, spot⟩ := x
      have c0 := h4 0 (by omega)
      have hspot : spot = none := by simpa [Addr.add] using World.cell?_spot c0
      subst hspot
      refine .inr ⟨g, o, rfl, World.block_lt_of_cell? w _ c0, fun i hi => ?_⟩
      have := h4 i (by omega)
      rw [Addr.add_lit] at this
      rw [this]
      simp [List.getD_eq_getElem?_getD, hi]

set_option maxHeartbeats 4000000 in
set_option maxRecDepth 100000 in
theorem walk_long (a0 : Option Addr) (len0 cap0 : Nat) (a1 : Int) (a2 : Int) (w : World) (hl : 4096 < len0) :
    Calls Yba.prog 3 #[.slice a0 len0 cap0, .int .i64 a1, .int .i64 a2] w fun e w' => e = .returned (.bool true) ∧ Kept w.heap.size w w' := by
  have hl' : (4096 : Int) < (len0 : Int) := by omega
  go_enter Yba.func3, Yba.ntmps3
  go_wp2
  go_ret
  exact ⟨rfl, Kept.refl _ _⟩

theorem wraps (s : Int) : ∃ n : Nat, IntKind.u64.wrap s = (n : Int) ∧ n < 18446744073709551616 := by
  refine ⟨(IntKind.u64.wrap s).toNat, ?_, ?_⟩ <;> rw [IntKind.wrap_u64] <;> omega

set_option maxHeartbeats 4000000 in
set_option maxRecDepth 100000 in
theorem walk_short (a0 : Option Addr) (len0 cap0 : Nat) (zs : List Int) (a1 : Int) (a2 : Int) (w : World) (hl : len0 ≤ 4096) (hz : zs.length = len0)
    (hb : len0 = 0 ∨ ∃ g o, a0 = some ⟨g, o, none⟩ ∧ g < w.heap.size ∧ ∀ i, i < len0 → w.cell? ⟨g, o + i, none⟩ = some (.int .u8 (zs.getD i 0)))
    (h1 : -9223372036854775808 ≤ a1) (h1' : a1 ≤ 9223372036854775807) :
    Calls Yba.prog 3 #[.slice a0 len0 cap0, .int .i64 a1, .int .i64 a2] w fun e w' => e = .returned (.bool true) ∧ Kept w.heap.size w w' := by
  have hl' : ¬ (4096 : Int) < (len0 : Int) := by omega
  obtain ⟨sn, hs, hsn⟩ := wraps a2
  obtain ⟨i0, hi, hz0, hz1, hz2⟩ := info_parts info5
  have HB : Hid _ := hb
  have HZ : Hid _ := hz
  clear hb hz
  have HL : (u8s zs).length = len0 := by rw [u8s_length]; exact HZ.out
  have hm : len0 ≤ maxLen := by unfold maxLen; omega
  go_enter Yba.func3, Yba.ntmps3
  go_wp2_with (at_builtin; refine wpList_append_clone _ rfl _ _ 22 rfl 5 i0 (.int .u8 0) 1 Yba.underlying22 hi hz0 hz1 hz2 rfl a0 len0 cap0 (u8s zs) rfl rfl HL (src_kept HZ.out HB.out (Kept.refl _ _)) (u8s_one zs) hm (by omega) ?_)
  intro vb w1 hob hg1
  obtain ⟨ao, bb, capB, rfl, hcm, hbb, hcame⟩ := came_of_owns hob
  have kk := Kept.of ((Below.refl w1.heap.size w1).alloc (Nat.le_refl _) (.cells #[.int .i64 a1, .int .i64 a2] 24))
  have hA := ab4 ao bb 0 len0 capB _ a1 a2 h1 h1' sn hs hsn _ (Came.below hcame kk) (by omega)
  have s1 := hg1.size
  have kw1 : Kept w.heap.size w w1 := Kept.grown hg1 (Nat.le_refl _)
  have kw2 := kw1.trans (kk.mono s1)
  have HM : ∀ w4 out W1 k ks, Kept (w1.alloc (Obj.cells #[Value.int IntKind.i64 a1, Value.int IntKind.i64 a2] 24)).heap.size (w1.alloc (Obj.cells #[Value.int IntKind.i64 a1, Value.int IntKind.i64 a2] 24)) W1 → Onto W1 5 1 ao bb 0 len0 capB (u8s zs) w4 out k ks → Kept w.heap.size w w4 := by
    intro w4 out W1 k ks k1 ho
    have s2 := k1.size
    have s3 : w.heap.size ≤ (w1.alloc (Obj.cells #[Value.int IntKind.i64 a1, Value.int IntKind.i64 a2] 24)).heap.size := by simp; omega
    exact (kw2.trans (k1.mono s3)).trans (Kept.onto ho (Nat.le_trans s3 s2) hbb)
  go_wp2_with (first | (go_at_call 4; refine hA.mono ?_; clear hA; rintro e w4 ⟨out, W1, rfl, k1, ho⟩; have k4 := HM _ _ _ _ _ k1 ho) | (at_builtin; refine wpList_append_clone _ rfl _ _ 22 rfl 5 i0 (.int .u8 0) 1 Yba.underlying22 hi hz0 hz1 hz2 rfl a0 len0 cap0 (u8s zs) rfl rfl HL (src_kept HZ.out HB.out k4) (u8s_one zs) hm (by omega) ?_))
  intro vw w5 how hg5
  obtain ⟨aw, bw, capW, rfl, hcmw, hbw, hcamw⟩ := came_of_owns how
  have hU := uv5 _ aw bw 0 len0 capW _ hcamw sn hsn _ 0 [] _ (Onto.start hcamw) (by omega)
  simp only [Nat.zero_add, List.nil_append] at hU
  have hlen := Lib.uvarint_length64 hsn
  have hR : ∀ w7 v7, Onto w5 5 1 aw bw 0 len0 capW (u8s zs) w7 v7 ((Lib.uvarint sn).length + (Lib.uvarint (Lib.zigzag a1)).length) (Lib.byteCells (Lib.uvarint sn) ++ Lib.byteCells (Lib.uvarint (Lib.zigzag a1))) →
      (∃ xs : List Int, xs.length ≤ maxLen ∧ Reads w7 out xs ∧ Reads w7 v7 xs) ∧ (zs.length ≤ maxLen ∧ Reads w7 (.slice ao len0 capB) zs ∧ Reads w7 (.slice a0 len0 cap0) zs) ∧ Kept w.heap.size w w7 := by
    intro w7 v7 ho7
    have s5 := hg5.size
    have s4 := k4.size
    have k47 : Kept w4.heap.size w4 w7 := (Kept.grown hg5 (Nat.le_refl _)).trans (Kept.onto ho7 s5 hbw)
    have kw7 : Kept w.heap.size w w7 := k4.trans (k47.mono s4)
    have hp := Lib.uvarint_pos sn
    have hlz := Lib.uvarint_length64 (Lib.zigzag_lt h1 h1')
    have hc1 : Came W1 1 ao bb 0 len0 capB (u8s zs) := Came.below (Came.below hcame kk) k1
    refine ⟨⟨zs ++ (bytesOf (Lib.uvarint sn) ++ bytesOf (Lib.uvarint (Lib.zigzag a1))), ?_, ?_, ?_⟩, ⟨?_, ?_, ?_⟩, kw7⟩
    · have := HZ.out
      simp [bytesOf, maxLen]
      omega
    · exact (reads_onto ho hc1 hcm (by omega) HZ.out (by rw [byteCells_u8s, byteCells_u8s, u8s_append])).kept k47
    · exact reads_onto ho7 hcamw hcmw (by omega) HZ.out (by rw [byteCells_u8s, byteCells_u8s, u8s_append])
    · have := HZ.out
      omega
    · exact (reads_came_onto ho hc1 HZ.out).kept k47
    · refine Reads.kept ?_ kw7
      refine ⟨a0, cap0, by rw [HZ.out], ?_⟩
      rw [HZ.out]
      rcases HB.out with h0 | ⟨g, o, e1, _, e2⟩
      · exact .inl h0
      · exact .inr ⟨g, o, e1, e2⟩
  clear HM k1 ho
  by_cases hneg : a1 < 0
  · have hU2 : ∀ w6 v6, Onto w5 5 1 aw bw 0 len0 capW (u8s zs) w6 v6 (Lib.uvarint sn).length (Lib.byteCells (Lib.uvarint sn)) → _ := fun w6 v6 ho6 => uv5 _ aw bw 0 len0 capW _ hcamw (Lib.zigzag a1) (Lib.zigzag_lt h1 h1') v6 _ _ w6 ho6 (by omega)
    simp only [← Lib.zigzag_neg h1 hneg] at hU2
    go_wp2_with (first | (go_at_call 5; refine hU.mono ?_; clear hU; rintro e w6 ⟨v6, rfl, ho6⟩) | (go_at_call 5; refine (hU2 _ _ ho6).mono ?_; clear hU2; rintro e w7 ⟨v7, rfl, ho7⟩; obtain ⟨⟨xs, x1, x2, x3⟩, ⟨y1, y2, y3⟩, k7⟩ := hR _ _ ho7; clear hR) | (go_at_call 6; refine (eq6 _ _ xs _ x1 x2 x3).mono ?_; rintro e w8 ⟨rfl, n8, rfl⟩; clear x1 x2 x3) | (go_at_call 6; refine (eq6 _ _ zs _ y1 (y2.kept (Kept.drewN _ _ _)) (y3.kept (Kept.drewN _ _ _))).mono ?_; rintro e w9 ⟨rfl, n9, rfl⟩))
    go_ret
    exact ⟨rfl, k7.trans (Kept.drewN _ _ _)⟩
  · have hU2 : ∀ w6 v6, Onto w5 5 1 aw bw 0 len0 capW (u8s zs) w6 v6 (Lib.uvarint sn).length (Lib.byteCells (Lib.uvarint sn)) → _ := fun w6 v6 ho6 => uv5 _ aw bw 0 len0 capW _ hcamw (Lib.zigzag a1) (Lib.zigzag_lt h1 h1') v6 _ _ w6 ho6 (by omega)
    simp only [Lib.zigzag_nonneg (show 0 ≤ a1 by omega)] at hU2
    go_wp2_with (first | (go_at_call 5; refine hU.mono ?_; clear hU; rintro e w6 ⟨v6, rfl, ho6⟩) | (go_at_call 5; refine (hU2 _ _ ho6).mono ?_; clear hU2; rintro e w7 ⟨v7, rfl, ho7⟩; obtain ⟨⟨xs, x1, x2, x3⟩, ⟨y1, y2, y3⟩, k7⟩ := hR _ _ ho7; clear hR) | (go_at_call 6; refine (eq6 _ _ xs _ x1 x2 x3).mono ?_; rintro e w8 ⟨rfl, n8, rfl⟩; clear x1 x2 x3) | (go_at_call 6; refine (eq6 _ _ zs _ y1 (y2.kept (Kept.drewN _ _ _)) (y3.kept (Kept.drewN _ _ _))).mono ?_; rintro e w9 ⟨rfl, n9, rfl⟩))
    go_ret
    exact ⟨rfl, k7.trans (Kept.drewN _ _ _)⟩

theorem walk (a0 : Option Addr) (len0 cap0 : Nat) (z0 : List Int) (a1 : Int) (a2 : Int) (w : World) (w0 : IsRow .u8 w a0 len0 cap0 z0) (w1 : (Lit.int .i64 a1).wf = true) (w2 : (Lit.int .i64 a2).wf = true) :
    Calls Yba.prog 3 #[.slice a0 len0 cap0, .int .i64 a1, .int .i64 a2] w fun e w' => e = .returned (.bool true) ∧ Kept w.heap.size w w' := by
  by_cases hl : 4096 < len0
  · exact walk_long a0 len0 cap0 a1 a2 w hl
  · have hr := row_cells w0
    have hb := bounds_i64 w1
    exact walk_short a0 len0 cap0 (z0.take len0) a1 a2 w (by omega) hr.2 hr.1 (by omega) (by omega)

/-! ### THE ROW's STEP: WRITTEN OUT: LEAVE IT -/
set_option maxRecDepth 100000 in
theorem lifted (os : Os) (started : os.Started) (H : Type) (enc : TypeId × Value → H) :
    ReturnsInHanded {} Yba.checked os 3 .any (Rows.lawS3062AExactSpec.pre6 enc Yba.prog Yba.f3 Rows.lawS3062AExactRow.domain false) (Rows.lawS3062AExactSpec.post enc Yba.prog Yba.f3 false true false false) := by
  refine returnsInHanded_of_change (C := Yba.checked) own started (by kernel_rfl) Yba.func3
    (ChangeSpec.witness6 (enc := enc) (C := Yba.checked) false ⟨#[], #[.slice none 0 0, .int .i64 0, .int .i64 0], []⟩ 8 (by kernel_rfl) (by kernel_rfl) (by kernel_rfl) (by kernel_rfl)) ?_
  intro W base args ds gs before hval0 hW hcnd _
  have hval : ∀ (j : Nat) t v, Yba.f3.params[j]? = some t → args[j]? = some v → Value.okWide Yba.prog W .any base t v := hval0
  have hW' := hW
  obtain ⟨p, q, hA0, hV, rfl, hfz, hnd⟩ := hW
  have hA : DataW.TrodAll enc Yba.prog W 0 (fun _ => true) true Yba.f3.params.toList args.toList ds p := hA0
  rw [Yba.params3] at hA hval
  obtain ⟨v0, vs0, d0, ds0, p0, q0, hargs, rfl, rfl, h0, r0⟩ := trodAll_cons hA
  obtain ⟨v1, vs1, d1, ds1, p1, q1, rfl, rfl, rfl, h1, r1⟩ := trodAll_cons r0
  obtain ⟨v2, vs2, d2, ds2, p2, q2, rfl, rfl, rfl, h2, r2⟩ := trodAll_cons r1
  obtain ⟨rfl, rfl, rfl⟩ := trodAll_nil r2
  obtain rfl : args = #[v0, v1, v2] := by cases args; simp_all
  obtain ⟨rfl, rfl⟩ := trodVars_none hV
  obtain ⟨a0, len0, cap0, rfl⟩ := okWide_slice Yba.underlying22 (hval 0 22 v0 rfl rfl)
  have k0 := h0
  have lt0 : ∀ x ∈ p0, x.block < W.heap.size := by obtain ⟨m, hm⟩ := k0; exact DataW.trod_lt m _ _ _ hm
  obtain ⟨z0, w0⟩ : ∃ zs, IsRow .u8 W a0 len0 cap0 zs := by
    obtain ⟨fuel, hf⟩ := h0
    rcases open_ints Yba.underlying22 Yba.underlying5 (by kernel_rfl) hf with ⟨hcs, _⟩ | ⟨x, l, c, zs, hcs, _, hl, hm, hz, _, hcell, hwz⟩
    · simp [Value.cells] at hcs
      obtain ⟨rfl, rfl, rfl⟩ := hcs
      exact ⟨[], .inl ⟨rfl, rfl, rfl, rfl⟩⟩
    · simp [Value.cells] at hcs
      obtain ⟨rfl, rfl, rfl⟩ := hcs
      exact ⟨zs, .inr ⟨_, rfl, hl, hm, by simpa using hz, hcell, hwz⟩⟩
  obtain ⟨a1, rfl, rfl, rfl, w1⟩ := open_int Yba.underlying2 (hval 1 2 v1 rfl rfl) h1
  obtain ⟨a2, rfl, rfl, rfl, w2⟩ := open_int Yba.underlying3 (hval 2 3 v2 rfl rfl) h2
  clear hA0 hval0
  refine (walk a0 len0 cap0 z0 a1 a2 W w0 w1 w2).mono fun e W' ⟨he, bel⟩ => ?_
  subst he
  exact ⟨_, rfl, _, _, _, [], _, [], hW', trodAll_mk1 (shut_bool Yba.underlying4 _), (trodAll_cons_mk (WideElems.Trod_stays laidOut (by kernel_rfl) (of_decide_eq_true (by kernel_rfl)) k0 (fun x hx => bel.same (lt0 x hx)) (fun x hx => by simpa using lt0 x hx)) (trodAll_cons_mk (shut_int Yba.underlying2 w1) (trodAll_cons_mk (shut_int Yba.underlying3 w2) trodAll_mk0))), rfl, bel.frame _, fun h => by cases h⟩

theorem over : Rows.lawS3062AExactRow.holds Yba.pinned (OpenSpec.ofChange Rows.lawS3062AExactSpec) :=
  OpenClaim.holds_of_wide 3 Yba.f3 rfl rfl rfl rfl rfl rfl rfl ⟨rfl, rfl, rfl, rfl, rfl⟩ rfl rfl rfl rfl rfl (by kernel_rfl) Yba.func3 (by kernel_rfl)
    (of_decide_eq_true (by kernel_rfl)) (by unfold Func.isWrapper; first | (rw [if_pos (by decide +kernel)]; kernel_rfl) | (rw [if_neg (by decide +kernel)]; exact ⟨rfl, rfl⟩))
    (fun os started H enc _ => lifted os started H enc)

/-- ████ THE STATEMENT ████ -/
theorem proved : Rows.LawS3062AExactSaid := over
#print axioms proved
end Go.Proofs.Ybulkbkju.lawS3062AExact
