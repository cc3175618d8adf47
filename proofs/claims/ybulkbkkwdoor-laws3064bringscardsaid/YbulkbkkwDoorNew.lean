/-
  New (function 5): a node with the number, the policy and the environment that it was handed; its region of 35 operations draws its order: by the table.
-/
import Derived.Test.YbulkbkkwDoorOps
import Derived.Deep.Light
namespace Go.Proofs.YbulkbkkwDoor
open Go.RowKit
set_option linter.unusedVariables false

/-- The Config that both laws hand to New. -/
def cfg (mr number : Int) (eb : Nat) : Array Value :=
  #[.string ⟨#[115, 101, 108, 102]⟩, .slice none 0 0, .slice none 0 0, .map none, .bool false, .int .i64 0, .string ⟨#[]⟩, .int .i64 mr, .float .f64 0, .bool false, .int .i64 0, .int .u8 0, .slice none 0 0, .bool false, .pointer none, .iface 22 (.pointer (some ⟨eb, 0, none⟩)), .nilFunc, .int .i32 number]
def pol (mr : Int) : Array Value := #[.string ⟨#[]⟩, .int .i64 mr, .float .f64 0, .bool false, .int .i64 0, .int .u8 0]

/-- What the laws need of a Node's cells. -/
def IsNode (mr number : Int) (eb : Nat) (arr : Array Value) : Prop :=
  arr[1]? = some (.iface 22 (.pointer (some ⟨eb, 0, none⟩))) ∧ arr[3]? = some (.int .i32 number) ∧ arr[9]? = some (.int .i64 mr)
def NodeAt (mr number : Int) (eb nb : Nat) (w : World) : Prop :=
  w.cell? ⟨nb, 1, none⟩ = some (.iface 22 (.pointer (some ⟨eb, 0, none⟩))) ∧ w.cell? ⟨nb, 3, none⟩ = some (.int .i32 number) ∧ w.cell? ⟨nb, 9, none⟩ = some (.int .i64 mr)
theorem NodeAt.lt {mr number : Int} {eb nb : Nat} {w : World} (h : NodeAt mr number eb nb w) : nb < w.heap.size := World.block_lt_of_cell? w _ h.1
theorem NodeAt.below {mr number : Int} {eb nb : Nat} {w w' : World} (h : NodeAt mr number eb nb w) (hb : Below w.heap.size w w') : NodeAt mr number eb nb w' :=
  ⟨(hb.cell (p := ⟨nb, 1, none⟩) h.lt).trans h.1, (hb.cell (p := ⟨nb, 3, none⟩) h.lt).trans h.2.1, (hb.cell (p := ⟨nb, 9, none⟩) h.lt).trans h.2.2⟩
theorem NodeAt.new {mr number : Int} {eb : Nat} (w : World) {arr : Array Value} (h : IsNode mr number eb arr) : NodeAt mr number eb w.heap.size (w.alloc (.cells arr 121)) := by
  have hr := heap_alloc_new w (.cells arr 121)
  refine ⟨?_, ?_, ?_⟩
  · rw [cell_of_row _ _ _ arr 121 (0, 0) hr]; exact h.1
  · rw [cell_of_row _ _ _ arr 121 (0, 0) hr]; exact h.2.1
  · rw [cell_of_row _ _ _ arr 121 (0, 0) hr]; exact h.2.2

def PhiN (mr number : Int) (eb cb : Nat) (j : Nat) (v : Value) (w : World) : Prop :=
  match j with
  | 0 => v = .pointer (some ⟨cb, 0, none⟩)
  | 1 => v = .string ⟨#[115, 101, 108, 102]⟩
  | 2 => v = .pointer (some ⟨cb, 17, none⟩)
  | 3 => v = .int .i32 number
  | 4 => v = .pointer (some ⟨cb, 4, none⟩)
  | 5 => v = .bool false
  | 6 => v = .pointer (some ⟨cb, 5, none⟩)
  | 7 => v = .int .i64 0
  | 8 => v = .pointer (some ⟨cb, 6, none⟩)
  | 9 => v = .agg (pol mr)
  | 10 => v = .pointer (some ⟨cb, 14, none⟩)
  | 11 => v = .pointer none
  | 12 => v = .pointer (some ⟨cb, 15, none⟩)
  | 13 => v = .iface 22 (.pointer (some ⟨eb, 0, none⟩))
  | 14 => ∃ r, v = .map (some r)
  | 15 => ∃ r, v = .map (some r)
  | 16 => v = .pointer (some ⟨cb, 2, none⟩)
  | 17 => v = .slice none 0 0
  | 18 => v = .int .i64 0
  | 19 => v = .pointer (some ⟨cb, 12, none⟩)
  | 20 => v = .slice none 0 0
  | 21 => v = .pointer (some ⟨cb, 13, none⟩)
  | 22 => v = .bool false
  | 23 => ∃ r, v = .map (some r)
  | 24 => ∃ r, v = .map (some r)
  | 25 => ∃ r, v = .map (some r)
  | 26 => ∃ r, v = .map (some r)
  | 27 => ∃ r, v = .map (some r)
  | 28 => v = .pointer (some ⟨cb, 16, none⟩)
  | 29 => v = .nilFunc
  | 30 => ∃ r, v = .slice (some ⟨r, 0, none⟩) 31 31
  | 31 => ∃ r1 r2 r3, v = .agg (d115 r1 r2 r3)
  | 32 => ∃ arr, v = .agg arr ∧ IsNode mr number eb arr
  | 33 => ∃ nb, v = .pointer (some ⟨nb, 0, none⟩) ∧ cb < nb ∧ NodeAt mr number eb nb w
  | 34 => ∃ nb, v = .pointer (some ⟨nb, 0, none⟩) ∧ cb < nb ∧ NodeAt mr number eb nb w
  | _ => True

theorem PhiN_mono (mr number : Int) (eb cb : Nat) (j : Nat) (v : Value) (w1 w2 : World) (h : PhiN mr number eb cb j v w1) (hb : Below w1.heap.size w1 w2) : PhiN mr number eb cb j v w2 := by
  unfold PhiN at h ⊢
  split at h <;> first | exact h | (obtain ⟨nb, h1, h2, h3⟩ := h; exact ⟨nb, h1, h2, h3.below hb⟩)

def n121 (number mr : Int) (eb r1 r2 r3 r4 r5 r6 r7 s1 d1 d2 d3 : Nat) : Array Value :=
  #[.slice none 0 0, .iface 22 (.pointer (some ⟨eb, 0, none⟩)), .pointer none, .int .i32 number, .bool false, .bool false, .bool false, .bool false, .string ⟨#[]⟩, .int .i64 mr] ++
    (((((((((((((z121.setIfInBounds 15 (.string ⟨#[115, 101, 108, 102]⟩)).setIfInBounds 17 (.map (some r1))).setIfInBounds 20 (.map (some r2))).setIfInBounds 22 (.int .i64 0)).setIfInBounds 24 (.slice none 0 0)).setIfInBounds 25 (.bool false)).setIfInBounds 30 (.map (some r3))).setIfInBounds 33 (.map (some r4))).setIfInBounds 34 (.map (some r5))).setIfInBounds 36 (.map (some r6))).setIfInBounds 37 (.map (some r7))).setIfInBounds 38 .nilFunc).setIfInBounds 41 (.slice (some ⟨s1, 0, none⟩) 31 31)).extract 10 51 ++ d115 d1 d2 d3
set_option maxRecDepth 100000 in
theorem built121 (number mr : Int) (eb r1 r2 r3 r4 r5 r6 r7 s1 d1 d2 d3 : Nat) (w : World) :
    (Instr.build 121 #[(10, .string ⟨#[115, 101, 108, 102]⟩), (3, .int .i32 number), (4, .bool false), (11, .int .i64 0), (8, .agg (pol mr)), (2, .pointer none), (1, .iface 22 (.pointer (some ⟨eb, 0, none⟩))), (12, .map (some r1)), (15, .map (some r2)), (17, .int .i64 0), (19, .slice none 0 0), (20, .bool false), (24, .map (some r3)), (27, .map (some r4)), (28, .map (some r5)), (30, .map (some r6)), (31, .map (some r7)), (32, .nilFunc), (35, .slice (some ⟨s1, 0, none⟩) 31 31), (45, .agg (d115 d1 d2 d3))]).run Ybad.prog w = .ok (.agg (n121 number mr eb r1 r2 r3 r4 r5 r6 r7 s1 d1 d2 d3)) w :=
  run_build w 121 _ _ (by kernel_rfl)
theorem node_n121 (number mr : Int) (eb r1 r2 r3 r4 r5 r6 r7 s1 d1 d2 d3 : Nat) : IsNode mr number eb (n121 number mr eb r1 r2 r3 r4 r5 r6 r7 s1 d1 d2 d3) := by
  unfold n121
  generalize (((((((((((((z121.setIfInBounds 15 (.string ⟨#[115, 101, 108, 102]⟩)).setIfInBounds 17 (.map (some r1))).setIfInBounds 20 (.map (some r2))).setIfInBounds 22 (.int .i64 0)).setIfInBounds 24 (.slice none 0 0)).setIfInBounds 25 (.bool false)).setIfInBounds 30 (.map (some r3))).setIfInBounds 33 (.map (some r4))).setIfInBounds 34 (.map (some r5))).setIfInBounds 36 (.map (some r6))).setIfInBounds 37 (.map (some r7))).setIfInBounds 38 .nilFunc).setIfInBounds 41 (.slice (some ⟨s1, 0, none⟩) 31 31)).extract 10 51 = X
  generalize d115 d1 d2 d3 = Y
  refine ⟨?_, ?_, ?_⟩ <;> (rw [Array.append_assoc, Array.getElem?_append_left (by simp)]; rfl)

theorem made103 (w : World) : ∃ arr, (Instr.makeSlice 103 (.int .i64 31) (.int .i64 31)).run Ybad.prog w = .ok (.slice (some ⟨w.heap.size, 0, none⟩) 31 31) (w.alloc (.cells arr 82)) := by
  cases hi : Ybad.prog.info? 82 with
  | none => exact absurd hi (by have : (Ybad.prog.info? 82).isSome = true := by kernel_rfl
                                intro h; rw [h] at this; cases this)
  | some i =>
    have hz : i.zero = some (.slice none 0 0) := by
      have : (Ybad.prog.info? 82).map (·.zero) = some (some (.slice none 0 0)) := by kernel_rfl
      rw [hi] at this; simpa using this
    have hb : i.bytes = 24 := by
      have : (Ybad.prog.info? 82).map (·.bytes) = some 24 := by kernel_rfl
      rw [hi] at this; simpa using this
    have := run_make (P := Ybad.prog) w 103 82 i _ Ybad.underlying103 hi hz .i64 .i64 31 31 (by omega) (by omega) (by rw [hb]; omega) (by omega)
    exact ⟨_, this⟩

theorem ev {a : Act} {s : Nat} {v : Value} (h : a.tmps[s]? = some v) : a.eval (.tmp s) = v := by simp [Act.eval, h]
theorem g_make {o : Oper} {a : Act} {w1 w2 : World} {v : Value} (ho : o.op = .makeSlice 103 (.const (.int .i64 31)) (.const (.int .i64 31))) (h : (Instr.makeSlice 103 (.int .i64 31) (.int .i64 31)).run Ybad.prog w1 = .ok v w2) : (execOp a.eval o).run Ybad.prog w1 = .ok (.value v) w2 := by
  unfold execOp
  rw [ho]
  simp [Act.eval, h]
theorem act_ext (a : Act) (l : List Value) (hs : a.tmps.size = l.length) (h : ∀ d, d < l.length → a.tmps[d]? = l[d]?) (hd : a.defers = []) : a = ⟨l.toArray, []⟩ := by
  obtain ⟨t, d⟩ := a
  simp only at hs hd h
  subst hd
  congr 1
  apply Array.ext
  · simpa using hs
  · intro i h1 h2
    have := h i (by simpa using h2)
    rw [Array.getElem?_eq_getElem h1, List.getElem?_eq_getElem (by simpa using h2)] at this
    simpa using this

theorem frame5 (mr number : Int) (eb nb : Nat) (w : World) (a : Act) (h : Rest [11, 12, 13, 14, 15, 16, 17, 18, 19, 20, 21, 22, 23, 24, 25, 26, 27, 28, 29, 30, 31, 32, 33, 34, 35, 36, 37, 38, 39, 40, 41, 42, 43, 44, 3] ⟨#[.agg (cfg mr number eb), .pointer (some ⟨w.heap.size, 0, none⟩), .pointer none, undef, undef, undef, undef, undef, undef, undef, undef, undef, undef, undef, undef, undef, undef, undef, undef, undef, undef, undef, undef, undef, undef, undef, undef, undef, undef, undef, undef, undef, undef, undef, undef, undef, undef, undef, undef, undef, undef, undef, undef, undef, undef, undef, undef, undef, undef, undef, undef, undef, undef, undef, undef, undef, undef, undef, undef, undef, undef, undef, undef, undef, undef, undef, undef, undef, undef, undef, undef, undef, undef, undef, undef, undef, undef, undef, undef, undef, undef, undef, undef, undef, undef, undef, undef, undef, undef, undef, undef, undef, undef, undef, undef, undef, undef, undef, undef, undef, undef, undef, undef, undef, undef, undef, undef, undef, undef, undef, undef, undef, undef, undef], []⟩ a) (h3 : a.tmps[3]? = some (.pointer (some ⟨nb, 0, none⟩))) :
    ∃ us : Nat → Value, a = ⟨#[.agg (cfg mr number eb), .pointer (some ⟨w.heap.size, 0, none⟩), .pointer none, .pointer (some ⟨nb, 0, none⟩), undef, undef, undef, undef, undef, undef, undef, us 11, us 12, us 13, us 14, us 15, us 16, us 17, us 18, us 19, us 20, us 21, us 22, us 23, us 24, us 25, us 26, us 27, us 28, us 29, us 30, us 31, us 32, us 33, us 34, us 35, us 36, us 37, us 38, us 39, us 40, us 41, us 42, us 43, us 44, undef, undef, undef, undef, undef, undef, undef, undef, undef, undef, undef, undef, undef, undef, undef, undef, undef, undef, undef, undef, undef, undef, undef, undef, undef, undef, undef, undef, undef, undef, undef, undef, undef, undef, undef, undef, undef, undef, undef, undef, undef, undef, undef, undef, undef, undef, undef, undef, undef, undef, undef, undef, undef, undef, undef, undef, undef, undef, undef, undef, undef, undef, undef, undef, undef, undef, undef, undef, undef], []⟩ := by
  refine ⟨fun d => a.tmps.getD d undef, (act_ext a ((List.range 114).map fun d => if d = 3 then .pointer (some ⟨nb, 0, none⟩) else if [11, 12, 13, 14, 15, 16, 17, 18, 19, 20, 21, 22, 23, 24, 25, 26, 27, 28, 29, 30, 31, 32, 33, 34, 35, 36, 37, 38, 39, 40, 41, 42, 43, 44, 3].contains d then a.tmps.getD d undef else (#[.agg (cfg mr number eb), .pointer (some ⟨w.heap.size, 0, none⟩), .pointer none, undef, undef, undef, undef, undef, undef, undef, undef, undef, undef, undef, undef, undef, undef, undef, undef, undef, undef, undef, undef, undef, undef, undef, undef, undef, undef, undef, undef, undef, undef, undef, undef, undef, undef, undef, undef, undef, undef, undef, undef, undef, undef, undef, undef, undef, undef, undef, undef, undef, undef, undef, undef, undef, undef, undef, undef, undef, undef, undef, undef, undef, undef, undef, undef, undef, undef, undef, undef, undef, undef, undef, undef, undef, undef, undef, undef, undef, undef, undef, undef, undef, undef, undef, undef, undef, undef, undef, undef, undef, undef, undef, undef, undef, undef, undef, undef, undef, undef, undef, undef, undef, undef, undef, undef, undef, undef, undef, undef, undef, undef, undef] : Array Value).getD d undef) ?_ (fun d hd => ?_) h.defers).trans (by kernel_rfl)⟩
  · rw [h.size]; simp
  · have hs : a.tmps.size = 114 := h.size
    have hd' : d < 114 := by simpa using hd
    rw [List.getElem?_map, List.getElem?_range hd']
    simp only [Option.map_some]
    by_cases e3 : d = 3
    · subst e3; exact h3
    · rw [if_neg e3]
      cases e : [11, 12, 13, 14, 15, 16, 17, 18, 19, 20, 21, 22, 23, 24, 25, 26, 27, 28, 29, 30, 31, 32, 33, 34, 35, 36, 37, 38, 39, 40, 41, 42, 43, 44, 3].contains d with
      | true => simp [hs, hd']
      | false =>
        rw [h.other d e]
        simp [hd']

set_option maxHeartbeats 4000000 in
set_option maxRecDepth 100000 in
theorem new5 (mr number : Int) (eb : Nat) (w : World) :
    Calls Ybad.prog 5 #[.agg (cfg mr number eb)] w fun e w' => ∃ nb, e = .returned (.pointer (some ⟨nb, 0, none⟩)) ∧ w.heap.size < nb ∧ NodeAt mr number eb nb w' ∧ Below w.heap.size w w' := by
  have hcfg : ∀ w1, Below (w.alloc (.cells (cfg mr number eb) 40)).heap.size (w.alloc (.cells (cfg mr number eb) 40)) w1 → ∀ i v, (cfg mr number eb)[i]? = some v → w1.cell? ⟨w.heap.size, i, none⟩ = some v := by
    intro w1 hb i v hv
    rw [hb.cell (p := ⟨w.heap.size, i, none⟩) (by simp), cell_of_row _ _ _ _ 40 (0, 0) (heap_alloc_new w _)]
    exact hv
  go_enter Ybad.func5, Ybad.ntmps5
  go_wp2_with fail
  refine wp_region_rows (by kernel_rfl) [11, 12, 13, 14, 15, 16, 17, 18, 19, 20, 21, 22, 23, 24, 25, 26, 27, 28, 29, 30, 31, 32, 33, 34, 35, 36, 37, 38, 39, 40, 41, 42, 43, 44, 3] (PhiN mr number eb w.heap.size) (PhiN_mono mr number eb w.heap.size) (by kernel_rfl) ?hend ⟨?_, ?_, ?_, ?_, ?_, ?_, ?_, ?_, ?_, ?_, ?_, ?_, ?_, ?_, ?_, ?_, ?_, ?_, ?_, ?_, ?_, ?_, ?_, ?_, ?_, ?_, ?_, ?_, ?_, ?_, ?_, ?_, ?_, ?_, ?_, trivial⟩
  case hend =>
    intro a w1 hr hb hall
    obtain ⟨v, hv, nb, rfl, hlt, hN⟩ := hall 34 (by simp)
    replace hv : a.tmps[3]? = some (.pointer (some ⟨nb, 0, none⟩)) := hv
    obtain ⟨us, rfl⟩ := frame5 mr number eb nb w a hr hv
    have c1 : w1.cell? ⟨w.heap.size, 1, none⟩ = some (.slice none 0 0) := hcfg w1 hb 1 _ rfl
    have c2 : w1.cell? ⟨w.heap.size, 2, none⟩ = some (.slice none 0 0) := hcfg w1 hb 2 _ rfl
    have HB : Hid _ := hb
    have HN : Hid _ := hN
    clear hr hv hall hcfg hb hN
    go_wp2
    go_loop [48] (fun i => i = .int .i64 0) (fun _ => 0)
    case atStart => rfl
    case round =>
      subst hrel
      go_wp2
      go_loop [92] (fun i => i = .int .i64 0) (fun _ => 0)
      case atStart => rfl
      case round =>
        subst hrel
        go_wp2
        go_ret
        exact ⟨nb, rfl, hlt, HN.out, ((Below.refl _ _).alloc (Nat.le_refl _) _).trans (HB.out.mono (by simp))⟩
  · exact fun a w1 hr hb hd => obl_value _ w1 (g_field 0 0 rfl (hr.other 1 rfl) (by decide)) rfl (Below.refl _ _)
  · exact fun a w1 hr hb hd => by
      obtain ⟨v, hv, rfl⟩ := hd ⟨0, .data⟩ (by simp) rfl
      exact obl_value (.string ⟨#[115, 101, 108, 102]⟩) w1 (g_load 9 rfl hv (hcfg w1 hb 0 _ rfl) (by decide)) rfl (Below.refl _ _)
  · exact fun a w1 hr hb hd => obl_value _ w1 (g_field 12 17 rfl (hr.other 1 rfl) (by decide)) rfl (Below.refl _ _)
  · exact fun a w1 hr hb hd => by
      obtain ⟨v, hv, rfl⟩ := hd ⟨2, .data⟩ (by simp) rfl
      exact obl_value (.int .i32 number) w1 (g_load 21 rfl hv (hcfg w1 hb 17 _ rfl) (by decide)) rfl (Below.refl _ _)
  · exact fun a w1 hr hb hd => obl_value _ w1 (g_field 4 4 rfl (hr.other 1 rfl) (by decide)) rfl (Below.refl _ _)
  · exact fun a w1 hr hb hd => by
      obtain ⟨v, hv, rfl⟩ := hd ⟨4, .data⟩ (by simp) rfl
      exact obl_value (.bool false) w1 (g_load 4 rfl hv (hcfg w1 hb 4 _ rfl) (by decide)) rfl (Below.refl _ _)
  · exact fun a w1 hr hb hd => obl_value _ w1 (g_field 5 5 rfl (hr.other 1 rfl) (by decide)) rfl (Below.refl _ _)
  · exact fun a w1 hr hb hd => by
      obtain ⟨v, hv, rfl⟩ := hd ⟨6, .data⟩ (by simp) rfl
      exact obl_value (.int .i64 0) w1 (g_load 3 rfl hv (hcfg w1 hb 5 _ rfl) (by decide)) rfl (Below.refl _ _)
  · exact fun a w1 hr hb hd => obl_value _ w1 (g_field 6 6 rfl (hr.other 1 rfl) (by decide)) rfl (Below.refl _ _)
  · exact fun a w1 hr hb hd => by
      obtain ⟨v, hv, rfl⟩ := hd ⟨8, .data⟩ (by simp) rfl
      refine wp_load_mid 33 _ rfl w.heap.size 6 (ev hv) (pol mr).toList _ (fun k v hk => ?_) Ybad.underlying33 rfl (by kernel_rfl) ⟨_, rfl, rfl, Below.refl _ _⟩
      have hk6 : k < 6 := (List.getElem?_eq_some_iff.1 hk).1
      refine hcfg w1 hb (6 + k) v ?_
      rw [← hk]
      have : k = 0 ∨ k = 1 ∨ k = 2 ∨ k = 3 ∨ k = 4 ∨ k = 5 := by omega
      rcases this with rfl | rfl | rfl | rfl | rfl | rfl <;> rfl
  · exact fun a w1 hr hb hd => obl_value _ w1 (g_field 9 14 rfl (hr.other 1 rfl) (by decide)) rfl (Below.refl _ _)
  · exact fun a w1 hr hb hd => by
      obtain ⟨v, hv, rfl⟩ := hd ⟨10, .data⟩ (by simp) rfl
      exact obl_value (.pointer none) w1 (g_load 35 rfl hv (hcfg w1 hb 14 _ rfl) (by decide)) rfl (Below.refl _ _)
  · exact fun a w1 hr hb hd => obl_value _ w1 (g_field 10 15 rfl (hr.other 1 rfl) (by decide)) rfl (Below.refl _ _)
  · exact fun a w1 hr hb hd => by
      obtain ⟨v, hv, rfl⟩ := hd ⟨12, .data⟩ (by simp) rfl
      exact obl_value (.iface 22 (.pointer (some ⟨eb, 0, none⟩))) w1 (g_load 37 rfl hv (hcfg w1 hb 15 _ rfl) (by decide)) rfl (Below.refl _ _)
  · exact fun a w1 hr hb hd => obl_value _ _ (g_map _ rfl) ⟨_, rfl⟩ ((Below.refl _ _).alloc (Nat.le_refl _) _)
  · exact fun a w1 hr hb hd => obl_value _ _ (g_map _ rfl) ⟨_, rfl⟩ ((Below.refl _ _).alloc (Nat.le_refl _) _)
  · exact fun a w1 hr hb hd => obl_value _ w1 (g_field 2 2 rfl (hr.other 1 rfl) (by decide)) rfl (Below.refl _ _)
  · exact fun a w1 hr hb hd => by
      obtain ⟨v, hv, rfl⟩ := hd ⟨16, .data⟩ (by simp) rfl
      exact obl_value (.slice none 0 0) w1 (g_load 23 rfl hv (hcfg w1 hb 2 _ rfl) (by decide)) rfl (Below.refl _ _)
  · exact fun a w1 hr hb hd => by
      obtain ⟨v, hv, rfl⟩ := hd ⟨17, .data⟩ (by simp) rfl
      exact obl_value _ w1 (g_len rfl hv) rfl (Below.refl _ _)
  · exact fun a w1 hr hb hd => obl_value _ w1 (g_field 7 12 rfl (hr.other 1 rfl) (by decide)) rfl (Below.refl _ _)
  · exact fun a w1 hr hb hd => by
      obtain ⟨v, hv, rfl⟩ := hd ⟨19, .data⟩ (by simp) rfl
      exact obl_value (.slice none 0 0) w1 (g_load 34 rfl hv (hcfg w1 hb 12 _ rfl) (by decide)) rfl (Below.refl _ _)
  · exact fun a w1 hr hb hd => obl_value _ w1 (g_field 8 13 rfl (hr.other 1 rfl) (by decide)) rfl (Below.refl _ _)
  · exact fun a w1 hr hb hd => by
      obtain ⟨v, hv, rfl⟩ := hd ⟨21, .data⟩ (by simp) rfl
      exact obl_value (.bool false) w1 (g_load 4 rfl hv (hcfg w1 hb 13 _ rfl) (by decide)) rfl (Below.refl _ _)
  · exact fun a w1 hr hb hd => obl_value _ _ (g_map _ rfl) ⟨_, rfl⟩ ((Below.refl _ _).alloc (Nat.le_refl _) _)
  · exact fun a w1 hr hb hd => obl_value _ _ (g_map _ rfl) ⟨_, rfl⟩ ((Below.refl _ _).alloc (Nat.le_refl _) _)
  · exact fun a w1 hr hb hd => obl_value _ _ (g_map _ rfl) ⟨_, rfl⟩ ((Below.refl _ _).alloc (Nat.le_refl _) _)
  · exact fun a w1 hr hb hd => obl_value _ _ (g_map _ rfl) ⟨_, rfl⟩ ((Below.refl _ _).alloc (Nat.le_refl _) _)
  · exact fun a w1 hr hb hd => obl_value _ _ (g_map _ rfl) ⟨_, rfl⟩ ((Below.refl _ _).alloc (Nat.le_refl _) _)
  · exact fun a w1 hr hb hd => obl_value _ w1 (g_field 11 16 rfl (hr.other 1 rfl) (by decide)) rfl (Below.refl _ _)
  · exact fun a w1 hr hb hd => by
      obtain ⟨v, hv, rfl⟩ := hd ⟨28, .data⟩ (by simp) rfl
      exact obl_value (.nilFunc) w1 (g_load 38 rfl hv (hcfg w1 hb 16 _ rfl) (by decide)) rfl (Below.refl _ _)
  · exact fun a w1 hr hb hd => by
      obtain ⟨arr, hmk⟩ := made103 w1
      exact obl_value _ _ (g_make rfl hmk) ⟨_, rfl⟩ ((Below.refl _ _).alloc (Nat.le_refl _) _)
  · exact fun a w1 hr hb hd => obl_call 8 #[] (g_call rfl) (disc8 w1)
  · exact fun a w1 hr hb hd => by
      obtain ⟨v1, hv1, rfl⟩ := hd ⟨1, .data⟩ (by simp) rfl
      obtain ⟨v3, hv3, rfl⟩ := hd ⟨3, .data⟩ (by simp) rfl
      obtain ⟨v5, hv5, rfl⟩ := hd ⟨5, .data⟩ (by simp) rfl
      obtain ⟨v7, hv7, rfl⟩ := hd ⟨7, .data⟩ (by simp) rfl
      obtain ⟨v9, hv9, rfl⟩ := hd ⟨9, .data⟩ (by simp) rfl
      obtain ⟨v11, hv11, rfl⟩ := hd ⟨11, .data⟩ (by simp) rfl
      obtain ⟨v13, hv13, rfl⟩ := hd ⟨13, .data⟩ (by simp) rfl
      obtain ⟨v14, hv14, r1, rfl⟩ := hd ⟨14, .data⟩ (by simp) rfl
      obtain ⟨v15, hv15, r2, rfl⟩ := hd ⟨15, .data⟩ (by simp) rfl
      obtain ⟨v18, hv18, rfl⟩ := hd ⟨18, .data⟩ (by simp) rfl
      obtain ⟨v20, hv20, rfl⟩ := hd ⟨20, .data⟩ (by simp) rfl
      obtain ⟨v22, hv22, rfl⟩ := hd ⟨22, .data⟩ (by simp) rfl
      obtain ⟨v23, hv23, r3, rfl⟩ := hd ⟨23, .data⟩ (by simp) rfl
      obtain ⟨v24, hv24, r4, rfl⟩ := hd ⟨24, .data⟩ (by simp) rfl
      obtain ⟨v25, hv25, r5, rfl⟩ := hd ⟨25, .data⟩ (by simp) rfl
      obtain ⟨v26, hv26, r6, rfl⟩ := hd ⟨26, .data⟩ (by simp) rfl
      obtain ⟨v27, hv27, r7, rfl⟩ := hd ⟨27, .data⟩ (by simp) rfl
      obtain ⟨v29, hv29, rfl⟩ := hd ⟨29, .data⟩ (by simp) rfl
      obtain ⟨v30, hv30, s1, rfl⟩ := hd ⟨30, .data⟩ (by simp) rfl
      obtain ⟨v31, hv31, d1, d2, d3, rfl⟩ := hd ⟨31, .data⟩ (by simp) rfl
      refine obl_value _ w1 (g_build 121 rfl _ ?_ (built121 number mr eb r1 r2 r3 r4 r5 r6 r7 s1 d1 d2 d3 w1)) ⟨_, rfl, node_n121 number mr eb r1 r2 r3 r4 r5 r6 r7 s1 d1 d2 d3⟩ (Below.refl _ _)
      simp only [List.map_toArray, List.map_cons, List.map_nil, ev (s := 12) hv1, ev (s := 14) hv3, ev (s := 16) hv5, ev (s := 18) hv7, ev (s := 20) hv9, ev (s := 22) hv11, ev (s := 24) hv13, ev (s := 25) hv14, ev (s := 26) hv15, ev (s := 29) hv18, ev (s := 31) hv20, ev (s := 33) hv22, ev (s := 34) hv23, ev (s := 35) hv24, ev (s := 36) hv25, ev (s := 37) hv26, ev (s := 38) hv27, ev (s := 40) hv29, ev (s := 41) hv30, ev (s := 42) hv31]
  · exact fun a w1 hr hb hd => by
      obtain ⟨v, hv, arr, rfl, hN⟩ := hd ⟨32, .data⟩ (by simp) rfl
      have hs := hb.size
      simp at hs
      exact obl_value _ _ (g_box 121 rfl hv) ⟨_, rfl, by omega, NodeAt.new w1 hN⟩ ((Below.refl _ _).alloc (Nat.le_refl _) _)
  · exact fun a w1 hr hb hd => by
      obtain ⟨v, hv, nb, rfl, hlt, hN⟩ := hd ⟨33, .data⟩ (by simp) rfl
      exact obl_value _ _ (g_assign rfl hv) ⟨_, rfl, hlt, hN⟩ (Below.refl _ _)
end Go.Proofs.YbulkbkkwDoor
