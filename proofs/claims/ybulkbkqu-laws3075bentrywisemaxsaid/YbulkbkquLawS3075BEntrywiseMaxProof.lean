/-
  'Rows.LawS3075BEntrywiseMaxSaid', proved. The frame behind the walk is the seat's own shell, written by program; the walk's end says 'Kept' in the place of 'Below'.
-/
import Derived.Test.YbulkbkquRows
import Derived.WalkKit
import Derived.ProofKit
import Derived.OpenShut
import Derived.ShutString
import Derived.ChangeOld
import Derived.Below
import Derived.Test.YbulkbkquMerge
namespace Go.Proofs.Ybulkbkqu.lawS3075BEntrywiseMax
open Go.ChangeShapes Go.WideShapes Go.ChangeAt Go.RowKit
open Go.ChangeMaps (open_string shut_string)
set_option linter.unusedVariables false

theorem own : ownKnob Yba.prog.godebug = none := by kernel_rfl
theorem laidOut : laidOutB Yba.prog = true := by kernel_rfl

/-- WHAT THE WALK IS TOLD OF A SLICE OF INTEGERS THAT CAME IN: it is nil; or it leads to a row of 'cap' cells, the numbers 'zs' (the first 'len' are its elements, the rest its spare room), each fitting its kind. -/
def IsRow (k : IntKind) (w : World) (a : Option Addr) (len cap : Nat) (zs : List Int) : Prop :=
  (a = none ∧ len = 0 ∧ cap = 0 ∧ zs = []) ∨
  ∃ x, a = some x ∧ len ≤ cap ∧ cap ≤ maxLen ∧ zs.length = cap ∧ (∀ i, i < zs.length → w.cell? (x.add i) = some (.int k (zs.getD i 0))) ∧ ∀ n ∈ zs, (Lit.int k n).wf = true

/-! ### STEP 1: THE WALK: the Go text returns true, and writes nothing that was there. -/

/-- What a clone's source must show. -/
def Src (w : World) (ao : Option Addr) (n : Nat) (X : Nat → Int) : Prop :=
  (ao = none ∧ n = 0) ∨ ∃ x, ao = some x ∧ (n = 0 ∨ x.block < w.heap.size ∧ x.spot = none) ∧ ∀ i, i < n → w.cell? (x.add i) = some (.int .u64 (X i))

theorem Src.reads {w : World} {ao : Option Addr} {n : Nat} {X : Nat → Int} (h : Src w ao n X) : Reads w ao n X := by
  rcases h with ⟨_, h⟩ | ⟨x, rfl, h1, h2⟩
  · exact .inl h
  · rcases h1 with h | ⟨hb, hs⟩
    · exact .inl h
    · obtain ⟨g, o, spot⟩ := x
      simp only at hs
      subst hs
      exact .inr ⟨g, o, rfl, hb, fun i hi => by rw [← Addr.add_lit]; exact h2 i hi⟩

theorem Src.kept {w w' : World} {ao : Option Addr} {n : Nat} {X : Nat → Int} (h : Src w ao n X) (hk : Kept w.heap.size w w') : Src w' ao n X := by
  rcases h with h | ⟨x, rfl, h1, h2⟩
  · exact .inl h
  · refine .inr ⟨x, rfl, ?_, fun i hi => ?_⟩
    · rcases h1 with h | ⟨hb, hs⟩
      · exact .inl h
      · exact .inr ⟨Nat.lt_of_lt_of_le hb hk.size, hs⟩
    · exact (hk.cell (World.block_lt_of_cell? w _ (h2 i hi))).trans (h2 i hi)

theorem src_of_row {w : World} {a : Option Addr} {len cap : Nat} {zs : List Int} (h : IsRow .u64 w a len cap zs) : Src w a len (fun i => zs.getD i 0) ∧ ∀ i, 0 ≤ zs.getD i 0 := by
  rcases h with ⟨rfl, rfl, rfl, rfl⟩ | ⟨x, rfl, h1, h2, h3, h4, h5⟩
  · exact ⟨.inl ⟨rfl, rfl⟩, fun i => by simp⟩
  · refine ⟨.inr ⟨x, rfl, ?_, fun i hi => h4 i (by omega)⟩, fun i => ?_⟩
    · by_cases h0 : len = 0
      · exact .inl h0
      · have c0 := h4 0 (by omega)
        refine .inr ⟨?_, by simpa [Addr.add] using World.cell?_spot c0⟩
        have := World.block_lt_of_cell? w _ c0
        simpa [Addr.add] using this
    · by_cases hi : i < zs.length
      · have := bounds_u64 (h5 (zs.getD i 0) (by rw [List.getD_eq_getElem?_getD, List.getElem?_eq_getElem hi]; simp))
        omega
      · rw [List.getD_eq_getElem?_getD, List.getElem?_eq_none (by omega)]
        simp

/-- Behind a clone. -/
def Cloned (n : Nat) (X : Nat → Int) (w w' : World) (ao : Option Addr) : Prop :=
  Own w.heap.size w' ao n X ∧ Kept w.heap.size w w' ∧ (ao = none ∧ n = 0 ∨ ao = some ⟨w.heap.size, 0, none⟩ ∧ w.heap.size < w'.heap.size)

theorem clone5 (ao : Option Addr) (n c : Nat) (X : Nat → Int) (w : World) (hn : n ≤ 1024) (h : Src w ao n X) :
    Calls Yba.prog 5 #[.slice ao n c] w fun e w' => ∃ ao', e = .returned (.slice ao' n n) ∧ Cloned n X w w' ao' := by
  rcases h with ⟨rfl, rfl⟩ | ⟨x, rfl, h1, h2⟩
  · refine (clone_nil 0 c w).mono ?_
    rintro e w' ⟨rfl, rfl⟩
    exact ⟨none, rfl, .inl rfl, Kept.refl _ _, .inl ⟨rfl, rfl⟩⟩
  · refine (clone_some x n c X w hn h2 (by
      rcases h1 with h | h
      · exact .inl h
      · exact .inr h.1)).mono ?_
    rintro e w' ⟨rfl, ho, hk, hs⟩
    exact ⟨_, rfl, ho, hk, .inr ⟨rfl, hs⟩⟩

theorem mid (n m : Nat) (X Y : Nat → Int) (w w1 w3 : World) (ao bo : Option Addr) (hn : n ≤ 1024) (hm : m ≤ 1024) (h1 : Cloned n X w w1 ao) (h2 : Cloned m Y (w1.alloc (.cells #[.slice ao n n] 23)) w3 bo) :
    Calls Yba.prog 6 #[.pointer (some ⟨w1.heap.size, 0, none⟩), .slice bo m m] w3 (fun e w' => e = .returned (.tuple #[]) ∧ Merged w.heap.size w1.heap.size (max n m) (mxv n X m Y) bo m Y w3 w') ∧ Kept w.heap.size w w3 := by
  obtain ⟨o1, k1, c1⟩ := h1
  obtain ⟨o2, k2, c2⟩ := h2
  have s1 := k1.size
  have s2 := k2.size
  simp only [World.size_alloc] at s2 k2 o2 c2
  have ka : Kept w1.heap.size w1 (w1.alloc (.cells #[.slice ao n n] 23)) := Kept.of ((Below.refl _ _).alloc (Nat.le_refl _) _)
  have k3 : Kept w1.heap.size w1 w3 := ka.trans (k2.mono (by omega))
  have hp : w3.cell? ⟨w1.heap.size, 0, none⟩ = some (.slice ao n n) := (k2.cell (p := ⟨w1.heap.size, 0, none⟩) (by show w1.heap.size < _; omega)).trans (by simp)
  have hf : w3.frozen? ⟨w1.heap.size, 0, none⟩ = false := (k2.frozen (p := ⟨w1.heap.size, 0, none⟩) (by show w1.heap.size < _; omega)).trans (new_frozen w1 _ 23 0)
  have ho : Own w.heap.size w3 ao n X := by
    rcases o1 with h | ⟨g, rfl, hB, hg, hc, hz⟩
    · exact .inl h
    · exact .inr ⟨g, rfl, hB, Nat.lt_of_lt_of_le hg k3.size, fun i hi => (k3.cell (p := ⟨g, i, none⟩) hg).trans (hc i hi), fun i hi => (k3.frozen (p := ⟨g, i, none⟩) hg).trans (hz i hi)⟩
  have hne : ∀ g, ao = some ⟨g, 0, none⟩ → g ≠ w1.heap.size ∧ g < w1.heap.size := by
    intro g hg
    rcases c1 with ⟨h, _⟩ | ⟨h, hs⟩
    · rw [h] at hg; cases hg
    · rw [h] at hg
      simp at hg
      omega
  refine ⟨?_, k1.trans (k3.mono s1)⟩
  rcases c2 with ⟨rfl, rfl⟩ | ⟨rfl, hs⟩
  · exact merge6 w.heap.size w1.heap.size ao none n 0 0 X Y w3 hm hn s1 (by omega) hp hf ho w3.heap.size 0 (by omega) (by omega) (fun g hg => by have := hne g hg; omega) (.inl rfl)
  · refine merge6 w.heap.size w1.heap.size ao _ n m m X Y w3 hm hn s1 (by omega) hp hf ho (w1.heap.size + 1) 0 (by omega) (by omega) (fun g hg => by have := hne g hg; omega) ?_
    rcases o2 with h | ⟨g, hg, _, _, hc, _⟩
    · exact .inl h
    · simp at hg
      subst hg
      exact .inr ⟨rfl, fun i hi => by rw [Nat.zero_add]; exact hc i hi⟩

theorem atv_nonneg (n : Nat) (X : Nat → Int) (k : Nat) (h : ∀ i, 0 ≤ X i) : 0 ≤ atv n X k := by
  unfold atv
  split
  · exact h k
  · omega
theorem mxv_hi (n m : Nat) (X Y : Nat → Int) (k : Nat) (hX : ∀ i, 0 ≤ X i) (h : atv n X k < atv m Y k) : mxv n X m Y k = atv m Y k := by
  by_cases hk : k < m
  · rw [atv_in (n := m) (X := Y) hk] at h ⊢
    simp [mxv, hk, h]
  · rw [atv_out (n := m) (X := Y) (by omega)] at h
    have := atv_nonneg n X k hX
    omega
theorem mxv_lo (n m : Nat) (X Y : Nat → Int) (k : Nat) (h : ¬ atv n X k < atv m Y k) : mxv n X m Y k = atv n X k := by
  by_cases hk : k < m
  · rw [atv_in (n := m) (X := Y) hk] at h
    simp [mxv, h]
  · simp [mxv, hk]
theorem ne_self (x : Int) : (x != x) = false := by simp

set_option maxHeartbeats 1600000 in
set_option maxRecDepth 100000 in
theorem walk_long (a0 : Option Addr) (len0 cap0 : Nat) (a1 : Option Addr) (len1 cap1 : Nat) (w : World) (h0 : len0 ≤ maxLen) (h1 : len1 ≤ maxLen) (h : 1024 < len0 ∨ 1024 < len1) :
    Calls Yba.prog 3 #[.slice a0 len0 cap0, .slice a1 len1 cap1] w fun e w' => e = .returned (.bool true) ∧ Kept w.heap.size w w' := by
  by_cases h2 : 1024 < len0
  · have h2' : (1024 : Int) < (len0 : Int) := by omega
    clear h
    go_enter Yba.func3, Yba.ntmps3
    go_wp2
    go_ret
    exact ⟨rfl, Kept.refl _ _⟩
  · have h2' : ¬ (1024 : Int) < (len0 : Int) := by omega
    have h3' : (1024 : Int) < (len1 : Int) := by omega
    clear h
    go_enter Yba.func3, Yba.ntmps3
    go_wp2
    go_ret
    exact ⟨rfl, Kept.refl _ _⟩

set_option maxHeartbeats 4000000 in
set_option maxRecDepth 100000 in
theorem walk_lt (a0 : Option Addr) (n c0 : Nat) (a1 : Option Addr) (m c1 : Nat) (X Y : Nat → Int) (w : World) (hn : n ≤ 1024) (hm : m ≤ 1024) (hX : ∀ i, 0 ≤ X i) (hY : ∀ i, 0 ≤ Y i) (h0 : Src w a0 n X) (h1 : Src w a1 m Y) (hnm : n < m) :
    Calls Yba.prog 3 #[.slice a0 n c0, .slice a1 m c1] w fun e w' => e = .returned (.bool true) ∧ Kept w.heap.size w w' := by
  have e1 : ¬ (1024 : Int) < (n : Int) := by omega
  have e2 : ¬ (1024 : Int) < (m : Int) := by omega
  have hC1 := clone5 a0 n c0 X w hn h0
  have H1 : Hid _ := h1
  have H0 : Hid _ := h0
  have HX : Hid _ := hX
  have HY : Hid _ := hY
  clear h0 h1 hX hY
  go_enter Yba.func3, Yba.ntmps3
  go_wp2_with (go_at_call 5; refine hC1.mono ?_; clear hC1; rintro e w1 ⟨ao, rfl, hcl⟩)
  have hC2 := clone5 a1 m c1 Y (w1.alloc (.cells #[.slice ao n n] 23)) hm (Src.kept (Src.kept H1.out hcl.2.1) (Kept.of ((Below.refl _ _).alloc (Nat.le_refl _) _)))
  have HC : Hid _ := hcl
  clear hcl
  go_wp2_with (go_at_call 5; refine hC2.mono ?_; clear hC2; rintro e w3 ⟨bo, rfl, hcl2⟩)
  obtain ⟨hM, k3⟩ := mid n m X Y w w1 w3 ao bo hn hm HC.out hcl2
  clear hcl2
  have mx : max n m = m := Nat.max_eq_right (by omega)
  rw [mx] at hM
  clear mx
  go_wp2_with (go_at_call 6; refine hM.mono ?_; clear hM; rintro e w4 ⟨rfl, ao1, cA, hcp, hra, hrb, hk4⟩; have HRA : Hid (Reads w4 ao1 m (mxv n X m Y)) := hra; have HRB : Hid (Reads w4 bo m Y) := hrb; have KW : Hid (Kept w.heap.size w w4) := k3.trans hk4; clear hra hrb hk4 k3 HC)
  have r0 : Reads w4 a0 n X := (Src.reads H0.out).kept KW.out
  have r1 : Reads w4 a1 m Y := (Src.reads H1.out).kept KW.out
  have R0 : Hid (Reads w4 a0 n X) := r0
  have R1 : Hid (Reads w4 a1 m Y) := r1
  clear r0 r1 H0 H1
  go_loop [8] (fun i => ∃ k : Nat, k ≤ m ∧ i = .int .i64 k) (fun i => m - (intOf i).toNat)
  case atStart => exact ⟨0, Nat.zero_le _, rfl⟩
  case round =>
    obtain ⟨k, hk, rfl⟩ := hrel
    by_cases hlt : k < m
    · have hA0 := at7 a0 n c0 X k w4 hn (by omega) R0.out
      have hA1 := at7 a1 m c1 Y k w4 hm (by omega) R1.out
      obtain ⟨g, o, rfl, ha⟩ : ∃ g o, ao1 = some ⟨g, o, none⟩ ∧ w4.cell? ⟨g, o + k, none⟩ = some (.int .u64 (mxv n X m Y k)) := by
        rcases HRA.out with h | ⟨g, o, h, _, hx⟩
        · omega
        · exact ⟨g, o, h, hx k hlt⟩
      by_cases hgt : atv n X k < atv m Y k
      · have hz : mxv n X m Y k = atv m Y k := mxv_hi n m X Y k HX.out hgt
        rw [hz] at ha
        have hne := ne_self (atv m Y k)
        clear hz
        go_wp2_with (first | (go_at_call 7; refine hA0.mono ?_; clear hA0; rintro e w5 ⟨rfl, rfl⟩) | (go_at_call 7; refine hA1.mono ?_; clear hA1; rintro e w5 ⟨rfl, rfl⟩))
        go_round
        case rel => exact ⟨k + 1, by omega, by go_num⟩
        case measure => simp [intOf]; omega
      · have hz : mxv n X m Y k = atv n X k := mxv_lo n m X Y k hgt
        rw [hz] at ha
        have hne := ne_self (atv n X k)
        clear hz
        go_wp2_with (first | (go_at_call 7; refine hA0.mono ?_; clear hA0; rintro e w5 ⟨rfl, rfl⟩) | (go_at_call 7; refine hA1.mono ?_; clear hA1; rintro e w5 ⟨rfl, rfl⟩))
        go_round
        case rel => exact ⟨k + 1, by omega, by go_num⟩
        case measure => simp [intOf]; omega
    · go_wp2
      go_loopw [11] (fun i wr => ∃ j q : Nat, j ≤ m ∧ i = .int .i64 j ∧ wr = w4.drewN q) (fun i _ => m - (intOf i).toNat)
      case atStart => exact ⟨0, 0, Nat.zero_le _, rfl, rfl⟩
      case round =>
        obtain ⟨j, q, hj, rfl, rfl⟩ := hrel
        by_cases hjl : j < m
        · obtain ⟨g, o, rfl, hy⟩ : ∃ g o, a1 = some ⟨g, o, none⟩ ∧ w4.cell? ⟨g, o + j, none⟩ = some (.int .u64 (Y j)) := by
            rcases R1.out with h | ⟨g, o, h, _, hx⟩
            · omega
            · exact ⟨g, o, h, hx j hjl⟩
          obtain ⟨g', o', rfl, hb⟩ : ∃ g o, bo = some ⟨g, o, none⟩ ∧ w4.cell? ⟨g, o + j, none⟩ = some (.int .u64 (Y j)) := by
            rcases HRB.out with h | ⟨g, o, h, _, hx⟩
            · omega
            · exact ⟨g, o, h, hx j hjl⟩
          have hne := ne_self (Y j)
          clear hcp
          go_wp2
          go_quiet (fail)
          go_wp2
          go_roundw
          case rel => exact ⟨j + 1, q + nq, by omega, by go_num, rfl⟩
          case measure => simp [intOf]; omega
        · go_wp2
          go_ret
          exact ⟨rfl, KW.out.trans (Kept.drewN _ _ _)⟩

set_option maxHeartbeats 4000000 in
set_option maxRecDepth 100000 in
theorem walk_ge (a0 : Option Addr) (n c0 : Nat) (a1 : Option Addr) (m c1 : Nat) (X Y : Nat → Int) (w : World) (hn : n ≤ 1024) (hm : m ≤ 1024) (hX : ∀ i, 0 ≤ X i) (hY : ∀ i, 0 ≤ Y i) (h0 : Src w a0 n X) (h1 : Src w a1 m Y) (hnm : ¬ n < m) :
    Calls Yba.prog 3 #[.slice a0 n c0, .slice a1 m c1] w fun e w' => e = .returned (.bool true) ∧ Kept w.heap.size w w' := by
  have e1 : ¬ (1024 : Int) < (n : Int) := by omega
  have e2 : ¬ (1024 : Int) < (m : Int) := by omega
  have hC1 := clone5 a0 n c0 X w hn h0
  have H1 : Hid _ := h1
  have H0 : Hid _ := h0
  have HX : Hid _ := hX
  have HY : Hid _ := hY
  clear h0 h1 hX hY
  go_enter Yba.func3, Yba.ntmps3
  go_wp2_with (go_at_call 5; refine hC1.mono ?_; clear hC1; rintro e w1 ⟨ao, rfl, hcl⟩)
  have hC2 := clone5 a1 m c1 Y (w1.alloc (.cells #[.slice ao n n] 23)) hm (Src.kept (Src.kept H1.out hcl.2.1) (Kept.of ((Below.refl _ _).alloc (Nat.le_refl _) _)))
  have HC : Hid _ := hcl
  clear hcl
  go_wp2_with (go_at_call 5; refine hC2.mono ?_; clear hC2; rintro e w3 ⟨bo, rfl, hcl2⟩)
  obtain ⟨hM, k3⟩ := mid n m X Y w w1 w3 ao bo hn hm HC.out hcl2
  clear hcl2
  have mx : max n m = n := Nat.max_eq_left (by omega)
  rw [mx] at hM
  clear mx
  go_wp2_with (go_at_call 6; refine hM.mono ?_; clear hM; rintro e w4 ⟨rfl, ao1, cA, hcp, hra, hrb, hk4⟩; have HRA : Hid (Reads w4 ao1 n (mxv n X m Y)) := hra; have HRB : Hid (Reads w4 bo m Y) := hrb; have KW : Hid (Kept w.heap.size w w4) := k3.trans hk4; clear hra hrb hk4 k3 HC)
  have r0 : Reads w4 a0 n X := (Src.reads H0.out).kept KW.out
  have r1 : Reads w4 a1 m Y := (Src.reads H1.out).kept KW.out
  have R0 : Hid (Reads w4 a0 n X) := r0
  have R1 : Hid (Reads w4 a1 m Y) := r1
  clear r0 r1 H0 H1
  go_loop [8] (fun i => ∃ k : Nat, k ≤ n ∧ i = .int .i64 k) (fun i => n - (intOf i).toNat)
  case atStart => exact ⟨0, Nat.zero_le _, rfl⟩
  case round =>
    obtain ⟨k, hk, rfl⟩ := hrel
    by_cases hlt : k < n
    · have hA0 := at7 a0 n c0 X k w4 hn (by omega) R0.out
      have hA1 := at7 a1 m c1 Y k w4 hm (by omega) R1.out
      obtain ⟨g, o, rfl, ha⟩ : ∃ g o, ao1 = some ⟨g, o, none⟩ ∧ w4.cell? ⟨g, o + k, none⟩ = some (.int .u64 (mxv n X m Y k)) := by
        rcases HRA.out with h | ⟨g, o, h, _, hx⟩
        · omega
        · exact ⟨g, o, h, hx k hlt⟩
      by_cases hgt : atv n X k < atv m Y k
      · have hz : mxv n X m Y k = atv m Y k := mxv_hi n m X Y k HX.out hgt
        rw [hz] at ha
        have hne := ne_self (atv m Y k)
        clear hz
        go_wp2_with (first | (go_at_call 7; refine hA0.mono ?_; clear hA0; rintro e w5 ⟨rfl, rfl⟩) | (go_at_call 7; refine hA1.mono ?_; clear hA1; rintro e w5 ⟨rfl, rfl⟩))
        go_round
        case rel => exact ⟨k + 1, by omega, by go_num⟩
        case measure => simp [intOf]; omega
      · have hz : mxv n X m Y k = atv n X k := mxv_lo n m X Y k hgt
        rw [hz] at ha
        have hne := ne_self (atv n X k)
        clear hz
        go_wp2_with (first | (go_at_call 7; refine hA0.mono ?_; clear hA0; rintro e w5 ⟨rfl, rfl⟩) | (go_at_call 7; refine hA1.mono ?_; clear hA1; rintro e w5 ⟨rfl, rfl⟩))
        go_round
        case rel => exact ⟨k + 1, by omega, by go_num⟩
        case measure => simp [intOf]; omega
    · go_wp2
      go_loopw [11] (fun i wr => ∃ j q : Nat, j ≤ m ∧ i = .int .i64 j ∧ wr = w4.drewN q) (fun i _ => m - (intOf i).toNat)
      case atStart => exact ⟨0, 0, Nat.zero_le _, rfl, rfl⟩
      case round =>
        obtain ⟨j, q, hj, rfl, rfl⟩ := hrel
        by_cases hjl : j < m
        · obtain ⟨g, o, rfl, hy⟩ : ∃ g o, a1 = some ⟨g, o, none⟩ ∧ w4.cell? ⟨g, o + j, none⟩ = some (.int .u64 (Y j)) := by
            rcases R1.out with h | ⟨g, o, h, _, hx⟩
            · omega
            · exact ⟨g, o, h, hx j hjl⟩
          obtain ⟨g', o', rfl, hb⟩ : ∃ g o, bo = some ⟨g, o, none⟩ ∧ w4.cell? ⟨g, o + j, none⟩ = some (.int .u64 (Y j)) := by
            rcases HRB.out with h | ⟨g, o, h, _, hx⟩
            · omega
            · exact ⟨g, o, h, hx j hjl⟩
          have hne := ne_self (Y j)
          clear hcp
          go_wp2
          go_quiet (fail)
          go_wp2
          go_roundw
          case rel => exact ⟨j + 1, q + nq, by omega, by go_num, rfl⟩
          case measure => simp [intOf]; omega
        · go_wp2
          go_ret
          exact ⟨rfl, KW.out.trans (Kept.drewN _ _ _)⟩

theorem walk (a0 : Option Addr) (len0 cap0 : Nat) (z0 : List Int) (a1 : Option Addr) (len1 cap1 : Nat) (z1 : List Int) (w : World) (w0 : IsRow .u64 w a0 len0 cap0 z0) (w1 : IsRow .u64 w a1 len1 cap1 z1) :
    Calls Yba.prog 3 #[.slice a0 len0 cap0, .slice a1 len1 cap1] w fun e w' => e = .returned (.bool true) ∧ Kept w.heap.size w w' := by
  have s0 := src_of_row w0
  have s1 := src_of_row w1
  have m0 : len0 ≤ maxLen := by
    rcases w0 with ⟨_, rfl, _⟩ | ⟨_, _, h1, h2, _⟩
    · exact Nat.zero_le _
    · omega
  have m1 : len1 ≤ maxLen := by
    rcases w1 with ⟨_, rfl, _⟩ | ⟨_, _, h1, h2, _⟩
    · exact Nat.zero_le _
    · omega
  by_cases h : 1024 < len0 ∨ 1024 < len1
  · exact walk_long a0 len0 cap0 a1 len1 cap1 w m0 m1 h
  · by_cases hnm : len0 < len1
    · exact walk_lt a0 len0 cap0 a1 len1 cap1 _ _ w (by omega) (by omega) s0.2 s1.2 s0.1 s1.1 hnm
    · exact walk_ge a0 len0 cap0 a1 len1 cap1 _ _ w (by omega) (by omega) s0.2 s1.2 s0.1 s1.1 hnm

/-! ### THE ROW's STEP: WRITTEN OUT: LEAVE IT -/
set_option maxRecDepth 100000 in
theorem lifted (os : Os) (started : os.Started) (H : Type) (enc : TypeId × Value → H) :
    ReturnsInHanded {} Yba.checked os 3 .any (Rows.lawS3075BEntrywiseMaxSpec.pre6 enc Yba.prog Yba.f3 Rows.lawS3075BEntrywiseMaxRow.domain false) (Rows.lawS3075BEntrywiseMaxSpec.post enc Yba.prog Yba.f3 false true false false) := by
  refine returnsInHanded_of_change (C := Yba.checked) own started (by kernel_rfl) Yba.func3
    (ChangeSpec.witness6 (enc := enc) (C := Yba.checked) false ⟨#[], #[.slice none 0 0, .slice none 0 0], []⟩ 8 (by kernel_rfl) (by kernel_rfl) (by kernel_rfl) (by kernel_rfl)) ?_
  intro W base args ds gs before hval0 hW hcnd _
  have hval : ∀ (j : Nat) t v, Yba.f3.params[j]? = some t → args[j]? = some v → Value.okWide Yba.prog W .any base t v := hval0
  have hW' := hW
  obtain ⟨p, q, hA0, hV, rfl, hfz, hnd⟩ := hW
  have hA : DataW.TrodAll enc Yba.prog W 0 (fun _ => true) true Yba.f3.params.toList args.toList ds p := hA0
  rw [Yba.params3] at hA hval
  obtain ⟨v0, vs0, d0, ds0, p0, q0, hargs, rfl, rfl, h0, r0⟩ := trodAll_cons hA
  obtain ⟨v1, vs1, d1, ds1, p1, q1, rfl, rfl, rfl, h1, r1⟩ := trodAll_cons r0
  obtain ⟨rfl, rfl, rfl⟩ := trodAll_nil r1
  obtain rfl : args = #[v0, v1] := by cases args; simp_all
  obtain ⟨rfl, rfl⟩ := trodVars_none hV
  obtain ⟨a0, len0, cap0, rfl⟩ := okWide_slice Yba.underlying22 (hval 0 22 v0 rfl rfl)
  have k0 := h0
  have lt0 : ∀ x ∈ p0, x.block < W.heap.size := by obtain ⟨m, hm⟩ := k0; exact DataW.trod_lt m _ _ _ hm
  obtain ⟨z0, w0⟩ : ∃ zs, IsRow .u64 W a0 len0 cap0 zs := by
    obtain ⟨fuel, hf⟩ := h0
    rcases open_ints Yba.underlying22 Yba.underlying26 (by kernel_rfl) hf with ⟨hcs, _⟩ | ⟨x, l, c, zs, hcs, _, hl, hm, hz, _, hcell, hwz⟩
    · simp [Value.cells] at hcs
      obtain ⟨rfl, rfl, rfl⟩ := hcs
      exact ⟨[], .inl ⟨rfl, rfl, rfl, rfl⟩⟩
    · simp [Value.cells] at hcs
      obtain ⟨rfl, rfl, rfl⟩ := hcs
      exact ⟨zs, .inr ⟨_, rfl, hl, hm, by simpa using hz, hcell, hwz⟩⟩
  obtain ⟨a1, len1, cap1, rfl⟩ := okWide_slice Yba.underlying22 (hval 1 22 v1 rfl rfl)
  have k1 := h1
  have lt1 : ∀ x ∈ p1, x.block < W.heap.size := by obtain ⟨m, hm⟩ := k1; exact DataW.trod_lt m _ _ _ hm
  obtain ⟨z1, w1⟩ : ∃ zs, IsRow .u64 W a1 len1 cap1 zs := by
    obtain ⟨fuel, hf⟩ := h1
    rcases open_ints Yba.underlying22 Yba.underlying26 (by kernel_rfl) hf with ⟨hcs, _⟩ | ⟨x, l, c, zs, hcs, _, hl, hm, hz, _, hcell, hwz⟩
    · simp [Value.cells] at hcs
      obtain ⟨rfl, rfl, rfl⟩ := hcs
      exact ⟨[], .inl ⟨rfl, rfl, rfl, rfl⟩⟩
    · simp [Value.cells] at hcs
      obtain ⟨rfl, rfl, rfl⟩ := hcs
      exact ⟨zs, .inr ⟨_, rfl, hl, hm, by simpa using hz, hcell, hwz⟩⟩
  clear hA0 hval0
  refine (walk a0 len0 cap0 z0 a1 len1 cap1 z1 W w0 w1).mono fun e W' ⟨he, bel⟩ => ?_
  subst he
  exact ⟨_, rfl, _, _, _, [], _, [], hW', trodAll_mk1 (shut_bool Yba.underlying4 _), (trodAll_cons_mk (WideElems.Trod_stays laidOut (by kernel_rfl) (of_decide_eq_true (by kernel_rfl)) k0 (fun x hx => bel.same (lt0 x hx)) (fun x hx => by simpa using lt0 x hx)) (trodAll_cons_mk (WideElems.Trod_stays laidOut (by kernel_rfl) (of_decide_eq_true (by kernel_rfl)) k1 (fun x hx => bel.same (lt1 x hx)) (fun x hx => by simpa using lt1 x hx)) trodAll_mk0)), rfl, bel.frame _, fun h => by cases h⟩

theorem over : Rows.lawS3075BEntrywiseMaxRow.holds Yba.pinned (OpenSpec.ofChange Rows.lawS3075BEntrywiseMaxSpec) :=
  OpenClaim.holds_of_wide 3 Yba.f3 rfl rfl rfl rfl rfl rfl rfl ⟨rfl, rfl, rfl, rfl, rfl⟩ rfl rfl rfl rfl rfl (by kernel_rfl) Yba.func3 (by kernel_rfl)
    (of_decide_eq_true (by kernel_rfl)) (by unfold Func.isWrapper; first | (rw [if_pos (by decide +kernel)]; kernel_rfl) | (rw [if_neg (by decide +kernel)]; exact ⟨rfl, rfl⟩))
    (fun os started H enc _ => lifted os started H enc)

/-- ████ THE STATEMENT ████ -/
theorem proved : Rows.LawS3075BEntrywiseMaxSaid := over
#print axioms proved
end Go.Proofs.Ybulkbkqu.lawS3075BEntrywiseMax
