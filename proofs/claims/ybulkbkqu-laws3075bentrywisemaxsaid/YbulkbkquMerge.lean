/-
  Pad (function 9) and Merge (function 6).
-/
import Derived.Test.YbulkbkquClone
import Derived.Lib.AppendZerosOnto
import Derived.Deep.RegionLaw
import Derived.Deep.QuietTactic
import Derived.BigQuiet
import Derived.Laws.Pointers
namespace Go.Proofs.Ybulkbkqu
open Go.RowKit
set_option linter.unusedVariables false

section
variable {P : Program}
/-- An append whose run is known, as one step of a region that draws its order. -/
theorem step_append_run {w : World} {ops : Array Oper} {o : Oper} {a : Act} {K : Act → World → Prop} {Q : Exit → Act → World → Prop} {E : Prop} (hgd : o.guard = none) (s x : Operand) (t tn : TypeId)
    (ho : o.op = .call { callee := .builtin .append, args := #[s, x], argTypes := #[t, tn] }) (vs vx : Value) (hs : a.eval s = vs) (hx : a.eval x = vx)
    (v' : Value) (w' : World) (hr : ∀ ty, (Builtin.append_ #[t, tn] ty #[vs, vx]).run P w = .ok v' w') (h : K (a.put o.dst v') w') :
    if Region.wanted o (yielded ops a.tmps) = true then Oper.wp P o a w K Q else E := by
  have hw : Region.wanted o (yielded ops a.tmps) = true := by simp [Region.wanted, hgd]
  rw [if_pos hw]
  exact Lib.wp_append_run w s x t tn ho vs vx hs hx v' w' (hr _) h
end

theorem zero_at (n i : Nat) (h : i < n) : (Builtin.zeroCells #[Value.int .u64 0] n)[i]? = some (.int .u64 0) := by
  simp [Builtin.zeroCells, h, Nat.mod_one]

/-- 'append(s, make([]uint64, k)...)' where s, of n elements, is full: a new row: s's elements, then zeros. -/
theorem run_pad (w : World) (ao : Option Addr) (n m : Nat) (X : Nat → Int) (hx : Reads w ao n X) (hnm : n < m) (hm : m ≤ 1024) :
    ∃ cap' w2, (∀ ty, (Builtin.append_ #[23, 3] ty #[.slice ao n n, .int .i64 ((m : Int) - (n : Int))]).run Yba.prog w = .ok (.slice (some ⟨w.heap.size, 0, none⟩) m cap') w2) ∧
      m ≤ cap' ∧ Own w.heap.size w2 (some ⟨w.heap.size, 0, none⟩) m (atv n X) ∧ Kept w.heap.size w w2 ∧ w.heap.size < w2.heap.size := by
  obtain ⟨i0, hi, hz0, hz1, hz2⟩ := info_parts info26
  have hold : ∀ w' : World, (∀ a, w'.cell? a = w.cell? a) → (Builtin.firstCells i0.size n (.slice ao n n)).run Yba.prog w' = .ok (u64s n X).toArray w' := by
    intro w' hw
    rcases hx with h0 | ⟨g, o, rfl, hg, hx⟩
    · subst h0
      cases ao with
      | none => simp [Builtin.firstCells, u64s]
      | some a => exact run_firstCells_some w' i0.size 0 a 0 0 (u64s 0 X) (by simp [u64s]) (by intro j u h; simp [u64s] at h)
    · refine run_firstCells_some w' i0.size n ⟨g, o, none⟩ n n (u64s n X) (by rw [u64s_length, hz1, Nat.mul_one]) (fun j u hj => ?_)
      have hjn : j < n := by have := (List.getElem?_eq_some_iff.1 hj).1; rwa [u64s_length] at this
      rw [u64s_get hjn] at hj
      rw [Addr.add_lit, hw, hx j hjn, ← hj]
  have hns : Builtin.nextslicecap (n + (m - n)) n * i0.bytes ≤ 281474976710656 := growslice_fits (by omega) (by rw [hz2]; omega)
  have hrun := fun ty => Lib.run_append_grow_zeros (P := Yba.prog) w 23 3 ty 26 i0 (.int .u64 0) .i64 .i64 Yba.underlying23 Yba.underlying3 hi hz0 ao n n (u64s n X) (hold w.drew (fun a => by simp)) (m - n) (by omega) (by omega) (by omega) (by omega) (by rw [hz2]; omega) hns
  have e1 : n + (m - n) = m := by omega
  have e2 : ((m - n : Nat) : Int) = (m : Int) - (n : Int) := by omega
  rw [e1, e2] at hrun
  have hcap := grownCap_ge w m n 26
  refine ⟨_, _, hrun, hcap, .inr ⟨_, rfl, Nat.le_refl _, by simp, fun i hi => ?_, fun i _ => ?_⟩, Kept.of ((Below.refl _ _).drew.alloc (Nat.le_refl _) _), by simp⟩
  · have hr := heap_alloc_new w.drew (.cells ((u64s n X).toArray ++ Builtin.zeroCells (Value.cells (.int .u64 0)) (m - n) ++ Builtin.zeroCells (Value.cells (.int .u64 0)) (grownCap w m n 26 - m)) 26)
    have hr' : (w.drew.alloc (.cells ((u64s n X).toArray ++ Builtin.zeroCells (Value.cells (.int .u64 0)) (m - n) ++ Builtin.zeroCells (Value.cells (.int .u64 0)) (grownCap w m n 26 - m)) 26)).heap[w.heap.size]? = _ := hr
    rw [cell_of_row _ _ _ _ 26 (0, 0) hr']
    have hsz : (Builtin.zeroCells (Value.cells (.int .u64 0)) (m - n)).size = m - n := by simp [Builtin.zeroCells, Value.cells]
    rw [Array.getElem?_append_left (by simp [u64s_length, hsz]; omega)]
    by_cases hin : i < n
    · rw [Array.getElem?_append_left (by simp [u64s_length]; omega), atv_in hin]
      simpa using u64s_get hin
    · rw [Array.getElem?_append_right (by simp [u64s_length]; omega), atv_out (by omega)]
      exact zero_at _ _ (by simp [u64s_length]; omega)
  · exact new_frozen w.drew _ 26 i

set_option maxHeartbeats 1600000 in
set_option maxRecDepth 100000 in
theorem pad_grow (pb : Nat) (ao : Option Addr) (n m : Nat) (X : Nat → Int) (w : World) (hm : m ≤ 1024) (hnm : n < m) (hp : w.cell? ⟨pb, 0, none⟩ = some (.slice ao n n)) (hf : w.frozen? ⟨pb, 0, none⟩ = false) (hx : Reads w ao n X) :
    Calls Yba.prog 9 #[.pointer (some ⟨pb, 0, none⟩), .int .i64 m] w fun e w' => e = .returned (.tuple #[]) ∧
      ∃ cap' w2, m ≤ cap' ∧ Own w.heap.size w2 (some ⟨w.heap.size, 0, none⟩) m (atv n X) ∧ Kept w.heap.size w w2 ∧ w' = w2.setCell ⟨pb, 0, none⟩ (.slice (some ⟨w.heap.size, 0, none⟩) m cap') := by
  have hlt : (n : Int) < (m : Int) := by omega
  have hb := World.block_lt_of_cell? w _ hp
  obtain ⟨cap', w2, hrun, hcap, hown, hk, hs2⟩ := run_pad w.drew ao n m X (hx.kept (Kept.of (Below.refl _ _).drew)) hnm hm
  have hp2 : w2.cell? ⟨pb, 0, none⟩ = some (.slice ao n n) := (hk.cell (p := ⟨pb, 0, none⟩) hb).trans hp
  have hf2 : w2.frozen? ⟨pb, 0, none⟩ = false := (hk.frozen (p := ⟨pb, 0, none⟩) hb).trans hf
  have HK : Hid _ := And.intro hcap (And.intro hown hk)
  have hw : IntKind.i64.wrap ((m : Int) - (n : Int)) = (m : Int) - (n : Int) := by rw [IntKind.wrap_i64]; omega
  rw [← hw] at hrun
  have HR : Hid _ := hrun
  clear hx hk hown hrun hw
  go_enter Yba.func9, Yba.ntmps9
  go_wp2_with fail
  go_region_law (refine step_append_run (by rfl) _ _ 23 3 (by rfl) _ _ (by rfl) (by rfl) _ _ HR.out ?_)
  all_goals go_wp2
  all_goals (go_end0; exact ⟨rfl, cap', w2, HK.out.1, HK.out.2.1, (Kept.of (Below.refl _ _).drew).trans HK.out.2.2, rfl⟩)

set_option maxHeartbeats 1600000 in
set_option maxRecDepth 100000 in
theorem pad_stay (pb : Nat) (ao : Option Addr) (n c m : Nat) (w : World) (hm : m ≤ 1024) (hn : n ≤ 1024) (hnm : m ≤ n) (hp : w.cell? ⟨pb, 0, none⟩ = some (.slice ao n c)) :
    Calls Yba.prog 9 #[.pointer (some ⟨pb, 0, none⟩), .int .i64 m] w fun e w' => e = .returned (.tuple #[]) ∧ w' = w := by
  have hlt : ¬ (n : Int) < (m : Int) := by omega
  go_enter Yba.func9, Yba.ntmps9
  go_wp2
  go_end0
  exact ⟨rfl, rfl⟩

theorem cell_other (w : World) (a b : Addr) (v : Value) (h : a ≠ b) : (w.setCell a v).cell? b = w.cell? b := World.cell?_setCell_other (h := h) ..

/-- What Merge makes of the entries. -/
def mxv (n : Nat) (X : Nat → Int) (m : Nat) (Y : Nat → Int) (i : Nat) : Int := if i < m ∧ atv n X i < Y i then Y i else atv n X i

/-- All but block g is as it was; no mark has turned. -/
structure But (g : Nat) (w w' : World) : Prop where
  os : w'.os = w.os
  output : w'.output = w.output
  size : w'.heap.size = w.heap.size
  block : ∀ k, k ≠ g → w'.heap[k]? = w.heap[k]?
  frozen : ∀ a, w'.frozen? a = w.frozen? a
theorem But.refl (g : Nat) (w : World) : But g w w := ⟨rfl, rfl, rfl, fun _ _ => rfl, fun _ => rfl⟩
theorem But.setCell {g : Nat} {w w' : World} (h : But g w w') (i : Nat) (v : Value) : But g w (w'.setCell ⟨g, i, none⟩ v) :=
  ⟨h.os, h.output, by rw [← h.size]; exact Array.size_modify, fun k hk => (Below.heap_setCell w' ⟨g, i, none⟩ v k hk).trans (h.block k hk), fun a => by rw [World.frozen?_setCell]; exact h.frozen a⟩
theorem But.cell {g : Nat} {w w' : World} (h : But g w w') {p : Addr} (hp : p.block ≠ g) : w'.cell? p = w.cell? p := World.cell?_of_block (w := w) (h.block p.block hp)

/-- Behind Pad: the variable's cell, and the row that it leads to. -/
def Padded (B pb gb N : Nat) (Z : Nat → Int) (w' : World) (ao1 : Option Addr) : Prop :=
  N = 0 ∨ ∃ g1, ao1 = some ⟨g1, 0, none⟩ ∧ B ≤ g1 ∧ g1 < w'.heap.size ∧ g1 ≠ pb ∧ g1 ≠ gb ∧ (∀ i, i < N → w'.cell? ⟨g1, i, none⟩ = some (.int .u64 (Z i))) ∧ ∀ i, i < N → w'.frozen? ⟨g1, i, none⟩ = false

theorem pad9 (B pb gb : Nat) (ao : Option Addr) (n m : Nat) (X : Nat → Int) (w : World) (hm : m ≤ 1024) (hn : n ≤ 1024) (hB : B ≤ pb) (hBw : B ≤ w.heap.size) (hgb : n < m → gb < w.heap.size)
    (hp : w.cell? ⟨pb, 0, none⟩ = some (.slice ao n n)) (hf : w.frozen? ⟨pb, 0, none⟩ = false) (hx : Own B w ao n X) (hne : ∀ g, ao = some ⟨g, 0, none⟩ → g ≠ pb ∧ g ≠ gb) :
    Calls Yba.prog 9 #[.pointer (some ⟨pb, 0, none⟩), .int .i64 m] w fun e w' => e = .returned (.tuple #[]) ∧
      ∃ ao1 c1, max n m ≤ c1 ∧ w'.cell? ⟨pb, 0, none⟩ = some (.slice ao1 (max n m) c1) ∧ Padded B pb gb (max n m) (atv n X) w' ao1 ∧ Kept B w w' ∧ ∀ a : Addr, a.block < w.heap.size → a.block ≠ pb → w'.cell? a = w.cell? a := by
  by_cases h : n < m
  · refine (pad_grow pb ao n m X w hm h hp hf hx.reads).mono ?_
    rintro e w' ⟨he, cap', w2, hc, hown, hk, rfl⟩
    have hpb := World.block_lt_of_cell? w _ hp
    have hN : max n m = m := Nat.max_eq_right (by omega)
    rw [hN]
    have hp2 : w2.cell? ⟨pb, 0, none⟩ = some (.slice ao n n) := (hk.cell (p := ⟨pb, 0, none⟩) hpb).trans hp
    refine ⟨he, _, cap', hc, World.cell?_setCell_same _ _ _ hp2, ?_, (hk.mono hBw).trans (Kept.of ((Below.refl _ _).setCell (p := ⟨pb, 0, none⟩) hB _)), fun a ha hne' => ?_⟩
    · rcases hown with h0 | ⟨g, hg, hBg, hgl, hc1, hf1⟩
      · exact .inl h0
      · simp at hg
        subst hg
        have hpb' : w.heap.size ≠ pb := by have : pb < w.heap.size := hpb; omega
        refine .inr ⟨_, rfl, hBw, ?_, hpb', by have := hgb h; omega, fun i hi => ?_, fun i hi => ?_⟩
        · have e : (w2.setCell ⟨pb, 0, none⟩ (.slice (some ⟨w.heap.size, 0, none⟩) m cap')).heap.size = w2.heap.size := Array.size_modify
          rw [e]; exact hgl
        · rw [cell_other _ _ _ _ (by intro e; simp at e)]
          exact hc1 i hi
        · rw [World.frozen?_setCell]
          exact hf1 i hi
    · rw [cell_other _ _ _ _ (fun e => hne' (by rw [← e]))]
      exact hk.cell ha
  · refine (pad_stay pb ao n n m w hm hn (by omega) hp).mono ?_
    rintro e w' ⟨he, rfl⟩
    have hN : max n m = n := Nat.max_eq_left (by omega)
    rw [hN]
    refine ⟨he, ao, n, Nat.le_refl _, hp, ?_, Kept.refl _ _, fun _ _ _ => rfl⟩
    rcases hx with h0 | ⟨g, hg, hBg, hgl, hc1, hf1⟩
    · exact .inl h0
    · exact .inr ⟨g, hg, hBg, hgl, (hne g hg).1, (hne g hg).2, fun i hi => by rw [atv_in hi]; exact hc1 i hi, hf1⟩

theorem mxv_zero (n : Nat) (X Y : Nat → Int) (i : Nat) : mxv n X 0 Y i = atv n X i := by simp [mxv]
theorem mxv_at (n : Nat) (X Y : Nat → Int) (k : Nat) : mxv n X k Y k = atv n X k := by simp [mxv]
theorem mxv_succ_ne (n : Nat) (X Y : Nat → Int) (k i : Nat) (h : i ≠ k) : mxv n X (k + 1) Y i = mxv n X k Y i := by
  unfold mxv
  have : (i < k + 1) ↔ (i < k) := by omega
  simp [this]
theorem mxv_succ_gt (n : Nat) (X Y : Nat → Int) (k : Nat) (h : atv n X k < Y k) : mxv n X (k + 1) Y k = Y k := by simp [mxv, h]
theorem mxv_succ_le (n : Nat) (X Y : Nat → Int) (k : Nat) (h : ¬ atv n X k < Y k) : mxv n X (k + 1) Y k = atv n X k := by simp [mxv, h]

/-- Behind Merge. -/
def Merged (B pb N : Nat) (Z : Nat → Int) (bo : Option Addr) (m : Nat) (Y : Nat → Int) (w w' : World) : Prop :=
  ∃ ao1 c1, w'.cell? ⟨pb, 0, none⟩ = some (.slice ao1 N c1) ∧ Reads w' ao1 N Z ∧ Reads w' bo m Y ∧ Kept B w w'

set_option maxHeartbeats 1600000 in
set_option maxRecDepth 100000 in
theorem merge6 (B pb : Nat) (ao bo : Option Addr) (n m d : Nat) (X Y : Nat → Int) (w : World) (hm : m ≤ 1024) (hn : n ≤ 1024) (hB : B ≤ pb) (hBw : B ≤ w.heap.size)
    (hp : w.cell? ⟨pb, 0, none⟩ = some (.slice ao n n)) (hf : w.frozen? ⟨pb, 0, none⟩ = false) (hx : Own B w ao n X) (gb ob : Nat) (hgb : 0 < m → gb < w.heap.size) (hgp : gb ≠ pb) (hne : ∀ g, ao = some ⟨g, 0, none⟩ → g ≠ pb ∧ g ≠ gb)
    (hy : m = 0 ∨ bo = some ⟨gb, ob, none⟩ ∧ ∀ i, i < m → w.cell? ⟨gb, ob + i, none⟩ = some (.int .u64 (Y i))) :
    Calls Yba.prog 6 #[.pointer (some ⟨pb, 0, none⟩), .slice bo m d] w fun e w' => e = .returned (.tuple #[]) ∧ Merged B pb (max n m) (mxv n X m Y) bo m Y w w' := by
  have hP := pad9 B pb gb ao n m X w hm hn hB hBw (fun h => hgb (by omega)) hp hf hx hne
  by_cases h0 : m = 0
  · subst h0
    clear hy hne hx hf hp
    generalize max n 0 = N at hP ⊢
    go_enter Yba.func6, Yba.ntmps6
    go_wp2_with (go_at_call 9; refine hP.mono ?_; clear hP; rintro e w1 ⟨rfl, ao1, c1, hc1, hp1, hpd, hk, hoth⟩)
    go_loop [16] (fun i => i = .int .i64 0) (fun _ => 0)
    case atStart => rfl
    case round =>
      subst hrel
      go_wp2
      go_end0
      refine ⟨rfl, ao1, c1, hp1, ?_, .inl rfl, hk⟩
      rcases hpd with hN | ⟨g1, rfl, _, hl, _, _, hz, _⟩
      · exact .inl hN
      · exact .inr ⟨g1, 0, rfl, hl, fun i hi => by rw [mxv_zero, Nat.zero_add]; exact hz i hi⟩
  · rcases hy with h | ⟨rfl, hy⟩
    · omega
    replace hgb := hgb (by omega)
    clear hne hx hf hp
    have hmN : m ≤ max n m := Nat.le_max_right _ _
    have hN : max n m ≤ 1024 := Nat.max_le.2 ⟨hn, hm⟩
    generalize max n m = N at hP hmN hN ⊢
    go_enter Yba.func6, Yba.ntmps6
    go_wp2_with (go_at_call 9; refine hP.mono ?_; clear hP; rintro e w1 ⟨rfl, ao1, c1, hc1, hp1, hpd, hk, hoth⟩)
    obtain ⟨g1, rfl, hBg, hgl, hgpb, hggb, hz, hfz⟩ : ∃ g1, ao1 = some ⟨g1, 0, none⟩ ∧ B ≤ g1 ∧ g1 < w1.heap.size ∧ g1 ≠ pb ∧ g1 ≠ gb ∧ (∀ i, i < N → w1.cell? ⟨g1, i, none⟩ = some (.int .u64 (atv n X i))) ∧ ∀ i, i < N → w1.frozen? ⟨g1, i, none⟩ = false := by
      rcases hpd with h | h
      · omega
      · exact h
    have hy1 : ∀ i, i < m → w1.cell? ⟨gb, ob + i, none⟩ = some (.int .u64 (Y i)) := fun i hi => (hoth ⟨gb, ob + i, none⟩ hgb hgp).trans (hy i hi)
    clear hpd hoth hy
    have HZ : Hid _ := hz
    have HF : Hid _ := hfz
    have HY : Hid _ := hy1
    clear hz hfz hy1
    go_loopw [16] (fun i wr => ∃ k : Nat, k ≤ m ∧ i = .int .i64 k ∧ But g1 w1 wr ∧ ∀ i, i < N → wr.cell? ⟨g1, i, none⟩ = some (.int .u64 (mxv n X k Y i))) (fun i _ => m - (intOf i).toNat)
    case atStart => exact ⟨0, Nat.zero_le _, rfl, But.refl _ _, fun i hi => by rw [mxv_zero]; exact HZ.out i hi⟩
    case round =>
      obtain ⟨k, hkm, rfl, hbut, hcells⟩ := hrel
      by_cases hlt : k < m
      · have hck : wr.cell? ⟨g1, k, none⟩ = some (.int .u64 (atv n X k)) := by rw [← mxv_at n X Y k]; exact hcells k (by omega)
        have hyk : wr.cell? ⟨gb, ob + k, none⟩ = some (.int .u64 (Y k)) := (hbut.cell (p := ⟨gb, ob + k, none⟩) (Ne.symm hggb)).trans (HY.out k hlt)
        have hfk : wr.frozen? ⟨g1, k, none⟩ = false := (hbut.frozen _).trans (HF.out k (by omega))
        have HC : Hid _ := hcells
        have HB : Hid _ := hbut
        clear hcells hbut hp1
        have hkN : k < N := by omega
        by_cases hgt : atv n X k < Y k
        · go_wp2
          go_roundw
          case rel =>
            refine ⟨k + 1, by omega, by go_num, HB.out.setCell k _, fun i hi => ?_⟩
            by_cases hik : i = k
            · subst hik
              rw [mxv_succ_gt n X Y i hgt]
              exact World.cell?_setCell_same _ _ _ hck
            · rw [mxv_succ_ne n X Y k i hik, cell_other _ _ _ _ (by simp)]
              exact HC.out i hi
          case measure => simp [intOf]; omega
        · go_wp2
          go_roundw
          case rel =>
            refine ⟨k + 1, by omega, by go_num, HB.out, fun i hi => ?_⟩
            by_cases hik : i = k
            · subst hik
              rw [mxv_succ_le n X Y i hgt]
              exact hck
            · rw [mxv_succ_ne n X Y k i hik]
              exact HC.out i hi
          case measure => simp [intOf]; omega
      · have hkm' : k = m := by omega
        subst hkm'
        have HC : Hid _ := hcells
        clear hcells
        go_wp2
        go_end0
        refine ⟨rfl, _, c1, (hbut.cell (p := ⟨pb, 0, none⟩) (Ne.symm hgpb)).trans hp1, .inr ⟨g1, 0, rfl, by rw [hbut.size]; exact hgl, fun i hi => by rw [Nat.zero_add]; exact HC.out i hi⟩, .inr ⟨gb, ob, rfl, ?_, fun i hi => (hbut.cell (p := ⟨gb, ob + i, none⟩) (Ne.symm hggb)).trans (HY.out i hi)⟩, hk.trans ⟨hbut.os, hbut.output, by rw [hbut.size]; exact Nat.le_refl _, fun j hj => hbut.block j (by omega)⟩⟩
        rw [hbut.size]
        exact Nat.lt_of_lt_of_le hgb hk.size
end Go.Proofs.Ybulkbkqu
