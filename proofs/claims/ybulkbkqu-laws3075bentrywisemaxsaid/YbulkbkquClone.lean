/-
  zzs3075bclone (function 5), zzs3075bat (function 7): slices of uint64, told by a function of the index.
-/
import Derived.Test.YbulkbkquRows
import Derived.WalkKit
import Derived.OwnWalk
import Derived.Below
import Derived.ChangeFn
import Derived.ChangeAgain
import Derived.Lib.SliceRun
import Derived.Laws.IdiomCopy
import Derived.Laws.MakeOwn
import Derived.Deep.Draws
namespace Go.Proofs.Ybulkbkqu
open Go.RowKit
set_option linter.unusedVariables false

theorem info26 : (Yba.prog.info? 26).map (fun i => (i.zero, i.size, i.bytes)) = some (some (.int .u64 0), 1, 8) := by kernel_rfl

/-- Below block B the world is as it was. -/
structure Kept (B : Nat) (w w' : World) : Prop where
  os : w'.os = w.os
  output : w'.output = w.output
  size : w.heap.size ≤ w'.heap.size
  block : ∀ k, k < B → w'.heap[k]? = w.heap[k]?

theorem Kept.refl (B : Nat) (w : World) : Kept B w w := ⟨rfl, rfl, Nat.le_refl _, fun _ _ => rfl⟩
theorem Kept.trans {B : Nat} {a b c : World} (h : Kept B a b) (k : Kept B b c) : Kept B a c :=
  ⟨k.os.trans h.os, k.output.trans h.output, Nat.le_trans h.size k.size, fun i hi => (k.block i hi).trans (h.block i hi)⟩
theorem Kept.mono {B B' : Nat} {w w' : World} (h : Kept B w w') (hB : B' ≤ B) : Kept B' w w' := ⟨h.os, h.output, h.size, fun k hk => h.block k (Nat.lt_of_lt_of_le hk hB)⟩
theorem Kept.of {B : Nat} {w w' : World} (h : Below B w w') : Kept B w w' := ⟨h.os, h.output, h.size, h.block⟩
theorem Kept.cell {B : Nat} {w w' : World} (h : Kept B w w') {p : Addr} (hp : p.block < B) : w'.cell? p = w.cell? p := World.cell?_of_block (w := w) (h.block p.block hp)
theorem Kept.frozen {B : Nat} {w w' : World} (h : Kept B w w') {p : Addr} (hp : p.block < B) : w'.frozen? p = w.frozen? p := World.frozen?_of_block (w := w) (h.block p.block hp)
theorem Kept.frame {W w' : World} (h : Kept W.heap.size W w') (may : MemPlace → Prop) : W.keptBut w' may := by
  refine ⟨h.os, h.output, fun i hi => ?_⟩
  rw [h.block i hi]
  split <;> simp_all
theorem Kept.same {W w' : World} (h : Kept W.heap.size W w') {p : MemPlace} (hp : p.block < W.heap.size) : W.sameAt w' p := by
  cases p with
  | cell b o => exact World.cell?_of_block (w := W) (h.block b hp)
  | map b => exact h.block b hp
theorem Kept.drewN (B : Nat) (w : World) (n : Nat) : Kept B w (w.drewN n) := ⟨rfl, rfl, Nat.le_refl _, fun _ _ => rfl⟩

/-- The slice (ao, n, ..) reads, in w, as X 0, .., X (n - 1). -/
def Reads (w : World) (ao : Option Addr) (n : Nat) (X : Nat → Int) : Prop :=
  n = 0 ∨ ∃ g o, ao = some ⟨g, o, none⟩ ∧ g < w.heap.size ∧ ∀ i, i < n → w.cell? ⟨g, o + i, none⟩ = some (.int .u64 (X i))
theorem Reads.kept {w w' : World} {ao : Option Addr} {n : Nat} {X : Nat → Int} (h : Reads w ao n X) (hk : Kept w.heap.size w w') : Reads w' ao n X := by
  rcases h with h | ⟨g, o, rfl, hg, hx⟩
  · exact .inl h
  · exact .inr ⟨g, o, rfl, Nat.lt_of_lt_of_le hg hk.size, fun i hi => (hk.cell (p := ⟨g, o + i, none⟩) hg).trans (hx i hi)⟩

/-- A row of the call's own (from block B on): it reads as X, and may be written. -/
def Own (B : Nat) (w : World) (ao : Option Addr) (n : Nat) (X : Nat → Int) : Prop :=
  n = 0 ∨ ∃ g, ao = some ⟨g, 0, none⟩ ∧ B ≤ g ∧ g < w.heap.size ∧ (∀ i, i < n → w.cell? ⟨g, i, none⟩ = some (.int .u64 (X i))) ∧ ∀ i, i < n → w.frozen? ⟨g, i, none⟩ = false
theorem Own.reads {B : Nat} {w : World} {ao : Option Addr} {n : Nat} {X : Nat → Int} (h : Own B w ao n X) : Reads w ao n X := by
  rcases h with h | ⟨g, rfl, _, hg, hx, _⟩
  · exact .inl h
  · exact .inr ⟨g, 0, rfl, hg, fun i hi => by rw [Nat.zero_add]; exact hx i hi⟩

def u64s (n : Nat) (X : Nat → Int) : List Value := (List.range n).map fun i => Value.int .u64 (X i)
theorem u64s_length (n : Nat) (X : Nat → Int) : (u64s n X).length = n := by simp [u64s]
theorem u64s_get {n : Nat} {X : Nat → Int} {j : Nat} (h : j < n) : (u64s n X)[j]? = some (.int .u64 (X j)) := by simp [u64s, h]
theorem u64s_one (n : Nat) (X : Nat → Int) : ∀ u ∈ u64s n X, u.oneCell' = true := by
  intro u hu
  obtain ⟨_, _, rfl⟩ := List.mem_map.1 hu
  rfl

theorem below_setCells {B : Nat} (b : Nat) (hb : B ≤ b) : ∀ (vs : List Value) (o : Nat) (w : World), Below B w (w.setCells b o vs)
  | [], _, _ => Below.refl _ _
  | v :: vs, o, w => ((Below.refl B w).setCell (p := ⟨b, o, none⟩) hb v).trans (below_setCells b hb vs (o + 1) _)

theorem new_frozen (w : World) (arr : Array Value) (t : TypeId) (i : Nat) : (w.alloc (.cells arr t)).frozen? ⟨w.heap.size, i, none⟩ = false := by
  unfold World.frozen?
  rw [heap_alloc_new w (.cells arr t)]
  simp

set_option maxHeartbeats 800000 in
set_option maxRecDepth 100000 in
theorem clone_nil (n c : Nat) (w : World) :
    Calls Yba.prog 5 #[.slice none n c] w fun e w' => e = .returned (.slice none 0 0) ∧ w' = w := by
  have he := fun (w : World) => Lib.run_eql_slice_nil (P := Yba.prog) w 22 26 none n c 0 0 Yba.underlying22
  go_enter Yba.func5, Yba.ntmps5
  go_wp2
  go_ret
  exact ⟨rfl, rfl⟩

set_option maxHeartbeats 800000 in
set_option maxRecDepth 100000 in
theorem clone_some (x : Addr) (n c : Nat) (X : Nat → Int) (w : World) (hn : n ≤ 1024) (hx : ∀ i, i < n → w.cell? (x.add i) = some (.int .u64 (X i))) (hxb : n = 0 ∨ x.block < w.heap.size) :
    Calls Yba.prog 5 #[.slice (some x) n c] w fun e w' => e = .returned (.slice (some ⟨w.heap.size, 0, none⟩) n n) ∧ Own w.heap.size w' (some ⟨w.heap.size, 0, none⟩) n X ∧ Kept w.heap.size w w' ∧ w.heap.size < w'.heap.size := by
  have he := fun (w : World) => Lib.run_eql_slice_nil (P := Yba.prog) w 22 26 (some x) n c 0 0 Yba.underlying22
  obtain ⟨i0, hi, hz0, hz1, hz2⟩ := info_parts info26
  have hmk := run_make (P := Yba.prog) w 23 26 i0 (.int .u64 0) Yba.underlying23 hi hz0 .i64 .i64 (n : Int) (n : Int) (by omega) (by omega) (by rw [hz2]; omega) (by omega)
  simp only [Int.toNat_natCast, hz1, Nat.mul_one] at hmk
  have hcp : ∀ (arr : Array Value), arr.size = n → ∀ ty, (Builtin.copy_ #[23, 22] ty #[.slice (some ⟨w.heap.size, 0, none⟩) n n, .slice (some x) n c]).run Yba.prog (w.alloc (.cells arr 26)) = .ok (goInt n) ((w.alloc (.cells arr 26)).setCells w.heap.size 0 (u64s n X)) := by
    intro arr hs ty
    have := run_copy_cells (P := Yba.prog) (w.alloc (.cells arr 26)) 23 22 ty 26 w.heap.size 0 n n x n c (u64s n X) Yba.underlying23 (by rw [hi]; simp [hz1]) (by rw [u64s_length]; exact (Nat.min_self n).symm)
      (fun j v hj => by
        have hjn : j < n := by have := (List.getElem?_eq_some_iff.1 hj).1; rwa [u64s_length] at this
        rw [u64s_get hjn] at hj
        rw [← hj, ← hx j hjn]
        have hb : (x.add j).block < w.heap.size := World.block_lt_of_cell? w _ (hx j hjn)
        exact World.cell?_of_block (Below.heap_alloc w _ _ hb))
      (fun j hj => by rw [u64s_length] at hj; rw [Nat.zero_add, cell_of_row _ _ _ arr 26 (0, 0) (heap_alloc_new w _), Array.getElem?_eq_getElem (by omega)]; rfl)
      (fun j _ => new_frozen w arr 26 _)
      (u64s_one n X)
    rw [u64s_length] at this
    exact this
  have hend : ∀ (arr : Array Value), arr.size = n → Own w.heap.size ((w.alloc (.cells arr 26)).setCells w.heap.size 0 (u64s n X)) (some ⟨w.heap.size, 0, none⟩) n X ∧ Kept w.heap.size w ((w.alloc (.cells arr 26)).setCells w.heap.size 0 (u64s n X)) ∧ w.heap.size < ((w.alloc (.cells arr 26)).setCells w.heap.size 0 (u64s n X)).heap.size := by
    intro arr hs
    have hb := below_setCells (B := w.heap.size) w.heap.size (Nat.le_refl _) (u64s n X) 0 (w.alloc (.cells arr 26))
    refine ⟨.inr ⟨_, rfl, Nat.le_refl _, ?_, fun i hi => ?_, fun i hi => ?_⟩, Kept.of (((Below.refl _ _).alloc (Nat.le_refl _) _).trans hb), ?_⟩
    · have := hb.size
      simp at this
      omega
    · have := World.cell?_setCells_in w.heap.size (u64s n X) 0 (w.alloc (.cells arr 26)) (fun j hj => by rw [u64s_length] at hj; rw [Nat.zero_add, cell_of_row _ _ _ arr 26 (0, 0) (heap_alloc_new w _), Array.getElem?_eq_getElem (by omega)]; rfl) i (by rw [u64s_length]; exact hi)
      rw [Nat.zero_add] at this
      rw [this]
      have h2 := u64s_get (X := X) hi
      rw [List.getElem?_eq_getElem (by rw [u64s_length]; exact hi)] at h2
      exact h2
    · rw [World.frozen?_setCells]
      exact new_frozen w arr 26 _
    · have := hb.size
      simp at this
      omega
  have HE : Hid _ := hend
  have hc3 := hcp (madeCells #[.int .u64 0] n) (by simp [madeCells]) 3
  clear hend hcp hx hxb
  go_enter Yba.func5, Yba.ntmps5
  go_wp2
  go_ret
  exact ⟨rfl, HE.out _ (by simp [madeCells])⟩

/-- zzs3075bat. -/
def atv (n : Nat) (X : Nat → Int) (i : Nat) : Int := if i < n then X i else 0
theorem atv_in {n : Nat} {X : Nat → Int} {i : Nat} (h : i < n) : atv n X i = X i := if_pos h
theorem atv_out {n : Nat} {X : Nat → Int} {i : Nat} (h : n ≤ i) : atv n X i = 0 := if_neg (by omega)

set_option maxHeartbeats 800000 in
set_option maxRecDepth 100000 in
theorem at7 (ao : Option Addr) (n c : Nat) (X : Nat → Int) (k : Nat) (w : World) (hn : n ≤ 1024) (hk : k ≤ 1024) (hx : Reads w ao n X) :
    Calls Yba.prog 7 #[.slice ao n c, .int .i64 k] w fun e w' => e = .returned (.int .u64 (atv n X k)) ∧ w' = w := by
  by_cases h : k < n
  · rw [atv_in h]
    rcases hx with hx | ⟨g, o, rfl, hg, hx⟩
    · omega
    have hc := hx k h
    clear hx
    have h' : (k : Int) < (n : Int) := by omega
    go_enter Yba.func7, Yba.ntmps7
    go_wp2
    go_ret
    exact ⟨rfl, rfl⟩
  · rw [atv_out (by omega)]
    clear hx
    have h' : ¬ (k : Int) < (n : Int) := by omega
    go_enter Yba.func7, Yba.ntmps7
    go_wp2
    go_ret
    exact ⟨rfl, rfl⟩

end Go.Proofs.Ybulkbkqu
