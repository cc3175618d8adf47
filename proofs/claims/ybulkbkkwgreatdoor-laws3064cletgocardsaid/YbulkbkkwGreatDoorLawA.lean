/-
  LawS3064CLetGo (function 3).
-/
import Derived.Test.YbulkbkkwGreatDoorNode
namespace Go.Proofs.YbulkbkkwGreatDoor
open Go.RowKit
set_option linter.unusedVariables false

set_option maxRecDepth 100000 in
theorem law_long (a0 a1 : Option Addr) (n c0 q c1 : Nat) (x : Int) (lv : Bool) (w : World) (hl : 1024 < n ∨ 1024 < q) :
    Calls Ybaz.prog 3 #[.slice a0 n c0, .slice a1 q c1, .int .u8 x, .bool lv] w fun e w' => e = .returned (.bool true) ∧ KeptX (fun _ => False) w.heap.size w w' := by
  by_cases h1 : 1024 < n
  · have h2 : (1024 : Int) < (n : Int) := by omega
    go_enter Ybaz.func3, Ybaz.ntmps3
    go_wp2
    go_ret
    exact ⟨rfl, KeptX.refl _ _ _⟩
  · have h2 : ¬ (1024 : Int) < (n : Int) := by omega
    have h3 : (1024 : Int) < (q : Int) := by omega
    go_enter Ybaz.func3, Ybaz.ntmps3
    go_wp2
    go_ret
    exact ⟨rfl, KeptX.refl _ _ _⟩

/-- What the inputs hold. -/
def InP (a0 : Option Addr) (par : Nat → Int) (B : Nat) (w : World) (k : Nat) : Prop := ∃ ab ao, a0 = some ⟨ab, ao, none⟩ ∧ ab < B ∧ w.cell? ⟨ab, ao + k, none⟩ = some (.int .u8 (par k))
def InO (a1 : Option Addr) (swo : Nat → Int) (gu : Nat → Bool) (B : Nat) (w : World) (k : Nat) : Prop := ∃ ab ao, a1 = some ⟨ab, ao, none⟩ ∧ ab < B ∧ w.cell? ⟨ab, ao + k * 2, none⟩ = some (.int .u8 (swo k)) ∧ w.cell? ⟨ab, ao + k * 2 + 1, none⟩ = some (.bool (gu k))


theorem code_chain6 {c : Code} {Q : Exit → Act → World → Prop} {a : Act} (w : World) (o0 o1 o2 o3 o4 o5 : Obj)
    (h : ∀ V, Below w.heap.size w V → V.heap.size = w.heap.size + 1 + 1 + 1 + 1 + 1 + 1 → V.heap[w.heap.size]? = some o0 → V.heap[w.heap.size + 1]? = some o1 → V.heap[w.heap.size + 1 + 1]? = some o2 → V.heap[w.heap.size + 1 + 1 + 1]? = some o3 → V.heap[w.heap.size + 1 + 1 + 1 + 1]? = some o4 → V.heap[w.heap.size + 1 + 1 + 1 + 1 + 1]? = some o5 → Code.wp Ybaz.prog c Q a V) :
    Code.wp Ybaz.prog c Q a ((((((w.alloc o0).alloc o1).alloc o2).alloc o3).alloc o4).alloc o5) := by
  refine h _ (((((((Below.refl _ _).alloc (by simp <;> omega) _).alloc (by simp <;> omega) _).alloc (by simp <;> omega) _).alloc (by simp <;> omega) _).alloc (by simp <;> omega) _).alloc (by simp <;> omega) _) (by simp) ?_ ?_ ?_ ?_ ?_ ?_
  · exact ((Below.heap_alloc _ _ _ (by simp <;> omega)).trans ((Below.heap_alloc _ _ _ (by simp <;> omega)).trans ((Below.heap_alloc _ _ _ (by simp <;> omega)).trans ((Below.heap_alloc _ _ _ (by simp <;> omega)).trans ((Below.heap_alloc _ _ _ (by simp <;> omega)).trans (heap_at _ _ _ (by simp)))))))
  · exact ((Below.heap_alloc _ _ _ (by simp <;> omega)).trans ((Below.heap_alloc _ _ _ (by simp <;> omega)).trans ((Below.heap_alloc _ _ _ (by simp <;> omega)).trans ((Below.heap_alloc _ _ _ (by simp <;> omega)).trans (heap_at _ _ _ (by simp))))))
  · exact ((Below.heap_alloc _ _ _ (by simp <;> omega)).trans ((Below.heap_alloc _ _ _ (by simp <;> omega)).trans ((Below.heap_alloc _ _ _ (by simp <;> omega)).trans (heap_at _ _ _ (by simp)))))
  · exact ((Below.heap_alloc _ _ _ (by simp <;> omega)).trans ((Below.heap_alloc _ _ _ (by simp <;> omega)).trans (heap_at _ _ _ (by simp))))
  · exact ((Below.heap_alloc _ _ _ (by simp <;> omega)).trans (heap_at _ _ _ (by simp)))
  · exact (heap_at _ _ _ (by simp))

theorem code_set1 {c : Code} {Q : Exit → Act → World → Prop} {a : Act} (w : World) (fb i : Nat) (v : Value) (o1 : Obj) (arr : Array Value) (t : TypeId) (hfb : w.heap[fb]? = some (.cells arr t (0, 0)))
    (h : ∀ W, W.heap.size = w.heap.size + 1 → KeptX (· = fb) w.heap.size w W → W.heap[fb]? = some (.cells (arr.setIfInBounds i v) t (0, 0)) → W.heap[w.heap.size]? = some o1 → Code.wp Ybaz.prog c Q a W) :
    Code.wp Ybaz.prog c Q a ((w.setCell ⟨fb, i, none⟩ v).alloc o1) := by
  have hlt : fb < w.heap.size := (Array.getElem?_eq_some_iff.1 hfb).1
  have hsz : (w.setCell ⟨fb, i, none⟩ v).heap.size = w.heap.size := Array.size_modify
  have hk : KeptX (· = fb) w.heap.size w (w.setCell ⟨fb, i, none⟩ v) := KeptX.setCell w _ _ rfl
  have hb := heap_setCell_at (i := i) hfb v
  generalize (w.setCell ⟨fb, i, none⟩ v) = w1 at *
  refine h _ (by simp [hsz]) (hk.trans (KeptX.of ((Below.refl _ _).alloc (by omega) _))) ?_ ?_
  · rw [Below.heap_alloc _ _ _ (by omega)]; exact hb
  · exact heap_at _ _ _ hsz.symm

/-- The pool's members' blocks. -/
def pmf (gb j : Nat) : Nat := if j = 0 then gb - 1 else gb + j
/-- Behind the rounds that make the members. -/
structure RelP (V : World) (gb : Nat) (M0 : Array Value) (k : Nat) (wr : World) : Prop where
  size : wr.heap.size = gb + k
  kept : KeptX (· = gb) (gb + 1) V wr
  mems : ∀ j, 0 < j → j < k → wr.heap[gb + j]? = some (.cells M0 54 (0, 0))
  row : ∃ arr : Array Value, wr.heap[gb]? = some (.cells arr 55 (0, 0)) ∧ arr.size = 5 ∧ ∀ j, j < k → arr[j]? = some (.pointer (some ⟨pmf gb j, 0, none⟩))
theorem RelP.step {V : World} {gb : Nat} {M0 : Array Value} {k : Nat} {wr : World} (h : RelP V gb M0 k wr) (h0 : 0 < k) (hk : k < 5) :
    RelP V gb M0 (k + 1) ((wr.setCell ⟨gb, k, none⟩ (.pointer (some ⟨gb + k, 0, none⟩))).alloc (.cells M0 54)) := by
  obtain ⟨arr, a1, a2, a3⟩ := h.row
  have hs := h.size
  have hsz : (wr.setCell ⟨gb, k, none⟩ (.pointer (some ⟨gb + k, 0, none⟩))).heap.size = wr.heap.size := Array.size_modify
  have hne : ∀ j, j ≠ gb → (wr.setCell ⟨gb, k, none⟩ (.pointer (some ⟨gb + k, 0, none⟩))).heap[j]? = wr.heap[j]? := fun j hj => Below.heap_setCell wr ⟨gb, k, none⟩ _ j hj
  have hgb := heap_setCell_at (i := k) a1 (.pointer (some ⟨gb + k, 0, none⟩))
  have hk1 : KeptX (· = gb) (gb + 1) V (wr.setCell ⟨gb, k, none⟩ (.pointer (some ⟨gb + k, 0, none⟩))) := h.kept.trans (KeptX.setCell wr _ _ rfl)
  have hrg := h.mems
  clear h
  generalize (wr.setCell ⟨gb, k, none⟩ (.pointer (some ⟨gb + k, 0, none⟩))) = w1 at *
  have hal : ∀ i, i < w1.heap.size → (w1.alloc (.cells M0 54)).heap[i]? = w1.heap[i]? := fun i hi => Below.heap_alloc w1 _ i hi
  refine ⟨?_, ?_, fun j hj1 hj => ?_, _, (hal gb (by omega)).trans hgb, by simp [a2], fun j hj => ?_⟩
  · have e : (w1.alloc (.cells M0 54)).heap.size = w1.heap.size + 1 := by simp
    omega
  · exact hk1.trans (KeptX.of (((Below.refl (gb + 1) w1).alloc (by omega) _)))
  · by_cases hjk : j = k
    · subst hjk
      exact heap_at w1 _ _ (by omega)
    · rw [hal _ (by omega), hne _ (by omega)]
      exact hrg j hj1 (by omega)
  · by_cases hjk : j = k
    · subst hjk
      simp [a2, hk, pmf]
      intro h; omega
    · rw [Array.getElem?_setIfInBounds_ne (Ne.symm hjk)]
      exact a3 j (by omega)

/-- A row of the call's own that is filled from its head on. -/
structure RowG (w0 : World) (gb n : Nat) (l : List Value) (wr : World) : Prop where
  le : w0.heap.size ≤ wr.heap.size
  kept : KeptX (· = gb) w0.heap.size w0 wr
  row : ∀ i v, l[i]? = some v → wr.cell? ⟨gb, i, none⟩ = some v
  there : ∀ i, i < n → (wr.cell? ⟨gb, i, none⟩).isSome = true
  frozen : ∀ i, i < n → wr.frozen? ⟨gb, i, none⟩ = false
theorem RowG.start {w0 : World} {gb n : Nat} {arr : Array Value} {t : TypeId} (h : w0.heap[gb]? = some (.cells arr t (0, 0))) (hs : arr.size = n) : RowG w0 gb n [] w0 :=
  ⟨Nat.le_refl _, KeptX.refl _ _ _, fun i v h => by simp at h, fun i hi => by rw [cell_of_row _ _ _ _ t (0, 0) h]; simp [hs, hi], fun i _ => frozen_row h i⟩
theorem RowG.alloc {w0 : World} {gb n : Nat} {l : List Value} {wr : World} (h : RowG w0 gb n l wr) (hg : gb < wr.heap.size) (o : Obj) : RowG w0 gb n l (wr.alloc o) := by
  have hb : (wr.alloc o).heap[gb]? = wr.heap[gb]? := Below.heap_alloc _ _ _ hg
  have hc : ∀ i, (wr.alloc o).cell? ⟨gb, i, none⟩ = wr.cell? ⟨gb, i, none⟩ := fun i => World.cell?_of_block (w := wr) hb
  refine ⟨by have := h.le; simp; omega, h.kept.trans (KeptX.of ((Below.refl _ _).alloc h.le _)), fun i v hv => (hc i).trans (h.row i v hv), fun i hi => by rw [hc]; exact h.there i hi, fun i hi => (World.frozen?_of_block (w := wr) hb).trans (h.frozen i hi)⟩
theorem RowG.push {w0 : World} {gb n : Nat} {l : List Value} {wr : World} (h : RowG w0 gb n l wr) (hl : l.length < n) (v : Value) : RowG w0 gb n (l ++ [v]) (wr.setCell ⟨gb, l.length, none⟩ v) := by
  have ho : ∀ i, i ≠ l.length → (wr.setCell ⟨gb, l.length, none⟩ v).cell? ⟨gb, i, none⟩ = wr.cell? ⟨gb, i, none⟩ := fun i hne => World.cell?_setCell_other _ _ _ _ (fun e => hne (congrArg Addr.off e).symm)
  obtain ⟨u, hu⟩ := Option.isSome_iff_exists.1 (h.there _ hl)
  have hi := World.cell?_setCell_same wr _ v hu
  refine ⟨Nat.le_trans h.le (Nat.le_of_eq Array.size_modify.symm), h.kept.trans (KeptX.setCell _ _ _ rfl), fun i x hx => ?_, fun i hn => ?_, fun i hn => (World.frozen?_setCell ..).trans (h.frozen i hn)⟩
  · by_cases hii : i < l.length
    · rw [List.getElem?_append_left hii] at hx
      rw [ho i (by omega)]
      exact h.row i x hx
    · rw [List.getElem?_append_right (by omega)] at hx
      obtain ⟨h1, h2⟩ := List.getElem?_eq_some_iff.1 hx
      simp at h1 h2
      obtain rfl : i = l.length := by omega
      subst h2
      exact hi
  · by_cases hii : i = l.length
    · subst hii; rw [hi]; rfl
    · rw [ho i hii]; exact h.there i hn
def ptrs (f : Nat → Nat) (k : Nat) : List Value := (List.range k).map fun j => .pointer (some ⟨f j, 0, none⟩)
theorem ptrs_len (f : Nat → Nat) (k : Nat) : (ptrs f k).length = k := by simp [ptrs]
theorem ptrs_succ (f : Nat → Nat) (k : Nat) : ptrs f (k + 1) = ptrs f k ++ [.pointer (some ⟨f k, 0, none⟩)] := by simp [ptrs, List.range_succ]
theorem ptrs_at (f : Nat → Nat) {k i : Nat} (h : i < k) : (ptrs f k)[i]? = some (.pointer (some ⟨f i, 0, none⟩)) := by simp [ptrs, h]

theorem copy31 (W : World) (ty : TypeId) (d s n : Nat) (cs : List Value) (arr : Array Value) (t : TypeId) (hl : cs.length = n) (hsrc : ∀ j v, cs[j]? = some v → W.cell? ⟨s, j, none⟩ = some v) (hd : W.heap[d]? = some (.cells arr t (0, 0))) (ha : arr.size = n) (h1 : ∀ v ∈ cs, v.oneCell' = true) :
    (Builtin.copy_ #[31, 31] ty #[.slice (some ⟨d, 0, none⟩) n n, .slice (some ⟨s, 0, none⟩) n n]).run Ybaz.prog W = .ok (goInt n) (W.setCells d 0 cs) := by
  obtain ⟨i, hi, hz, hs, hb⟩ := info_parts inf51
  have hlen : cs.length = n := hl
  have := run_copy_cells (P := Ybaz.prog) W 31 31 ty 51 d 0 n n ⟨s, 0, none⟩ n n cs Ybaz.underlying31 (by rw [hi, Option.map_some, hs]) (by rw [hlen]; exact (Nat.min_self n).symm) (fun j v hv => by
    have e : (⟨s, 0, none⟩ : Addr).add j = ⟨s, j, none⟩ := by unfold Addr.add; split <;> simp_all
    rw [e]; exact hsrc j v hv) (fun j hj => by
    rw [cell_of_row _ _ _ _ t (0, 0) hd]
    have : 0 + j < arr.size := by omega
    simp only [Array.getElem?_eq_getElem this, Option.isSome_some]) (fun j hj => frozen_row hd _) h1
  rw [hlen] at this
  exact this
theorem code_copy {c : Code} {Q : Exit → Act → World → Prop} {a : Act} (w : World) (fb i n : Nat) (v : Value) (cs : List Value) (b1 : Array Value) (o2 : Obj) (arr : Array Value) (t : TypeId) (hfb : w.heap[fb]? = some (.cells arr t (0, 0))) (hn : cs.length = n) (hb : b1.size = n)
    (h : ∀ W, W.heap.size = w.heap.size + 1 + 1 → KeptX (· = fb) w.heap.size w W → W.heap[fb]? = some (.cells (arr.setIfInBounds i v) t (0, 0)) → (∀ j u, cs[j]? = some u → W.cell? ⟨w.heap.size, j, none⟩ = some u) → (∀ j, W.frozen? ⟨w.heap.size, j, none⟩ = false) → W.heap[w.heap.size + 1]? = some o2 → Code.wp Ybaz.prog c Q a W) :
    Code.wp Ybaz.prog c Q a ((((w.setCell ⟨fb, i, none⟩ v).alloc (.cells b1 51)).setCells w.heap.size 0 cs).alloc o2) := by
  have hlt : fb < w.heap.size := (Array.getElem?_eq_some_iff.1 hfb).1
  have hsz : (w.setCell ⟨fb, i, none⟩ v).heap.size = w.heap.size := Array.size_modify
  have hk : KeptX (· = fb) w.heap.size w (w.setCell ⟨fb, i, none⟩ v) := KeptX.setCell w _ _ rfl
  have hbb := heap_setCell_at (i := i) hfb v
  generalize (w.setCell ⟨fb, i, none⟩ v) = w1 at *
  have hA : (w1.alloc (.cells b1 51)).heap[w.heap.size]? = some (.cells b1 51 (0, 0)) := heap_at _ _ _ hsz.symm
  have hAs : (w1.alloc (.cells b1 51)).heap.size = w.heap.size + 1 := by simp [hsz]
  have hAk : KeptX (· = fb) w.heap.size w (w1.alloc (.cells b1 51)) := hk.trans (KeptX.of ((Below.refl _ _).alloc (by omega) _))
  have hAf : (w1.alloc (.cells b1 51)).heap[fb]? = some (.cells (arr.setIfInBounds i v) t (0, 0)) := (Below.heap_alloc _ _ _ (by omega)).trans hbb
  generalize (w1.alloc (.cells b1 51)) = w2 at *
  have hin := World.cell?_setCells_in w.heap.size cs 0 w2 (fun j hj => by
    have hj' : j < n := by simpa [hn] using hj
    rw [cell_of_row _ _ _ _ 51 (0, 0) hA]
    simp [hb, hj'])
  have hfr : ∀ j, (w2.setCells w.heap.size 0 cs).frozen? ⟨w.heap.size, j, none⟩ = false := fun j => (World.frozen?_setCells ..).trans (frozen_row hA j)
  have hs3 : (w2.setCells w.heap.size 0 cs).heap.size = w.heap.size + 1 := (size_setCells _ _ _ _).trans hAs
  have hk3 : KeptX (· = fb) w.heap.size w (w2.setCells w.heap.size 0 cs) := ⟨(World.os_setCells ..).trans hAk.os, (World.output_setCells ..).trans hAk.output, by omega, fun k hk hx => (World.heap_setCells_other w2 _ _ _ (by omega) (by omega)).trans (hAk.block k hk hx)⟩
  have hf3 : (w2.setCells w.heap.size 0 cs).heap[fb]? = some (.cells (arr.setIfInBounds i v) t (0, 0)) := (World.heap_setCells_other w2 _ _ _ (by omega) (by omega)).trans hAf
  generalize (w2.setCells w.heap.size 0 cs) = w3 at *
  have hal : ∀ i, i < w3.heap.size → (w3.alloc o2).heap[i]? = w3.heap[i]? := fun i hi => Below.heap_alloc w3 _ i hi
  refine h _ (by simp [hs3]) (hk3.trans (KeptX.of ((Below.refl _ _).alloc (by omega) _))) ((hal _ (by omega)).trans hf3) (fun j u hu => ?_) (fun j => ?_) (heap_at _ _ _ hs3.symm)
  · rw [World.cell?_of_block (w := w3) (hal w.heap.size (by omega))]
    obtain ⟨hj, e⟩ := List.getElem?_eq_some_iff.1 hu
    have := hin j hj
    rw [Nat.zero_add] at this
    rw [this, e]
  · rw [World.frozen?_of_block (w := w3) (hal w.heap.size (by omega))]
    exact hfr j

/-- Trade i as the law makes it. -/
def trC (sb ob : Nat) (swo : Nat → Int) (gu : Nat → Bool) (i : Nat) : Array Value :=
  if (swo i % 3 == 0) = true then (z63.setIfInBounds 14 (.bool (gu i))).setIfInBounds 4 (.pointer (some ⟨sb, 0, none⟩)) else if (swo i % 3 == 1) = true then (z63.setIfInBounds 14 (.bool (gu i))).setIfInBounds 4 (.pointer (some ⟨ob, 0, none⟩)) else z63.setIfInBounds 14 (.bool (gu i))
theorem trC_0 {sb ob : Nat} {swo : Nat → Int} {gu : Nat → Bool} {i : Nat} (h : (swo i % 3 == 0) = true) : trC sb ob swo gu i = (z63.setIfInBounds 14 (.bool (gu i))).setIfInBounds 4 (.pointer (some ⟨sb, 0, none⟩)) := if_pos h
theorem trC_1 {sb ob : Nat} {swo : Nat → Int} {gu : Nat → Bool} {i : Nat} (h : (swo i % 3 == 0) = false) (h1 : (swo i % 3 == 1) = true) : trC sb ob swo gu i = (z63.setIfInBounds 14 (.bool (gu i))).setIfInBounds 4 (.pointer (some ⟨ob, 0, none⟩)) := (if_neg (by simp [h])).trans (if_pos h1)
theorem trC_2 {sb ob : Nat} {swo : Nat → Int} {gu : Nat → Bool} {i : Nat} (h : (swo i % 3 == 0) = false) (h1 : (swo i % 3 == 1) = false) : trC sb ob swo gu i = z63.setIfInBounds 14 (.bool (gu i)) := (if_neg (by simp [h])).trans (if_neg (by simp [h1]))
def apT (sb ob : Nat) (swo : Nat → Int) (i : Nat) : Option Addr := if (swo i % 3 == 0) = true then some ⟨sb, 0, none⟩ else if (swo i % 3 == 1) = true then some ⟨ob, 0, none⟩ else none
theorem trC_cells (sb ob : Nat) (swo : Nat → Int) (gu : Nat → Bool) (i : Nat) : (trC sb ob swo gu i)[4]? = some (.pointer (apT sb ob swo i)) ∧ (trC sb ob swo gu i)[14]? = some (.bool (gu i)) := by
  unfold apT
  cases e0 : (swo i % 3 == 0) with
  | true => rw [trC_0 e0, if_pos rfl]; exact ⟨rfl, rfl⟩
  | false =>
    rw [if_neg (by simp)]
    cases e1 : (swo i % 3 == 1) with
    | true => rw [trC_1 e0 e1, if_pos rfl]; exact ⟨rfl, rfl⟩
    | false => rw [trC_2 e0 e1, if_neg (by simp)]; exact ⟨rfl, rfl⟩
def blk (swo : Nat → Int) (gu : Nat → Bool) (j : Nat) : Bool := (List.range j).any fun i => (swo i % 3 == 0) && !gu i
theorem blk_succ (swo : Nat → Int) (gu : Nat → Bool) (j : Nat) : blk swo gu (j + 1) = (blk swo gu j || ((swo j % 3 == 0) && !gu j)) := by
  unfold blk
  rw [List.range_succ, List.any_append]
  simp
/-- Behind the rounds that make the trades. -/
structure RelT (W3 : World) (tb q sb ob : Nat) (swo : Nat → Int) (gu : Nat → Bool) (j : Nat) (wr : World) : Prop where
  size : wr.heap.size = W3.heap.size + 3 * j
  g : RowG W3 tb q (ptrs (fun i => W3.heap.size + 3 * i + 1) j) wr
  tr : ∀ i, i < j → wr.heap[W3.heap.size + 3 * i + 1]? = some (.cells (trC sb ob swo gu i) 63 (0, 0))
theorem RelT.step {W3 : World} {tb q sb ob : Nat} {swo : Nat → Int} {gu : Nat → Bool} {j : Nat} {wr : World} (h : RelT W3 tb q sb ob swo gu j wr) (hj : j < q) (htb : tb < W3.heap.size) (o1 o3 : Obj) {C : Array Value} (hC : C = trC sb ob swo gu j) :
    RelT W3 tb q sb ob swo gu (j + 1) ((((wr.setCell ⟨tb, j, none⟩ (.pointer (some ⟨wr.heap.size + 1, 0, none⟩))).alloc o1).alloc (.cells C 63)).alloc o3) := by
  have hs := h.size
  have hg := h.g.push (by rw [ptrs_len]; exact hj) (.pointer (some ⟨wr.heap.size + 1, 0, none⟩))
  rw [ptrs_len] at hg
  have hsz : (wr.setCell ⟨tb, j, none⟩ (.pointer (some ⟨wr.heap.size + 1, 0, none⟩))).heap.size = wr.heap.size := Array.size_modify
  have hne : ∀ i, i ≠ tb → (wr.setCell ⟨tb, j, none⟩ (.pointer (some ⟨wr.heap.size + 1, 0, none⟩))).heap[i]? = wr.heap[i]? := fun i hi => Below.heap_setCell wr ⟨tb, j, none⟩ _ i hi
  have htr := h.tr
  have hp : ptrs (fun i => W3.heap.size + 3 * i + 1) (j + 1) = ptrs (fun i => W3.heap.size + 3 * i + 1) j ++ [.pointer (some ⟨wr.heap.size + 1, 0, none⟩)] := by rw [ptrs_succ, hs]
  clear h
  generalize (wr.setCell ⟨tb, j, none⟩ (.pointer (some ⟨wr.heap.size + 1, 0, none⟩))) = w1 at *
  have hal1 : ∀ i, i < w1.heap.size → (w1.alloc o1).heap[i]? = w1.heap[i]? := fun i hi => Below.heap_alloc w1 _ i hi
  have hs1 : (w1.alloc o1).heap.size = w1.heap.size + 1 := by simp
  have hg1 := hg.alloc (by omega) o1
  generalize (w1.alloc o1) = w2 at *
  have hal2 : ∀ i, i < w2.heap.size → (w2.alloc (.cells C 63)).heap[i]? = w2.heap[i]? := fun i hi => Below.heap_alloc w2 _ i hi
  have hs2 : (w2.alloc (.cells C 63)).heap.size = w2.heap.size + 1 := by simp
  have hn2 : (w2.alloc (.cells C 63)).heap[w2.heap.size]? = some (.cells C 63 (0, 0)) := heap_at _ _ _ rfl
  have hg2 := hg1.alloc (by omega) (.cells C 63)
  generalize (w2.alloc (.cells C 63)) = w3 at *
  have hal3 : ∀ i, i < w3.heap.size → (w3.alloc o3).heap[i]? = w3.heap[i]? := fun i hi => Below.heap_alloc w3 _ i hi
  have hs3 : (w3.alloc o3).heap.size = w3.heap.size + 1 := by simp
  refine ⟨by omega, by rw [hp]; exact hg2.alloc (by omega) o3, fun i hi => ?_⟩
  by_cases hij : i = j
  · subst hij
    rw [hal3 _ (by omega), ← hC, show W3.heap.size + 3 * i + 1 = w2.heap.size by omega]
    exact hn2
  · rw [hal3 _ (by omega), hal2 _ (by omega), hal1 _ (by omega), hne _ (by omega)]
    exact htr i (by omega)
end Go.Proofs.YbulkbkkwGreatDoor
