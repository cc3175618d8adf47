/-
  LawS3064CLetGo: what letGo finds as the law calls it.
-/
import Derived.Test.YbulkbkkwGreatDoorLawA
namespace Go.Proofs.YbulkbkkwGreatDoor
open Go.RowKit
set_option linter.unusedVariables false

set_option maxRecDepth 100000 in
theorem scene_of (N : Nat) (V w5 w6 W3 w7 W4 : World) (j k : Nat) (par swo : Nat → Int) (gu : Nat → Bool) (x : Int) (lv : Bool) (hx : 0 ≤ x ∧ x ≤ 255) (hk : k ≤ 1024) (hj : j ≤ 1024) (hpar : ∀ i, 0 ≤ par i ∧ par i ≤ 255)
    (v1 : V.heap[N + 1]? = some (.cells ((z45.setIfInBounds 0 (.string ⟨#[112]⟩)).setIfInBounds 7 (.pointer (some ⟨N, 0, none⟩))) 45 (0, 0))) (v3 : V.heap[N + 1 + 1 + 1]? = some (.cells (z50.setIfInBounds 0 (.string ⟨#[111]⟩)) 50 (0, 0))) (v4 : V.heap[N + 1 + 1 + 1 + 1]? = some (.cells ((((z54.setIfInBounds 0 (.pointer (some ⟨N + 1, 0, none⟩))).setIfInBounds 1 (.pointer (some ⟨N + 1 + 1, 0, none⟩))).setIfInBounds 7 (.bool true)).setIfInBounds 8 (.bool lv)) 54 (0, 0)))
    (HR : RelP V (N + 1 + 1 + 1 + 1 + 1) (((z54.setIfInBounds 0 (.pointer (some ⟨N + 1, 0, none⟩))).setIfInBounds 1 (.pointer (some ⟨N + 1 + 1, 0, none⟩))).setIfInBounds 7 (.bool true)) 5 w5) (hlow : ∀ i, i < ((N + 1 + 1 + 1 + 1 + 1) + 5) → i ≠ N + 1 + 1 → w6.heap[i]? = w5.heap[i]?) (hg6 : ((N + 1 + 1 + 1 + 1 + 1) + 5) + 1 ≤ w6.heap.size)
    (hs3 : W3.heap.size = w6.heap.size + 1 + 1) (hk3 : KeptX (· = N + 1 + 1) w6.heap.size w6 W3) (hS3 : W3.heap[N + 1 + 1]? = some (.cells (((z50.setIfInBounds 0 (.string ⟨#[115]⟩)).setIfInBounds 7 (.slice (some ⟨(N + 1 + 1 + 1 + 1 + 1), 0, none⟩) 5 5)).setIfInBounds 8 (.slice (some ⟨w6.heap.size, 0, none⟩) k k)) 50 (0, 0))) (hrow3 : ∀ i u, (ptrs (fun i => pmf (N + 1 + 1 + 1 + 1 + 1) (par i % 5).toNat) k)[i]? = some u → W3.cell? ⟨w6.heap.size, i, none⟩ = some u) (hfr3 : ∀ i, W3.frozen? ⟨w6.heap.size, i, none⟩ = false)
    (HT : RelT W3 (w6.heap.size + 1) j (N + 1 + 1) (N + 1 + 1 + 1) swo gu j w7) (hs4 : W4.heap.size = w7.heap.size + 1) (hk4 : KeptX (· = N) w7.heap.size w7 W4) (hA4 : W4.heap[N]? = some (.cells ((z28.setIfInBounds 0 (.string ⟨#[112]⟩)).setIfInBounds 5 (.slice (some ⟨w6.heap.size + 1, 0, none⟩) j j)) 28 (0, 0))) (hN4 : W4.heap[w7.heap.size]? = some (.cells (nodeC (.int .i64 (x % 8))) 97 (0, 0))) :
    Scene w7.heap.size (N + 1 + 1 + 1 + 1) (N + 1) (N + 1 + 1) N (w6.heap.size + 1) w6.heap.size (N + 1 + 1 + 1 + 1 + 1) j k (x % 8).toNat lv (pmf (N + 1 + 1 + 1 + 1 + 1)) (fun i => W3.heap.size + 3 * i + 1) (fun i => pmf (N + 1 + 1 + 1 + 1 + 1) (par i % 5).toNat) (apT (N + 1 + 1) (N + 1 + 1 + 1) swo) (fun i => swo i % 3 == 0) gu W4 := by
  have hT := HT.size
  have low : ∀ i, i < ((N + 1 + 1 + 1 + 1 + 1) + 5) → i ≠ N + 1 + 1 → i ≠ N → W4.heap[i]? = w5.heap[i]? := fun i h1 h2 h3 => (hk4.block i (by omega) h3).trans ((HT.g.kept.block i (by omega) (by omega)).trans ((hk3.block i (by omega) h2).trans (hlow i h1 h2)))
  have b1 : W4.heap[N + 1]? = some (.cells ((z45.setIfInBounds 0 (.string ⟨#[112]⟩)).setIfInBounds 7 (.pointer (some ⟨N, 0, none⟩))) 45 (0, 0)) := (low _ (by omega) (by omega) (by omega)).trans ((HR.kept.block _ (by omega) (by omega)).trans v1)
  have b3 : W4.heap[N + 1 + 1 + 1]? = some (.cells (z50.setIfInBounds 0 (.string ⟨#[111]⟩)) 50 (0, 0)) := (low _ (by omega) (by omega) (by omega)).trans ((HR.kept.block _ (by omega) (by omega)).trans v3)
  have b4 : W4.heap[N + 1 + 1 + 1 + 1]? = some (.cells ((((z54.setIfInBounds 0 (.pointer (some ⟨N + 1, 0, none⟩))).setIfInBounds 1 (.pointer (some ⟨N + 1 + 1, 0, none⟩))).setIfInBounds 7 (.bool true)).setIfInBounds 8 (.bool lv)) 54 (0, 0)) := (low _ (by omega) (by omega) (by omega)).trans ((HR.kept.block _ (by omega) (by omega)).trans v4)
  have bS : W4.heap[N + 1 + 1]? = some (.cells (((z50.setIfInBounds 0 (.string ⟨#[115]⟩)).setIfInBounds 7 (.slice (some ⟨(N + 1 + 1 + 1 + 1 + 1), 0, none⟩) 5 5)).setIfInBounds 8 (.slice (some ⟨w6.heap.size, 0, none⟩) k k)) 50 (0, 0)) := (hk4.block _ (by omega) (by omega)).trans ((HT.g.kept.block _ (by omega) (by omega)).trans hS3)
  have bm : ∀ i, 0 < i → i < 5 → W4.heap[(N + 1 + 1 + 1 + 1 + 1) + i]? = some (.cells (((z54.setIfInBounds 0 (.pointer (some ⟨N + 1, 0, none⟩))).setIfInBounds 1 (.pointer (some ⟨N + 1 + 1, 0, none⟩))).setIfInBounds 7 (.bool true)) 54 (0, 0)) := fun i h1 h2 => (low _ (by omega) (by omega) (by omega)).trans (HR.mems i h1 h2)
  obtain ⟨arr, a1, a2, a3⟩ := HR.row
  have bp : W4.heap[(N + 1 + 1 + 1 + 1 + 1)]? = some (.cells arr 55 (0, 0)) := (low _ (by omega) (by omega) (by omega)).trans a1
  have h54 : ∀ i, i < 5 → Is54 W4 (pmf (N + 1 + 1 + 1 + 1 + 1) i) := fun i hi => by
    unfold pmf
    by_cases h0 : i = 0
    · rw [if_pos h0]; exact ⟨_, b4⟩
    · rw [if_neg h0]; exact ⟨_, bm i (by omega) hi⟩
  have hpm : ∀ i, i < 5 → pmf (N + 1 + 1 + 1 + 1 + 1) i < ((N + 1 + 1 + 1 + 1 + 1) + 5) ∧ pmf (N + 1 + 1 + 1 + 1 + 1) i ≠ N + 1 + 1 := fun i hi => by
    unfold pmf
    by_cases h0 : i = 0
    · rw [if_pos h0]; omega
    · rw [if_neg h0]; omega
  have hp5 : ∀ i, (par i % 5).toNat < 5 := fun i => by have := hpar i; omega
  have hb6 : W4.heap[w6.heap.size]? = W3.heap[w6.heap.size]? := (hk4.block _ (by omega) (by omega)).trans (HT.g.kept.block _ (by omega) (by omega))
  exact {
    nd5 := (cell_of_row _ _ _ _ 97 (0, 0) hN4).trans (nodeC_5 _)
    nd12 := by rw [cell_of_row _ _ _ _ 97 (0, 0) hN4, nodeC_12, show (((x % 8).toNat : Nat) : Int) = x % 8 by omega]
    M := ⟨_, b4, rfl, rfl, rfl, rfl, rfl⟩
    nb7 := (cell_of_row _ _ _ _ 45 (0, 0) b1).trans rfl
    ac5 := (cell_of_row _ _ _ _ 28 (0, 0) hA4).trans rfl
    S := ⟨_, bS, rfl, rfl⟩
    pl := fun i hi => (cell_of_row _ _ _ _ 55 (0, 0) bp).trans (a3 i hi)
    pm0 := by simp [pmf]
    pmne := fun i h0 hi => by
      have h0' : ¬ i = 0 := by omega
      unfold pmf
      rw [if_neg h0']
      omega
    mem := fun i h0 hi => by
      have h0' : ¬ i = 0 := by omega
      unfold pmf
      rw [if_neg h0']
      exact ⟨(cell_of_row _ _ _ _ 54 (0, 0) (bm i h0 hi)).trans rfl, (cell_of_row _ _ _ _ 54 (0, 0) (bm i h0 hi)).trans rfl, (cell_of_row _ _ _ _ 54 (0, 0) (bm i h0 hi)).trans rfl⟩
    row := fun i hi => (World.cell?_of_block (w := W3) hb6).trans (hrow3 i _ (ptrs_at _ hi))
    rowf := fun i hi => (World.frozen?_of_block (w := W3) hb6).trans (hfr3 i)
    x54 := fun i hi => h54 _ (hp5 i)
    xpb := fun i hi => by have := (hpm _ (hp5 i)).1; omega
    tr := fun i hi => by
      have htr : W4.heap[W3.heap.size + 3 * i + 1]? = some (.cells (trC (N + 1 + 1) (N + 1 + 1 + 1) swo gu i) 63 (0, 0)) := (hk4.block _ (by omega) (by omega)).trans (HT.tr i hi)
      exact ⟨(World.cell?_of_block (w := w7) (hk4.block (w6.heap.size + 1) (by omega) (by omega))).trans (HT.g.row i _ (ptrs_at _ hi)), (cell_of_row _ _ _ _ 63 (0, 0) htr).trans (trC_cells _ _ _ _ _).1, (cell_of_row _ _ _ _ 63 (0, 0) htr).trans (trC_cells _ _ _ _ _).2⟩
    teq := fun i hi wr hwr => by
      have hs : wr.heap[N + 1 + 1]? = some (.cells (((z50.setIfInBounds 0 (.string ⟨#[115]⟩)).setIfInBounds 7 (.slice (some ⟨(N + 1 + 1 + 1 + 1 + 1), 0, none⟩) 5 5)).setIfInBounds 8 (.slice (some ⟨w6.heap.size, 0, none⟩) k k)) 50 (0, 0)) := (hwr _ (by omega)).trans bS
      have ho : wr.heap[N + 1 + 1 + 1]? = some (.cells (z50.setIfInBounds 0 (.string ⟨#[111]⟩)) 50 (0, 0)) := (hwr _ (by omega)).trans b3
      unfold apT
      cases e0 : (swo i % 3 == 0) with
      | true => rw [if_pos rfl]; exact eq46_same _ wr
      | false =>
        rw [if_neg (by simp)]
        cases e1 : (swo i % 3 == 1) with
        | true => rw [if_pos rfl]; exact eq46_other _ _ wr (by omega) hs ho
        | false => rw [if_neg (by simp)]; exact eq46_none _ wr
    ne := by refine ⟨?_, ?_, ?_, ?_, ?_, ?_, ?_, ?_, ?_⟩ <;> omega
    pbl := by omega
    nle := hk
    qle := hj }

/-- What the law looks at behind letGo. -/
structure After (N gb bb pb tb j k len : Nat) (p7 l8 : Bool) (xb : Nat → Nat) (l : List Nat) (w w8 : World) : Prop where
  ac5 : w8.cell? ⟨N, 5, none⟩ = some (.slice (some ⟨tb, 0, none⟩) j j)
  pool : ∀ i, i < 5 → w8.cell? ⟨gb, i, none⟩ = some (.pointer (some ⟨pmf gb i, 0, none⟩))
  mem : ∀ i, 0 < i → i < 5 → w8.cell? ⟨pmf gb i, 7, none⟩ = some (.bool true) ∧ w8.cell? ⟨pmf gb i, 8, none⟩ = some (.bool false)
  m7 : w8.cell? ⟨N + 1 + 1 + 1 + 1, 7, none⟩ = some (.bool p7)
  m8 : w8.cell? ⟨N + 1 + 1 + 1 + 1, 8, none⟩ = some (.bool l8)
  s8 : w8.cell? ⟨N + 1 + 1, 8, none⟩ = some (.slice (some ⟨pb, 0, none⟩) len k)
  row : RowL w8 pb xb l
  bef : ∀ i, i < k → w8.cell? ⟨bb, i, none⟩ = some (.pointer (some ⟨xb i, 0, none⟩))
  x54 : ∀ i, i < k → Is54 w8 (xb i)
  m54 : Is54 w8 (N + 1 + 1 + 1 + 1)
  kept : KeptX (fun _ => False) N w w8
  lt : bb < w8.heap.size

set_option maxRecDepth 100000 in
theorem after_a (N : Nat) (V w5 w6 W3 w7 W4 : World) (j k : Nat) (par swo : Nat → Int) (gu : Nat → Bool) (x : Int) (lv : Bool) (hx : 0 ≤ x ∧ x ≤ 255) (hk : k ≤ 1024) (hj : j ≤ 1024) (hpar : ∀ i, 0 ≤ par i ∧ par i ≤ 255)
    (v1 : V.heap[N + 1]? = some (.cells ((z45.setIfInBounds 0 (.string ⟨#[112]⟩)).setIfInBounds 7 (.pointer (some ⟨N, 0, none⟩))) 45 (0, 0))) (v3 : V.heap[N + 1 + 1 + 1]? = some (.cells (z50.setIfInBounds 0 (.string ⟨#[111]⟩)) 50 (0, 0))) (v4 : V.heap[N + 1 + 1 + 1 + 1]? = some (.cells ((((z54.setIfInBounds 0 (.pointer (some ⟨N + 1, 0, none⟩))).setIfInBounds 1 (.pointer (some ⟨N + 1 + 1, 0, none⟩))).setIfInBounds 7 (.bool true)).setIfInBounds 8 (.bool lv)) 54 (0, 0)))
    (HR : RelP V (N + 1 + 1 + 1 + 1 + 1) (((z54.setIfInBounds 0 (.pointer (some ⟨N + 1, 0, none⟩))).setIfInBounds 1 (.pointer (some ⟨N + 1 + 1, 0, none⟩))).setIfInBounds 7 (.bool true)) 5 w5) (hlow : ∀ i, i < ((N + 1 + 1 + 1 + 1 + 1) + 5) → i ≠ N + 1 + 1 → w6.heap[i]? = w5.heap[i]?) (hg6 : ((N + 1 + 1 + 1 + 1 + 1) + 5) + 1 ≤ w6.heap.size)
    (hs3 : W3.heap.size = w6.heap.size + 1 + 1) (hk3 : KeptX (· = N + 1 + 1) w6.heap.size w6 W3) (hS3 : W3.heap[N + 1 + 1]? = some (.cells (((z50.setIfInBounds 0 (.string ⟨#[115]⟩)).setIfInBounds 7 (.slice (some ⟨(N + 1 + 1 + 1 + 1 + 1), 0, none⟩) 5 5)).setIfInBounds 8 (.slice (some ⟨w6.heap.size, 0, none⟩) k k)) 50 (0, 0))) (hrow3 : ∀ i u, (ptrs (fun i => pmf (N + 1 + 1 + 1 + 1 + 1) (par i % 5).toNat) k)[i]? = some u → W3.cell? ⟨w6.heap.size, i, none⟩ = some u) (hfr3 : ∀ i, W3.frozen? ⟨w6.heap.size, i, none⟩ = false)
    (HT : RelT W3 (w6.heap.size + 1) j (N + 1 + 1) (N + 1 + 1 + 1) swo gu j w7) (hs4 : W4.heap.size = w7.heap.size + 1) (hk4 : KeptX (· = N) w7.heap.size w7 W4) (hA4 : W4.heap[N]? = some (.cells ((z28.setIfInBounds 0 (.string ⟨#[112]⟩)).setIfInBounds 5 (.slice (some ⟨w6.heap.size + 1, 0, none⟩) j j)) 28 (0, 0))) (hN4 : W4.heap[w7.heap.size]? = some (.cells (nodeC (.int .i64 (x % 8))) 97 (0, 0))) (w w8 : World) (hN : w.heap.size = N) (hw : KeptX (fun _ => False) N w w7) (hbef : ∀ i, i < k → w7.cell? ⟨((N + 1 + 1 + 1 + 1 + 1) + 5), i, none⟩ = some (.pointer (some ⟨(fun i => pmf (N + 1 + 1 + 1 + 1 + 1) (par i % 5).toNat) i, 0, none⟩))) (h8 : KeptX (fun _ => False) W4.heap.size W4 w8) :
    After N (N + 1 + 1 + 1 + 1 + 1) ((N + 1 + 1 + 1 + 1 + 1) + 5) w6.heap.size (w6.heap.size + 1) j k k true lv (fun i => pmf (N + 1 + 1 + 1 + 1 + 1) (par i % 5).toNat) (List.range k) w w8 := by
  have S := scene_of N V w5 w6 W3 w7 W4 j k par swo gu x lv hx hk hj hpar v1 v3 v4 HR hlow hg6 hs3 hk3 hS3 hrow3 hfr3 HT hs4 hk4 hA4 hN4
  have hT := HT.size
  have hc : ∀ (a : Addr) v, W4.cell? a = some v → w8.cell? a = some v := fun a v h => (h8.cell (World.block_lt_of_cell? W4 _ h) (fun h => h)).trans h
  have hi : ∀ b, Is54 W4 b → Is54 w8 b := fun b h => by
    obtain ⟨C, hC⟩ := h
    exact ⟨C, (h8.block _ (Array.getElem?_eq_some_iff.1 hC).1 (fun h => h)).trans hC⟩
  obtain ⟨CM, hM, _, _, _, _, hM8⟩ := S.M
  obtain ⟨CS, hS, hS7, hS8⟩ := S.S
  have b4 : W4.heap[N + 1 + 1 + 1 + 1]? = some (.cells ((((z54.setIfInBounds 0 (.pointer (some ⟨N + 1, 0, none⟩))).setIfInBounds 1 (.pointer (some ⟨N + 1 + 1, 0, none⟩))).setIfInBounds 7 (.bool true)).setIfInBounds 8 (.bool lv)) 54 (0, 0)) := (hk4.block _ (by omega) (by omega)).trans ((HT.g.kept.block _ (by omega) (by omega)).trans ((hk3.block _ (by omega) (by omega)).trans ((hlow _ (by omega) (by omega)).trans ((HR.kept.block _ (by omega) (by omega)).trans v4))))
  exact {
    ac5 := hc _ _ S.ac5
    pool := fun i hi => hc _ _ (S.pl i hi)
    mem := fun i h0 hi => ⟨hc _ _ (S.mem i h0 hi).2.1, hc _ _ (S.mem i h0 hi).2.2⟩
    m7 := hc _ _ ((cell_of_row _ _ _ _ 54 (0, 0) b4).trans rfl)
    m8 := hc _ _ ((cell_of_row _ _ _ _ 54 (0, 0) b4).trans rfl)
    s8 := hc _ _ ((cell_of_row _ _ _ _ 50 (0, 0) hS).trans hS8)
    row := fun i t h => by
      obtain ⟨h1, h2⟩ := List.getElem?_eq_some_iff.1 h
      simp at h1 h2
      subst h2
      exact hc _ _ (S.row i h1)
    bef := fun i hi => hc _ _ ((World.cell?_of_block (w := w7) (hk4.block ((N + 1 + 1 + 1 + 1 + 1) + 5) (by omega) (by omega))).trans (hbef i hi))
    x54 := fun i h => hi _ (S.x54 i h)
    m54 := hi _ ⟨_, hM⟩
    kept := (hw.trans (hk4.lift (by omega) (fun x h => by omega))).trans (h8.lift (by omega) (fun x h => h.elim))
    lt := by have := h8.size; omega }

set_option maxRecDepth 100000 in
theorem after_b (N : Nat) (V w5 w6 W3 w7 W4 : World) (j k : Nat) (par swo : Nat → Int) (gu : Nat → Bool) (x : Int) (lv : Bool) (hx : 0 ≤ x ∧ x ≤ 255) (hk : k ≤ 1024) (hj : j ≤ 1024) (hpar : ∀ i, 0 ≤ par i ∧ par i ≤ 255)
    (v1 : V.heap[N + 1]? = some (.cells ((z45.setIfInBounds 0 (.string ⟨#[112]⟩)).setIfInBounds 7 (.pointer (some ⟨N, 0, none⟩))) 45 (0, 0))) (v3 : V.heap[N + 1 + 1 + 1]? = some (.cells (z50.setIfInBounds 0 (.string ⟨#[111]⟩)) 50 (0, 0))) (v4 : V.heap[N + 1 + 1 + 1 + 1]? = some (.cells ((((z54.setIfInBounds 0 (.pointer (some ⟨N + 1, 0, none⟩))).setIfInBounds 1 (.pointer (some ⟨N + 1 + 1, 0, none⟩))).setIfInBounds 7 (.bool true)).setIfInBounds 8 (.bool lv)) 54 (0, 0)))
    (HR : RelP V (N + 1 + 1 + 1 + 1 + 1) (((z54.setIfInBounds 0 (.pointer (some ⟨N + 1, 0, none⟩))).setIfInBounds 1 (.pointer (some ⟨N + 1 + 1, 0, none⟩))).setIfInBounds 7 (.bool true)) 5 w5) (hlow : ∀ i, i < ((N + 1 + 1 + 1 + 1 + 1) + 5) → i ≠ N + 1 + 1 → w6.heap[i]? = w5.heap[i]?) (hg6 : ((N + 1 + 1 + 1 + 1 + 1) + 5) + 1 ≤ w6.heap.size)
    (hs3 : W3.heap.size = w6.heap.size + 1 + 1) (hk3 : KeptX (· = N + 1 + 1) w6.heap.size w6 W3) (hS3 : W3.heap[N + 1 + 1]? = some (.cells (((z50.setIfInBounds 0 (.string ⟨#[115]⟩)).setIfInBounds 7 (.slice (some ⟨(N + 1 + 1 + 1 + 1 + 1), 0, none⟩) 5 5)).setIfInBounds 8 (.slice (some ⟨w6.heap.size, 0, none⟩) k k)) 50 (0, 0))) (hrow3 : ∀ i u, (ptrs (fun i => pmf (N + 1 + 1 + 1 + 1 + 1) (par i % 5).toNat) k)[i]? = some u → W3.cell? ⟨w6.heap.size, i, none⟩ = some u) (hfr3 : ∀ i, W3.frozen? ⟨w6.heap.size, i, none⟩ = false)
    (HT : RelT W3 (w6.heap.size + 1) j (N + 1 + 1) (N + 1 + 1 + 1) swo gu j w7) (hs4 : W4.heap.size = w7.heap.size + 1) (hk4 : KeptX (· = N) w7.heap.size w7 W4) (hA4 : W4.heap[N]? = some (.cells ((z28.setIfInBounds 0 (.string ⟨#[112]⟩)).setIfInBounds 5 (.slice (some ⟨w6.heap.size + 1, 0, none⟩) j j)) 28 (0, 0))) (hN4 : W4.heap[w7.heap.size]? = some (.cells (nodeC (.int .i64 (x % 8))) 97 (0, 0))) (w w8 : World) (hN : w.heap.size = N) (hw : KeptX (fun _ => False) N w w7) (hbef : ∀ i, i < k → w7.cell? ⟨((N + 1 + 1 + 1 + 1 + 1) + 5), i, none⟩ = some (.pointer (some ⟨(fun i => pmf (N + 1 + 1 + 1 + 1 + 1) (par i % 5).toNat) i, 0, none⟩))) (h8 : LetGo (N + 1 + 1 + 1 + 1) (N + 1 + 1) w6.heap.size k (fun i => pmf (N + 1 + 1 + 1 + 1 + 1) (par i % 5).toNat) W4 w8) :
    After N (N + 1 + 1 + 1 + 1 + 1) ((N + 1 + 1 + 1 + 1 + 1) + 5) w6.heap.size (w6.heap.size + 1) j k (acts (fun i => !decide ((fun i => pmf (N + 1 + 1 + 1 + 1 + 1) (par i % 5).toNat) i = N + 1 + 1 + 1 + 1)) k).length false false (fun i => pmf (N + 1 + 1 + 1 + 1 + 1) (par i % 5).toNat) (acts (fun i => !decide ((fun i => pmf (N + 1 + 1 + 1 + 1 + 1) (par i % 5).toNat) i = N + 1 + 1 + 1 + 1)) k) w w8 := by
  have S := scene_of N V w5 w6 W3 w7 W4 j k par swo gu x lv hx hk hj hpar v1 v3 v4 HR hlow hg6 hs3 hk3 hS3 hrow3 hfr3 HT hs4 hk4 hA4 hN4
  have hT := HT.size
  have hne := S.ne
  have hc : ∀ (a : Addr) v, W4.cell? a = some v → a.block ≠ w6.heap.size → a.block ≠ N + 1 + 1 + 1 + 1 → a.block ≠ N + 1 + 1 → w8.cell? a = some v := fun a v h h1 h2 h3 => (h8.kept.cell (World.block_lt_of_cell? W4 _ h) (fun hx => by rcases hx with hx | hx | hx <;> contradiction)).trans h
  obtain ⟨CM, hM, _, _, _, _, hM8⟩ := S.M
  exact {
    ac5 := hc _ _ S.ac5 (by show ¬ N = _; omega) (by show ¬ N = _; omega) (by show ¬ N = _; omega)
    pool := fun i hi => hc _ _ (S.pl i hi) (by show ¬ (N + 1 + 1 + 1 + 1 + 1) = _; omega) (by show ¬ (N + 1 + 1 + 1 + 1 + 1) = _; omega) (by show ¬ (N + 1 + 1 + 1 + 1 + 1) = _; omega)
    mem := fun i h0 hi => ⟨hc _ _ (S.mem i h0 hi).2.1 (S.pmne i h0 hi).2.1 (S.pmne i h0 hi).1 (S.pmne i h0 hi).2.2, hc _ _ (S.mem i h0 hi).2.2 (S.pmne i h0 hi).2.1 (S.pmne i h0 hi).1 (S.pmne i h0 hi).2.2⟩
    m7 := h8.m7
    m8 := h8.m8
    s8 := h8.s8
    row := h8.row
    bef := fun i hi => hc _ _ ((World.cell?_of_block (w := w7) (hk4.block ((N + 1 + 1 + 1 + 1 + 1) + 5) (by omega) (by omega))).trans (hbef i hi)) (by show ¬ ((N + 1 + 1 + 1 + 1 + 1) + 5) = _; omega) (by show ¬ ((N + 1 + 1 + 1 + 1 + 1) + 5) = _; omega) (by show ¬ ((N + 1 + 1 + 1 + 1 + 1) + 5) = _; omega)
    x54 := fun i h => by
      obtain ⟨C, hC⟩ := S.x54 i h
      have hlt := (Array.getElem?_eq_some_iff.1 hC).1
      by_cases hm : (fun i => pmf (N + 1 + 1 + 1 + 1 + 1) (par i % 5).toNat) i = N + 1 + 1 + 1 + 1
      · have e : pmf (N + 1 + 1 + 1 + 1 + 1) (par i % 5).toNat = N + 1 + 1 + 1 + 1 := hm
        rw [e]; exact h8.mb
      · by_cases hs : (fun i => pmf (N + 1 + 1 + 1 + 1 + 1) (par i % 5).toNat) i = N + 1 + 1
        · exfalso
          have := S.x54 i h
          simp only [pmf] at hs
          split at hs <;> omega
        · exact ⟨C, (h8.kept.block _ hlt (fun hx => by rcases hx with hx | hx | hx; exact S.xpb i h hx; exact hm hx; exact hs hx)).trans hC⟩
    m54 := h8.mb
    kept := (hw.trans (hk4.lift (by omega) (fun x h => by omega))).trans (h8.kept.lift (by omega) (fun x h => by omega))
    lt := by have := h8.kept.size; omega }
end Go.Proofs.YbulkbkkwGreatDoor
