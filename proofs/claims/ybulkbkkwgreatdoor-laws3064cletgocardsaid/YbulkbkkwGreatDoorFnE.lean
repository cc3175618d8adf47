/-
  dropPartner (8); slices.Equal (5) where the two are equal.
-/
import Derived.Test.YbulkbkkwGreatDoorFnD
namespace Go.Proofs.YbulkbkkwGreatDoor
open Go.RowKit
set_option linter.unusedVariables false

theorem heap_at (w : World) (o : Obj) (k : Nat) (hk : k = w.heap.size) : (w.alloc o).heap[k]? = some o := by subst hk; exact heap_alloc_new w o
theorem heap_setCell_at {w : World} {b i : Nat} {arr : Array Value} {t : TypeId} {fr : Nat × Nat} (h : w.heap[b]? = some (.cells arr t fr)) (v : Value) : (w.setCell ⟨b, i, none⟩ v).heap[b]? = some (.cells (arr.setIfInBounds i v) t fr) := by
  simp only [World.setCell, Array.getElem?_modify, if_true, h, Option.map_some]
  simp
theorem frozen_row {w : World} {b : Nat} {arr : Array Value} {t : TypeId} (h : w.heap[b]? = some (.cells arr t (0, 0))) (i : Nat) : w.frozen? ⟨b, i, none⟩ = false := by
  unfold World.frozen?
  rw [h]
  simp

theorem equal5 (pa pb n ca cb : Nat) (xb : Nat → Nat) (w : World) (hn : n ≤ 1024) (ha : ∀ i, i < n → w.cell? ⟨pa, i, none⟩ = some (.pointer (some ⟨xb i, 0, none⟩))) (hb : ∀ i, i < n → w.cell? ⟨pb, i, none⟩ = some (.pointer (some ⟨xb i, 0, none⟩))) :
    Calls Ybaz.prog 5 #[.slice (some ⟨pa, 0, none⟩) n ca, .slice (some ⟨pb, 0, none⟩) n cb] w fun e w' => e = .returned (.bool true) ∧ Quiet w w' := by
  have HP : Hid _ := And.intro ha hb
  clear ha hb
  go_enter Ybaz.func5, Ybaz.ntmps5
  go_wp2_with fail
  go_loopw [13] (fun i wr => ∃ j : Nat, j ≤ n ∧ i = .int .i64 j ∧ Quiet w wr) (fun i _ => n - (intOf i).toNat)
  case atStart => exact ⟨0, Nat.zero_le _, rfl, Quiet.refl w⟩
  case round =>
    obtain ⟨j, hj, rfl, hq⟩ := hrel
    have HQ : Hid _ := hq
    clear hq
    by_cases hlt : j < n
    · have hk' : (j : Int) < n := by omega
      have hpa := (HQ.out.cell _).trans (HP.out.1 j hlt)
      have hpb := (HQ.out.cell _).trans (HP.out.2 j hlt)
      have hne : ∀ q, (binOp .neq 51 (.pointer (some ⟨xb j, 0, none⟩)) (.pointer (some ⟨xb j, 0, none⟩))).run Ybaz.prog (wr.drewN q) = .ok (.bool false) (wr.drewN q) := fun q => ne51_same _ _
      have hne0 := ne51_same (xb j) wr
      have hne1 := ne51_same (xb j) wr.drew
      go_wp2_with fail
      go_quiet (fail)
      go_wp2
      go_roundw
      · exact ⟨j + 1, by omega, by go_num, HQ.out.trans ⟨rfl, rfl, rfl⟩⟩
      · simp [intOf]; omega
    · obtain rfl : j = n := by omega
      have hkk : ¬ (j : Int) < j := by omega
      go_wp2
      go_ret
      exact ⟨rfl, HQ.out⟩

theorem calls_set1 {f : FuncId} {args : Array Value} {R : Ending → World → Prop} (w : World) (fb i : Nat) (v : Value) (o1 : Obj) (arr : Array Value) (t : TypeId) (hfb : w.heap[fb]? = some (.cells arr t (0, 0)))
    (h : ∀ W, W.heap.size = w.heap.size + 1 → KeptX (· = fb) w.heap.size w W → W.heap[fb]? = some (.cells (arr.setIfInBounds i v) t (0, 0)) → W.heap[w.heap.size]? = some o1 → Calls Ybaz.prog f args W R) :
    Calls Ybaz.prog f args ((w.setCell ⟨fb, i, none⟩ v).alloc o1) R := by
  have hlt : fb < w.heap.size := (Array.getElem?_eq_some_iff.1 hfb).1
  have hsz : (w.setCell ⟨fb, i, none⟩ v).heap.size = w.heap.size := Array.size_modify
  have hk : KeptX (· = fb) w.heap.size w (w.setCell ⟨fb, i, none⟩ v) := KeptX.setCell w _ _ rfl
  have hb := heap_setCell_at (i := i) hfb v
  generalize (w.setCell ⟨fb, i, none⟩ v) = w1 at *
  refine h _ (by simp [hsz]) (hk.trans (KeptX.of ((Below.refl _ _).alloc (by omega) _))) ?_ ?_
  · rw [Below.heap_alloc _ _ _ (by omega)]; exact hb
  · exact heap_at _ _ _ hsz.symm

/-- The world behind dropPartner. -/
structure Dropped (pb n m sb : Nat) (xb : Nat → Nat) (w w' : World) : Prop where
  kept : KeptX (fun x => x = pb ∨ x = m ∨ x = sb) w.heap.size w w'
  row : RowL w' pb xb (acts (fun i => !decide (xb i = m)) n)
  m7 : w'.cell? ⟨m, 7, none⟩ = some (.bool false)
  mo : ∀ l, l ≠ 7 → w'.cell? ⟨m, l, none⟩ = w.cell? ⟨m, l, none⟩
  s8 : w'.cell? ⟨sb, 8, none⟩ = some (.slice (some ⟨pb, 0, none⟩) (acts (fun i => !decide (xb i = m)) n).length n)
  so : ∀ l, l ≠ 8 → w'.cell? ⟨sb, l, none⟩ = w.cell? ⟨sb, l, none⟩
  mf : ∀ l, w'.frozen? ⟨m, l, none⟩ = false
  mb : Is54 w' m

theorem drop8 (pb n m sb : Nat) (xb : Nat → Nat) (w : World) (hn : n ≤ 1024) (CM : Array Value) (hM : w.heap[m]? = some (.cells CM 54 (0, 0))) (hM7 : 7 < CM.size) (CS : Array Value) (hS : w.heap[sb]? = some (.cells CS 50 (0, 0))) (hS8 : CS[8]? = some (.slice (some ⟨pb, 0, none⟩) n n)) (hmp : m ≠ pb) (hms : m ≠ sb) (hps : pb ≠ sb) (hpl : pb < w.heap.size)
    (hp : ∀ i, i < n → w.cell? ⟨pb, i, none⟩ = some (.pointer (some ⟨xb i, 0, none⟩))) (hfr : ∀ i, i < n → w.frozen? ⟨pb, i, none⟩ = false) (hx : ∀ i, i < n → Is54 w (xb i)) (hxp : ∀ i, i < n → xb i ≠ pb) :
    Calls Ybaz.prog 8 #[.pointer (some ⟨sb, 0, none⟩), .pointer (some ⟨m, 0, none⟩)] w fun e w' => e = .returned (.tuple #[]) ∧ Dropped pb n m sb xb w w' := by
  have hml := (Array.getElem?_eq_some_iff.1 hM).1
  have hsl := (Array.getElem?_eq_some_iff.1 hS).1
  have c7 : w.cell? ⟨m, 7, none⟩ = some CM[7] := (cell_of_row _ _ _ _ 54 (0, 0) hM).trans (by simp [hM7])
  have f7 := frozen_row hM 7
  have c8 : w.cell? ⟨sb, 8, none⟩ = some (.slice (some ⟨pb, 0, none⟩) n n) := (cell_of_row _ _ _ _ 50 (0, 0) hS).trans hS8
  have f8 := frozen_row hS 8
  have HP : Hid _ := And.intro hp (And.intro hfr (And.intro hx hxp))
  clear hp hfr hx hxp
  go_enter Ybaz.func8, Ybaz.ntmps8
  go_wp2_with fail
  refine calls_set1 w m 7 _ _ CM 54 hM (fun W hWs hWk hWm hWc => ?_)
  have hWS : W.heap[sb]? = some (.cells CS 50 (0, 0)) := (hWk.block sb hsl (Ne.symm hms)).trans hS
  have hWp : W.heap[pb]? = w.heap[pb]? := hWk.block pb hpl (Ne.symm hmp)
  have hWx : ∀ i, i < n → Is54 W (xb i) := fun i hi => by
    by_cases hxm : xb i = m
    · rw [hxm]; exact ⟨_, hWm⟩
    · obtain ⟨C, hC⟩ := HP.out.2.2.1 i hi
      exact ⟨C, (hWk.block _ (Array.getElem?_eq_some_iff.1 hC).1 hxm).trans hC⟩
  refine (del11 pb n w.heap.size m xb W hn ((cell_of_row _ _ _ _ 51 (0, 0) hWc).trans rfl) (by omega) ⟨_, hWm⟩ hmp (fun i hi => (World.cell?_of_block (w := w) hWp).trans (HP.out.1 i hi)) (fun i hi => (World.frozen?_of_block (w := w) hWp).trans (HP.out.2.1 i hi)) hWx HP.out.2.2.2).mono ?_
  rintro e w2 ⟨rfl, hrow, hk2⟩
  have hS2 : w2.heap[sb]? = some (.cells CS 50 (0, 0)) := (hk2.block sb (by omega) (Ne.symm hps)).trans hWS
  have hM2 : w2.heap[m]? = some (.cells (CM.setIfInBounds 7 (.bool false)) 54 (0, 0)) := (hk2.block m (by omega) hmp).trans hWm
  have c82 : w2.cell? ⟨sb, 8, none⟩ = some (.slice (some ⟨pb, 0, none⟩) n n) := (cell_of_row _ _ _ _ 50 (0, 0) hS2).trans hS8
  have f82 := frozen_row hS2 8
  have HR : Hid _ := And.intro hrow (And.intro hk2 (And.intro hS2 hM2))
  have HW : Hid _ := And.intro hWk hWs
  clear hrow hk2 hS2 hM2 c7 f7 c8 f8 hWk hWm hWc hWS hWp hWx hWs
  go_wp2
  refine Go.Great.bodyPost_end0 rfl rfl ⟨rfl, ?_⟩
  obtain ⟨hrow, hk2, hS2, hM2⟩ := HR.out
  obtain ⟨hWk, hWs⟩ := HW.out
  have hne : ∀ x, x ≠ sb → ∀ l, (w2.setCell ⟨sb, 8, none⟩ (.slice (some ⟨pb, 0, none⟩) (acts (fun i => !decide (xb i = m)) n).length n)).cell? ⟨x, l, none⟩ = w2.cell? ⟨x, l, none⟩ := fun x hx l => World.cell?_setCell_other _ _ _ _ (fun e => hx (congrArg Addr.block e).symm)
  have hkk : KeptX (fun x => x = pb ∨ x = m ∨ x = sb) w.heap.size w (w2.setCell ⟨sb, 8, none⟩ (.slice (some ⟨pb, 0, none⟩) (acts (fun i => !decide (xb i = m)) n).length n)) :=
    ((hWk.weak (fun x h => .inr (.inl h))).trans ((hk2.mono (by omega)).weak (fun x h => .inl h))).trans (KeptX.setCell _ _ _ (.inr (.inr rfl)))
  have hSs : 8 < CS.size := (Array.getElem?_eq_some_iff.1 hS8).1
  refine ⟨hkk, fun i t h => (hne pb hps i).trans (hrow i t h), ?_, fun l hl => ?_, ?_, fun l hl => ?_, fun l => (World.frozen?_setCell ..).trans (frozen_row hM2 l), ⟨_, (Below.heap_setCell w2 ⟨sb, 8, none⟩ _ m hms).trans hM2⟩⟩
  · rw [hne m hms, cell_of_row _ _ _ _ 54 (0, 0) hM2]; simp [hM7]
  · rw [hne m hms, cell_of_row _ _ _ _ 54 (0, 0) hM2, cell_of_row _ _ _ _ 54 (0, 0) hM, Array.getElem?_setIfInBounds_ne (Ne.symm hl)]
  · exact World.cell?_setCell_same _ _ _ c82
  · rw [World.cell?_setCell_other _ _ _ _ (fun e => hl (congrArg Addr.off e).symm), cell_of_row _ _ _ _ 50 (0, 0) hS2, cell_of_row _ _ _ _ 50 (0, 0) hS]
end Go.Proofs.YbulkbkkwGreatDoor
