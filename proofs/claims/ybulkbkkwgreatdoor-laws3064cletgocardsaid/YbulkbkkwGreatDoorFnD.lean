/-
  DeleteFunc (11): every copy of m goes, the others keep their order.
-/
import Derived.Test.YbulkbkkwGreatDoorFnC
import Derived.Lib.SliceRun
import Derived.Deep.Upon
namespace Go.Proofs.YbulkbkkwGreatDoor
open Go.RowKit
set_option linter.unusedVariables false

/-- Below block B all is as it was, but for the blocks X. -/
structure KeptX (X : Nat → Prop) (B : Nat) (w w' : World) : Prop where
  os : w'.os = w.os
  output : w'.output = w.output
  size : w.heap.size ≤ w'.heap.size
  block : ∀ k, k < B → ¬ X k → w'.heap[k]? = w.heap[k]?
theorem KeptX.refl (X : Nat → Prop) (B : Nat) (w : World) : KeptX X B w w := ⟨rfl, rfl, Nat.le_refl _, fun _ _ _ => rfl⟩
theorem KeptX.trans {X : Nat → Prop} {B : Nat} {a b c : World} (h : KeptX X B a b) (k : KeptX X B b c) : KeptX X B a c :=
  ⟨k.os.trans h.os, k.output.trans h.output, Nat.le_trans h.size k.size, fun i hi hx => (k.block i hi hx).trans (h.block i hi hx)⟩
theorem KeptX.of {X : Nat → Prop} {B : Nat} {w w' : World} (h : Below B w w') : KeptX X B w w' := ⟨h.os, h.output, h.size, fun k hk _ => h.block k hk⟩
theorem KeptX.quiet {X : Nat → Prop} {B : Nat} {w w' : World} (h : Quiet w w') : KeptX X B w w' := ⟨h.os, h.output, Nat.le_of_eq (by rw [h.heap]), fun k hk _ => by rw [h.heap]⟩
theorem KeptX.weak {X Y : Nat → Prop} {B : Nat} {w w' : World} (h : KeptX X B w w') (hxy : ∀ k, X k → Y k) : KeptX Y B w w' := ⟨h.os, h.output, h.size, fun k hk hn => h.block k hk (fun hx => hn (hxy k hx))⟩
theorem KeptX.mono {X : Nat → Prop} {B B' : Nat} {w w' : World} (h : KeptX X B w w') (hB : B' ≤ B) : KeptX X B' w w' := ⟨h.os, h.output, h.size, fun k hk => h.block k (Nat.lt_of_lt_of_le hk hB)⟩
theorem KeptX.setCell {X : Nat → Prop} {B : Nat} (w : World) (p : Addr) (v : Value) (hp : X p.block) : KeptX X B w (w.setCell p v) :=
  ⟨rfl, rfl, Nat.le_of_eq Array.size_modify.symm, fun k _ hn => Below.heap_setCell w p v k (fun e => hn (by rw [e]; exact hp))⟩
theorem KeptX.cell {X : Nat → Prop} {B : Nat} {w w' : World} (h : KeptX X B w w') {p : Addr} (hp : p.block < B) (hx : ¬ X p.block) : w'.cell? p = w.cell? p := World.cell?_of_block (w := w) (h.block p.block hp hx)
theorem KeptX.lift {X : Nat → Prop} {B n : Nat} {a b : World} (h : KeptX X B a b) (hB : n ≤ B) (hX : ∀ x, X x → n ≤ x) : KeptX (fun _ => False) n a b :=
  ⟨h.os, h.output, h.size, fun k hk _ => h.block k (by omega) (fun hx => by have := hX k hx; omega)⟩
theorem KeptX.is54 {X : Nat → Prop} {B : Nat} {w w' : World} (h : KeptX X B w w') {x : Nat} (hp : x < B) (hx : ¬ X x) (hi : Is54 w x) : Is54 w' x := by
  obtain ⟨C, hC⟩ := hi
  exact ⟨C, (h.block x hp hx).trans hC⟩
theorem size_setCells (g : Nat) : ∀ (vs : List Value) (o : Nat) (w : World), (w.setCells g o vs).heap.size = w.heap.size
  | [], _, _ => rfl
  | v :: r, o, w => (size_setCells g r (o + 1) (w.setCell ⟨g, o, none⟩ v)).trans Array.size_modify
theorem KeptX.setCells {X : Nat → Prop} {B : Nat} (w : World) (g o : Nat) (vs : List Value) (hp : X g) (hB : B ≤ w.heap.size) : KeptX X B w (w.setCells g o vs) :=
  ⟨World.os_setCells w g o vs, World.output_setCells w g o vs, Nat.le_of_eq (size_setCells g vs o w).symm, fun k hk hn => World.heap_setCells_other w g o vs (by omega) (fun e => hn (e ▸ hp))⟩

/-- The rounds that are kept. -/
def acts (A : Nat → Bool) (i : Nat) : List Nat := (List.range i).filter A
theorem acts_succ (A : Nat → Bool) (i : Nat) : acts A (i + 1) = acts A i ++ (if A i = true then [i] else []) := by
  unfold acts
  rw [List.range_succ, List.filter_append]
  congr 1
  by_cases h : A i = true <;> simp [h]
theorem acts_le (A : Nat → Bool) (i : Nat) : (acts A i).length ≤ i := by
  unfold acts
  exact Nat.le_trans (List.length_filter_le _ _) (by simp)
theorem acts_all (A : Nat → Bool) (i : Nat) (h : ∀ j, j < i → A j = true) : acts A i = List.range i := by
  unfold acts
  rw [List.filter_eq_self]
  exact fun j hj => h j (List.mem_range.1 hj)
/-- p's first cells are the kept pointers. -/
def RowL (w : World) (pb : Nat) (xb : Nat → Nat) (l : List Nat) : Prop := ∀ i t, l[i]? = some t → w.cell? ⟨pb, i, none⟩ = some (.pointer (some ⟨xb t, 0, none⟩))

/-- What holds while it deletes. -/
structure Del (pb n : Nat) (xb : Nat → Nat) (A : Nat → Bool) (w : World) (j : Nat) (wr : World) : Prop where
  lt : (acts A j).length < j
  row : RowL wr pb xb (acts A j)
  rest : ∀ l, j ≤ l → l < n → wr.cell? ⟨pb, l, none⟩ = some (.pointer (some ⟨xb l, 0, none⟩))
  there : ∀ l, l < n → (wr.cell? ⟨pb, l, none⟩).isSome = true
  frozen : ∀ l, l < n → wr.frozen? ⟨pb, l, none⟩ = false
  kept : KeptX (· = pb) w.heap.size w wr

theorem Del.skip {pb n : Nat} {xb : Nat → Nat} {A : Nat → Bool} {w : World} {j : Nat} {wr : World} (h : Del pb n xb A w j wr) (hA : A j = false) : Del pb n xb A w (j + 1) wr := by
  have e : acts A (j + 1) = acts A j := by rw [acts_succ, if_neg (by rw [hA]; decide), List.append_nil]
  have := h.lt
  exact ⟨by rw [e]; omega, by rw [e]; exact h.row, fun l hl => h.rest l (by omega), h.there, h.frozen, h.kept⟩
theorem Del.put {pb n : Nat} {xb : Nat → Nat} {A : Nat → Bool} {w : World} {j : Nat} {wr : World} (h : Del pb n xb A w j wr) (hj : j < n) (hA : A j = true) :
    Del pb n xb A w (j + 1) (wr.setCell ⟨pb, (acts A j).length, none⟩ (.pointer (some ⟨xb j, 0, none⟩))) := by
  have e : acts A (j + 1) = acts A j ++ [j] := by rw [acts_succ, if_pos hA]
  have hl := h.lt
  have hs := h.there (acts A j).length (by omega)
  have ho : ∀ l, l ≠ (acts A j).length → (wr.setCell ⟨pb, (acts A j).length, none⟩ (.pointer (some ⟨xb j, 0, none⟩))).cell? ⟨pb, l, none⟩ = wr.cell? ⟨pb, l, none⟩ := fun l hne => World.cell?_setCell_other _ _ _ _ (fun e => hne (congrArg Addr.off e).symm)
  have hi : (wr.setCell ⟨pb, (acts A j).length, none⟩ (.pointer (some ⟨xb j, 0, none⟩))).cell? ⟨pb, (acts A j).length, none⟩ = some (.pointer (some ⟨xb j, 0, none⟩)) := by
    obtain ⟨u, hu⟩ := Option.isSome_iff_exists.1 hs
    exact World.cell?_setCell_same _ _ _ hu
  refine ⟨by rw [e, List.length_append]; simp; omega, fun i t ht => ?_, fun l h1 h2 => by rw [ho l (by omega)]; exact h.rest l (by omega) h2, fun l h2 => ?_, fun l h2 => ?_, h.kept.trans (KeptX.setCell _ _ _ rfl)⟩
  · rw [e] at ht
    by_cases hii : i < (acts A j).length
    · rw [List.getElem?_append_left hii] at ht
      rw [ho i (by omega)]
      exact h.row i t ht
    · rw [List.getElem?_append_right (by omega)] at ht
      obtain ⟨h1, h2⟩ := List.getElem?_eq_some_iff.1 ht
      simp at h1 h2
      obtain rfl : i = (acts A j).length := by omega
      subst h2
      exact hi
  · by_cases hll : l = (acts A j).length
    · subst hll; rw [hi]; rfl
    · rw [ho l hll]; exact h.there l h2
  · rw [World.frozen?_setCell]; exact h.frozen l h2

theorem del11 (pb n cb m : Nat) (xb : Nat → Nat) (w : World) (hn : n ≤ 1024) (hc : w.cell? ⟨cb, 0, none⟩ = some (.pointer (some ⟨m, 0, none⟩))) (hcb : cb ≠ pb) (hm : Is54 w m) (hmp : m ≠ pb)
    (hp : ∀ i, i < n → w.cell? ⟨pb, i, none⟩ = some (.pointer (some ⟨xb i, 0, none⟩))) (hfr : ∀ i, i < n → w.frozen? ⟨pb, i, none⟩ = false) (hx : ∀ i, i < n → Is54 w (xb i)) (hxp : ∀ i, i < n → xb i ≠ pb) :
    Calls Ybaz.prog 11 #[.slice (some ⟨pb, 0, none⟩) n n, .func (.func 12) #[] #[.pointer (some ⟨cb, 0, none⟩)]] w fun e w' => e = .returned (.slice (some ⟨pb, 0, none⟩) (acts (fun i => !decide (xb i = m)) n).length n) ∧ RowL w' pb xb (acts (fun i => !decide (xb i = m)) n) ∧ KeptX (· = pb) w.heap.size w w' := by
  have F : Hid _ := find19 pb n n cb m xb w hn hc hm hp hx
  have HP : Hid _ := And.intro hp (And.intro hfr (And.intro hx hxp))
  have hcl : cb < w.heap.size := World.block_lt_of_cell? w _ hc
  clear hp hfr hx hxp
  go_enter Ybaz.func11, Ybaz.ntmps11
  go_wp2_with fail
  go_at_call 19
  refine (Calls.mono (F.out) ?_)
  rintro e w1 ⟨k, rfl, hF, rfl⟩
  rcases hF with ⟨rfl, hall⟩ | ⟨i0, hi0, rfl, ht, hall⟩
  · have HA : Hid _ := hall
    clear hall F
    go_wp2
    go_ret
    have e : acts (fun i => !decide (xb i = m)) n = List.range n := acts_all _ n (fun j hj => by have := HA.out j hj; simp [this])
    rw [e]
    refine ⟨by simp, fun i t h => ?_, KeptX.refl _ _ _⟩
    obtain ⟨hi, ht⟩ := List.getElem?_eq_some_iff.1 h
    simp at hi ht
    subst ht
    exact HP.out.1 i hi
  · have HA : Hid _ := And.intro ht hall
    have hk : ¬ (i0 : Int) = -1 := by omega
    have hk2 : ((i0 : Int) == -1) = false := by simp
    clear hall F ht
    go_wp2_with fail
    have h9 : acts (fun i => !decide (xb i = m)) (i0 + 1) = List.range i0 := by
      rw [acts_succ, acts_all _ i0 (fun j hj => by have := HA.out.2 j hj; simp [this])]
      rw [if_neg (by simp [HA.out.1]), List.append_nil]
    have D0 : Hid (Del pb n xb (fun i => !decide (xb i = m)) w1 (i0 + 1) w1) := (⟨by rw [h9]; simp, fun i t h => by
      rw [h9] at h
      obtain ⟨hi, ht⟩ := List.getElem?_eq_some_iff.1 h
      simp at hi ht
      subst ht
      exact HP.out.1 i (by omega), fun l _ hl => HP.out.1 l hl, fun l hl => by rw [HP.out.1 l hl]; rfl, HP.out.2.1, KeptX.refl _ _ _⟩ : Del pb n xb (fun i => !decide (xb i = m)) w1 (i0 + 1) w1)
    have hl0 : ((acts (fun i => !decide (xb i = m)) (i0 + 1)).length : Int) = i0 := by simp [h9]
    clear h9
    go_loopw [5, 6] (fun c i wr => ∃ j : Nat, j ≤ n ∧ i = .int .i64 j ∧ c = .int .i64 (acts (fun i => !decide (xb i = m)) j).length ∧ Del pb n xb (fun i => !decide (xb i = m)) w1 j wr) (fun _ i _ => n - (intOf i).toNat)
    case atStart => exact ⟨i0 + 1, by omega, by go_num, by rw [hl0], D0.out⟩
    case round =>
      obtain ⟨j, hj, rfl, rfl, hd⟩ := hrel
      have HD : Hid _ := hd
      clear hd D0 hl0
      have hlj := HD.out.lt
      have hc1 : wr.cell? ⟨cb, 0, none⟩ = some (.pointer (some ⟨m, 0, none⟩)) := (HD.out.kept.cell (p := ⟨cb, 0, none⟩) hcl hcb).trans hc
      by_cases hlt : j < n
      · have hk' : (j : Int) < n := by omega
        have hpj := HD.out.rest j (Nat.le_refl _) hlt
        have hmr : Is54 wr m := by
          obtain ⟨C, hC⟩ := hm
          exact HD.out.kept.is54 (Array.getElem?_eq_some_iff.1 hC).1 hmp ⟨C, hC⟩
        have hxr : Is54 wr (xb j) := by
          obtain ⟨C, hC⟩ := HP.out.2.2.1 j hlt
          exact HD.out.kept.is54 (Array.getElem?_eq_some_iff.1 hC).1 (HP.out.2.2.2 j hlt) ⟨C, hC⟩
        cases hb : decide (xb j = m) with
        | true =>
          go_wp2_with (go_at_call 12; refine (is12 cb (xb j) m _ hc1 hxr hmr).mono ?_; rintro e w2 ⟨rfl, rfl⟩; rw [hb])
          go_roundw
          · exact ⟨j + 1, by omega, by go_num, by rw [acts_succ, if_neg (by rw [hb]; decide), List.append_nil], HD.out.skip (by rw [hb]; rfl)⟩
          · simp [intOf]; omega
        | false =>
          have hcs := Option.isSome_iff_exists.1 (HD.out.there (acts (fun i => !decide (xb i = m)) j).length (by omega))
          obtain ⟨u, hcs⟩ := hcs
          have hcf := HD.out.frozen (acts (fun i => !decide (xb i = m)) j).length (by omega)
          have hci : ((acts (fun i => !decide (xb i = m)) j).length : Int) < n := by omega
          have hcn : (acts (fun i => !decide (xb i = m)) j).length < n := by omega
          go_wp2_with (go_at_call 12; refine (is12 cb (xb j) m _ hc1 hxr hmr).mono ?_; rintro e w2 ⟨rfl, rfl⟩; rw [hb])
          go_roundw
          · exact ⟨j + 1, by omega, by go_num, by rw [acts_succ, if_pos (by rw [hb]; rfl), List.length_append]; go_num, HD.out.put hlt (by rw [hb]; rfl)⟩
          · simp [intOf]; omega
      · obtain rfl : j = n := by omega
        have hkk : ¬ (j : Int) < j := by omega
        have hci : ((acts (fun i => !decide (xb i = m)) j).length : Int) < j := by omega
        have hcn : (acts (fun i => !decide (xb i = m)) j).length ≤ j := by omega
        have hclr : ∀ ty, (Builtin.clear_ #[31] ty #[.slice (some ⟨pb, (acts (fun i => !decide (xb i = m)) j).length, none⟩) (j - (acts (fun i => !decide (xb i = m)) j).length) (j - (acts (fun i => !decide (xb i = m)) j).length)]).run Ybaz.prog wr = .ok (.tuple #[]) (wr.setCells pb (acts (fun i => !decide (xb i = m)) j).length (List.replicate (j - (acts (fun i => !decide (xb i = m)) j).length) (.pointer none))) := fun ty =>
          Lib.run_clear_slice wr 31 51 ty (.pointer none) Ybaz.underlying31 (fun w => by kernel_rfl) rfl rfl pb _ _ _ (by omega) (fun l hl => HD.out.there _ (by omega)) (fun l hl => HD.out.frozen _ (by omega))
        go_wp2_with fail
        go_ret
        refine ⟨rfl, fun i t h => ?_, HD.out.kept.trans (KeptX.setCells wr _ _ _ rfl HD.out.kept.size)⟩
        have hi := (List.getElem?_eq_some_iff.1 h).1
        rw [World.cell?_setCells_out pb _ _ wr ⟨pb, i, none⟩ (fun _ _ => .inl hi)]
        exact HD.out.row i t h
end Go.Proofs.YbulkbkkwGreatDoor
