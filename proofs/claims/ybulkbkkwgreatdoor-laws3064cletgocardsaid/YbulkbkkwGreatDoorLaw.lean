/-
  LawS3064CLetGo (function 3): the walk.
-/
import Derived.Test.YbulkbkkwGreatDoorScene
namespace Go.Proofs.YbulkbkkwGreatDoor
open Go.RowKit
set_option linter.unusedVariables false

theorem code_alloc1 {c : Code} {Q : Exit → Act → World → Prop} {a : Act} (w : World) (o : Obj) (h : ∀ W, W.heap.size = w.heap.size + 1 → Below w.heap.size w W → W.heap[w.heap.size]? = some o → Code.wp Ybaz.prog c Q a W) : Code.wp Ybaz.prog c Q a (w.alloc o) :=
  h _ (by simp) ((Below.refl _ _).alloc (Nat.le_refl _) _) (heap_at _ _ _ rfl)
def lp (xb : Nat → Nat) (l : List Nat) : List Value := l.map fun t => .pointer (some ⟨xb t, 0, none⟩)
theorem lp_len (xb : Nat → Nat) (l : List Nat) : (lp xb l).length = l.length := by simp [lp]
theorem lp_snoc (xb : Nat → Nat) (l : List Nat) (t : Nat) : lp xb (l ++ [t]) = lp xb l ++ [.pointer (some ⟨xb t, 0, none⟩)] := by simp [lp]
theorem lp_at {xb : Nat → Nat} {l : List Nat} {i t : Nat} (h : l[i]? = some t) : (lp xb l)[i]? = some (.pointer (some ⟨xb t, 0, none⟩)) := by simp [lp, h]
theorem getD_at {l : List Nat} {i : Nat} (h : i < l.length) : l[i]? = some (l.getD i 0) := by simp [List.getD, h]


set_option maxHeartbeats 4000000 in
set_option maxRecDepth 100000 in
theorem law3 (a0 a1 : Option Addr) (n c0 q c1 : Nat) (par swo : Nat → Int) (gu : Nat → Bool) (x : Int) (lv : Bool) (w : World) (hn : n ≤ 1024) (hq : q ≤ 1024) (hx : 0 ≤ x ∧ x ≤ 255) (hpar : ∀ k, 0 ≤ par k ∧ par k ≤ 255) (hswo : ∀ k, 0 ≤ swo k ∧ swo k ≤ 255)
    (hin0 : ∀ k, k < n → InP a0 par w.heap.size w k) (hin1 : ∀ k, k < q → InO a1 swo gu w.heap.size w k) :
    Calls Ybaz.prog 3 #[.slice a0 n c0, .slice a1 q c1, .int .u8 x, .bool lv] w fun e w' => e = .returned (.bool true) ∧ KeptX (fun _ => False) w.heap.size w w' := by
  have h1 : ¬ (1024 : Int) < (n : Int) := by omega
  have h2 : ¬ (1024 : Int) < (q : Int) := by omega
  have q28 := zv28
  have q45 := zv45
  have q50 := zv50
  have q54 := zv54
  have n28 : z28 ≠ #[] := fun h => by have := congrArg Array.size h; cases this
  have n45 : z45 ≠ #[] := fun h => by have := congrArg Array.size h; cases this
  have n50 : z50 ≠ #[] := fun h => by have := congrArg Array.size h; cases this
  have n54 : z54 ≠ #[] := fun h => by have := congrArg Array.size h; cases this
  have q63 := zv63
  have q68 := zv68
  have q97 := zv97
  have n68 : z68 ≠ #[] := fun h => by have := congrArg Array.size h; cases this
  have n97 : z97 ≠ #[] := fun h => by have := congrArg Array.size h; cases this
  have z68s : z68.size = 6 := rfl
  have z97s : z97.size = 126 := rfl
  have n63 : z63 ≠ #[] := fun h => by have := congrArg Array.size h; cases this
  have z63a : z63[4]? = some (.pointer none) := rfl
  have z63b : z63[14]? = some (.bool false) := rfl
  have z63s : z63.size = 29 := rfl
  have z50a : z50[7]? = some (.slice none 0 0) := rfl
  have z50b : z50[8]? = some (.slice none 0 0) := rfl
  obtain ⟨b0, hb0s, hb0⟩ := make31 0 n (Nat.zero_le _) hn
  replace hb0 : ∀ w, (Instr.makeSlice 31 (.int .i64 0) (.int .i64 n)).run Ybaz.prog w = .ok (.slice (some ⟨w.heap.size, 0, none⟩) 0 n) (w.alloc (.cells b0 51)) := hb0
  obtain ⟨b1, hb1s, hb1⟩ := make31 n n (Nat.le_refl _) hn
  obtain ⟨b2, hb2s, hb2⟩ := make25 0 q (Nat.zero_le _) hq
  replace hb2 : ∀ w, (Instr.makeSlice 25 (.int .i64 0) (.int .i64 q)).run Ybaz.prog w = .ok (.slice (some ⟨w.heap.size, 0, none⟩) 0 q) (w.alloc (.cells b2 52)) := hb2
  have HIN : Hid _ := And.intro (And.intro hin0 hpar) (And.intro hin1 hswo)
  clear hin0 hin1 hpar hswo
  go_enter Ybaz.func3, Ybaz.ntmps3
  go_wp2_with fail
  refine code_chain6 w _ _ _ _ _ _ (fun V hBV hS k0 k1 k2 k3 k4 k5 => ?_)
  have HP0 : Hid (RelP V (w.heap.size + 1 + 1 + 1 + 1 + 1) (((z54.setIfInBounds 0 (.pointer (some ⟨w.heap.size + 1, 0, none⟩))).setIfInBounds 1 (.pointer (some ⟨w.heap.size + 1 + 1, 0, none⟩))).setIfInBounds 7 (.bool true)) 1 V) := (⟨by omega, KeptX.refl _ _ _, fun j h1 h2 => by omega, _, k5, rfl, fun j hj => by
    obtain rfl : j = 0 := by omega
    simp [pmf]⟩ : RelP V (w.heap.size + 1 + 1 + 1 + 1 + 1) (((z54.setIfInBounds 0 (.pointer (some ⟨w.heap.size + 1, 0, none⟩))).setIfInBounds 1 (.pointer (some ⟨w.heap.size + 1 + 1, 0, none⟩))).setIfInBounds 7 (.bool true)) 1 V)
  have HV : Hid _ := And.intro hBV (And.intro hS (And.intro k0 (And.intro k1 (And.intro k2 (And.intro k3 k4)))))
  clear hBV k0 k1 k2 k3 k4 k5 hS
  go_loopw [15] (fun i wr => ∃ k : Nat, 1 ≤ k ∧ k ≤ 5 ∧ i = .int .i64 k ∧ RelP V (w.heap.size + 1 + 1 + 1 + 1 + 1) (((z54.setIfInBounds 0 (.pointer (some ⟨w.heap.size + 1, 0, none⟩))).setIfInBounds 1 (.pointer (some ⟨w.heap.size + 1 + 1, 0, none⟩))).setIfInBounds 7 (.bool true)) k wr) (fun i _ => 5 - (intOf i).toNat)
  case atStart => exact ⟨1, by omega, by omega, rfl, HP0.out⟩
  case round =>
    obtain ⟨k, hk1, hk5, rfl, hrel⟩ := hrel
    by_cases hlt : k < 5
    · have hki : (k : Int) < 5 := by omega
      have hrs := hrel.size
      obtain ⟨arr, a1, a2, a3⟩ := hrel.row
      have hgc : ∃ u, wr.cell? ⟨(w.heap.size + 1 + 1 + 1 + 1 + 1), k, none⟩ = some u := ⟨arr[k], (cell_of_row _ _ _ _ 55 (0, 0) a1).trans (by simp [a2, hlt])⟩
      obtain ⟨u, hgc⟩ := hgc
      have hgf := frozen_row a1 k
      have hgl : (w.heap.size + 1 + 1 + 1 + 1 + 1) < wr.heap.size := by omega
      have hgl2 : (w.heap.size + 1 + 1 + 1 + 1 + 1) < (w.heap.size + 1 + 1 + 1 + 1 + 1) + k := by omega
      have HR : Hid _ := hrel
      clear hrel a1 a2 a3 HP0
      go_wp2
      go_roundw
      · exact ⟨k + 1, by omega, by omega, by go_num, HR.out.step (by omega) hlt⟩
      · simp [intOf]; omega
    · obtain rfl : k = 5 := by omega
      have HR : Hid _ := hrel
      clear hrel HP0
      have hrs := HR.out.size
      have hs50 : wr.heap[w.heap.size + 1 + 1]? = some (.cells (z50.setIfInBounds 0 (.string ⟨#[115]⟩)) 50 (0, 0)) := (HR.out.kept.block _ (by omega) (by omega)).trans HV.out.2.2.2.2.1
      have cs7 : wr.cell? ⟨w.heap.size + 1 + 1, 7, none⟩ = some (.slice none 0 0) := (cell_of_row _ _ _ _ 50 (0, 0) hs50).trans rfl
      have fs7 := frozen_row hs50 7
      have hsl : w.heap.size + 1 + 1 < wr.heap.size := by omega
      have hsl2 : w.heap.size + 1 + 1 < (w.heap.size + 1 + 1 + 1 + 1 + 1) + 5 := by omega
      have HS50 : Hid _ := hs50
      clear hs50
      go_wp2_with fail
      obtain ⟨w5, hw5⟩ : ∃ w5, w5 = wr := ⟨_, rfl⟩
      subst hw5
      refine code_set1 w5 _ _ _ _ _ 50 HS50.out (fun W hWs hWk hWS hWb => ?_)
      rw [hrs] at hWs hWb
      have HW : Hid _ := And.intro hWs (And.intro hWk hWS)
      have HG0 : Hid _ := (RowG.start hWb hb0s : RowG W ((w.heap.size + 1 + 1 + 1 + 1 + 1) + 5) n [] W)
      have HB : Hid _ := hWb
      clear hWs hWk hWS hWb cs7 fs7 hsl hsl2 HS50 hrs
      go_loopw [16, 73] (fun s i w2_ => ∃ k : Nat, k ≤ n ∧ i = .int .i64 k ∧ s = .slice (some ⟨((w.heap.size + 1 + 1 + 1 + 1 + 1) + 5), 0, none⟩) k n ∧ RowG W ((w.heap.size + 1 + 1 + 1 + 1 + 1) + 5) n (ptrs (fun j => pmf (w.heap.size + 1 + 1 + 1 + 1 + 1) (par j % 5).toNat) k) w2_) (fun _ i _ => n - (intOf i).toNat)
      case atStart => exact ⟨0, Nat.zero_le _, rfl, rfl, HG0.out⟩
      case round =>
        obtain ⟨k, hkn, rfl, rfl, hrel⟩ := hrel
        have HR2 : Hid _ := hrel
        clear hrel HG0
        have hg2 : ((w.heap.size + 1 + 1 + 1 + 1 + 1) + 5) + 1 ≤ wr.heap.size := by have := HR2.out.le; have := HW.out.1; omega
        by_cases hlt : k < n
        · have hki : (k : Int) < (n : Int) := by omega
          have hrs := HR.out.size
          obtain ⟨ab, ao, rfl, hab, i0⟩ := HIN.out.1.1 k hlt
          have hp := HIN.out.1.2 k
          have hlow : ∀ i, i < ((w.heap.size + 1 + 1 + 1 + 1 + 1) + 5) → i ≠ w.heap.size + 1 + 1 → wr.heap[i]? = w5.heap[i]? := fun i hi h2 => (HR2.out.kept.block i (by have := HW.out.1; omega) (by omega)).trans (HW.out.2.1.block i (by omega) h2)
          have j0 : wr.cell? ⟨ab, ao + k, none⟩ = some (.int .u8 (par k)) := (World.cell?_of_block (w := w) ((hlow ab (by omega) (by omega)).trans ((HR.out.kept.block ab (by omega) (by omega)).trans (HV.out.1.block ab hab)))).trans i0
          obtain ⟨arr, a1, a2, a3⟩ := HR.out.row
          have h5 : 0 ≤ par k % 5 ∧ par k % 5 < 5 := by omega
          have h5n : (par k % 5).toNat < 5 := by omega
          have jp : wr.cell? ⟨(w.heap.size + 1 + 1 + 1 + 1 + 1), (par k % 5).toNat, none⟩ = some (.pointer (some ⟨pmf (w.heap.size + 1 + 1 + 1 + 1 + 1) (par k % 5).toNat, 0, none⟩)) := (cell_of_row _ _ _ _ 55 (0, 0) ((hlow _ (by omega) (by omega)).trans a1)).trans (a3 _ h5n)
          have habl : ab < wr.heap.size := by omega
          have hgbl : (w.heap.size + 1 + 1 + 1 + 1 + 1) < wr.heap.size := by omega
          have hbbl : ((w.heap.size + 1 + 1 + 1 + 1 + 1) + 5) < wr.heap.size := by omega
          obtain ⟨u, hcB⟩ := Option.isSome_iff_exists.1 (HR2.out.there k hlt)
          have hfB := HR2.out.frozen k hlt
          have hki2 : k + 1 ≤ n := hlt
          have hstep := (HR2.out.push (by rw [ptrs_len]; exact hlt) (.pointer (some ⟨pmf (w.heap.size + 1 + 1 + 1 + 1 + 1) (par k % 5).toNat, 0, none⟩))).alloc (Nat.lt_of_lt_of_le hbbl (Nat.le_of_eq Array.size_modify.symm)) (.cells #[.pointer (some ⟨pmf (w.heap.size + 1 + 1 + 1 + 1 + 1) (par k % 5).toNat, 0, none⟩)] 51)
          rw [ptrs_len] at hstep
          have HST : Hid _ := hstep
          clear hstep a1 a2 a3 hlow i0 hrs
          go_wp2_with fail
          go_roundw
          · exact ⟨k + 1, by omega, by go_num, rfl, by rw [ptrs_succ]; exact HST.out⟩
          · simp [intOf]; omega
        · obtain rfl : k = n := by omega
          have hkk : ¬ (k : Int) < (k : Int) := by omega
          have hs50 : wr.heap[w.heap.size + 1 + 1]? = some (.cells ((z50.setIfInBounds 0 (.string ⟨#[115]⟩)).setIfInBounds 7 (.slice (some ⟨(w.heap.size + 1 + 1 + 1 + 1 + 1), 0, none⟩) 5 5)) 50 (0, 0)) := (HR2.out.kept.block _ (by have := HW.out.1; omega) (by omega)).trans HW.out.2.2
          have cs8 : wr.cell? ⟨w.heap.size + 1 + 1, 8, none⟩ = some (.slice none 0 0) := (cell_of_row _ _ _ _ 50 (0, 0) hs50).trans rfl
          have fs8 := frozen_row hs50 8
          have hsl : w.heap.size + 1 + 1 < wr.heap.size := by omega
          have HS50 : Hid _ := hs50
          clear hs50
          have hsize : (ptrs (fun j => pmf (w.heap.size + 1 + 1 + 1 + 1 + 1) (par j % 5).toNat) k).length = k := ptrs_len _ k
          have hcopy : (Builtin.copy_ #[31, 31] 3 #[.slice (some ⟨wr.heap.size, 0, none⟩) k k, .slice (some ⟨((w.heap.size + 1 + 1 + 1 + 1 + 1) + 5), 0, none⟩) k k]).run Ybaz.prog ((wr.setCell ⟨w.heap.size + 1 + 1, 8, none⟩ (.slice (some ⟨wr.heap.size, 0, none⟩) k k)).alloc (.cells b1 51)) = .ok (goInt k) (((wr.setCell ⟨w.heap.size + 1 + 1, 8, none⟩ (.slice (some ⟨wr.heap.size, 0, none⟩) k k)).alloc (.cells b1 51)).setCells wr.heap.size 0 (ptrs (fun j => pmf (w.heap.size + 1 + 1 + 1 + 1 + 1) (par j % 5).toNat) k)) := by
            refine copy31 _ _ _ _ k (ptrs (fun j => pmf (w.heap.size + 1 + 1 + 1 + 1 + 1) (par j % 5).toNat) k) b1 51 hsize (fun j v hv => ?_) (heap_at _ _ _ (Array.size_modify (xs := wr.heap)).symm) hb1s (fun v hv => ?_)
            · rw [World.cell?_of_block (w := wr) ((Below.heap_alloc _ _ _ (by rw [show (wr.setCell ⟨w.heap.size + 1 + 1, 8, none⟩ (.slice (some ⟨wr.heap.size, 0, none⟩) k k)).heap.size = wr.heap.size from Array.size_modify]; show ((w.heap.size + 1 + 1 + 1 + 1 + 1) + 5) < wr.heap.size; omega)).trans (Below.heap_setCell wr _ _ _ (by show ¬ ((w.heap.size + 1 + 1 + 1 + 1 + 1) + 5) = w.heap.size + 1 + 1; omega)))]
              exact HR2.out.row j v hv
            · simp only [ptrs, List.mem_map] at hv
              obtain ⟨j, _, rfl⟩ := hv
              rfl
          have hszc : (((wr.setCell ⟨w.heap.size + 1 + 1, 8, none⟩ (.slice (some ⟨wr.heap.size, 0, none⟩) k k)).alloc (.cells b1 51)).setCells wr.heap.size 0 (ptrs (fun j => pmf (w.heap.size + 1 + 1 + 1 + 1 + 1) (par j % 5).toNat) k)).heap.size = wr.heap.size + 1 := by
            rw [size_setCells]; simp
          go_wp2_with fail
          obtain ⟨w6, hw6⟩ : ∃ w6, w6 = wr := ⟨_, rfl⟩
          subst hw6
          have HLow : Hid (∀ i, i < ((w.heap.size + 1 + 1 + 1 + 1 + 1) + 5) → i ≠ w.heap.size + 1 + 1 → w6.heap[i]? = w5.heap[i]?) := (fun i hi h2 => (HR2.out.kept.block i (by have := HW.out.1; omega) (by omega)).trans (HW.out.2.1.block i (by have := HR.out.size; omega) h2) : ∀ i, i < ((w.heap.size + 1 + 1 + 1 + 1 + 1) + 5) → i ≠ w.heap.size + 1 + 1 → w6.heap[i]? = w5.heap[i]?)
          refine code_copy w6 _ _ k _ _ b1 _ _ 50 HS50.out hsize hb1s (fun W3 hs3 hk3 hS3 hrow3 hfr3 hT3 => ?_)
          have HT0 : Hid _ := (⟨by omega, RowG.start hT3 hb2s, fun i hi => by omega⟩ : RelT W3 (w6.heap.size + 1) q (w.heap.size + 1 + 1) (w.heap.size + 1 + 1 + 1) swo gu 0 W3)
          have H3 : Hid _ := And.intro hs3 (And.intro hk3 (And.intro hS3 (And.intro hrow3 hfr3)))
          clear hs3 hk3 hS3 hrow3 hfr3 hT3 hcopy hszc cs8 fs8 HS50 hsl
          go_loopw [19, 20, 103] (fun b s i w_ => ∃ j : Nat, j ≤ q ∧ i = .int .i64 j ∧ s = .slice (some ⟨(w6.heap.size + 1), 0, none⟩) j q ∧ b = .bool (blk swo gu j) ∧ RelT W3 (w6.heap.size + 1) q (w.heap.size + 1 + 1) (w.heap.size + 1 + 1 + 1) swo gu j w_) (fun _ _ i _ => q - (intOf i).toNat)
          case atStart => exact ⟨0, Nat.zero_le _, rfl, rfl, rfl, HT0.out⟩
          case round =>
            obtain ⟨j, hjq, rfl, rfl, rfl, hrel⟩ := hrel
            have HR3 : Hid _ := hrel
            clear hrel HT0
            have hg3 : w6.heap.size + 1 + 1 ≤ wr.heap.size := by have := HR3.out.size; have := H3.out.1; omega
            by_cases hlt : j < q
            · have hki : (j : Int) < (q : Int) := by omega
              have hki2 : j + 1 ≤ q := hlt
              obtain ⟨ab, ao, rfl, hab, i0, i1⟩ := HIN.out.2.1 j hlt
              have hsw := HIN.out.2.2 j
              have hlow : wr.heap[ab]? = w.heap[ab]? := (HR3.out.g.kept.block ab (by have := H3.out.1; omega) (by omega)).trans ((H3.out.2.1.block ab (by omega) (by omega)).trans ((HLow.out ab (by omega) (by omega)).trans ((HR.out.kept.block ab (by omega) (by omega)).trans (HV.out.1.block ab hab))))
              have j0 : wr.cell? ⟨ab, ao + j * 2, none⟩ = some (.int .u8 (swo j)) := (World.cell?_of_block (w := w) hlow).trans i0
              have j1 : wr.cell? ⟨ab, ao + j * 2 + 1, none⟩ = some (.bool (gu j)) := (World.cell?_of_block (w := w) hlow).trans i1
              have habl : ab < wr.heap.size := by omega
              have htbl : (w6.heap.size + 1) < wr.heap.size := by omega
              have htbl1 : w6.heap.size < wr.heap.size := by omega
              have htbl2 : w6.heap.size < wr.heap.size + 1 := by omega
              have htbl3 : (w6.heap.size + 1) < wr.heap.size + 1 := by omega
              have htbl4 : (w6.heap.size + 1) < wr.heap.size + 1 + 1 := by omega
              have hS : ∀ (o1 o3 : Obj) (C : Array Value), C = trC (w.heap.size + 1 + 1) (w.heap.size + 1 + 1 + 1) swo gu j → RelT W3 (w6.heap.size + 1) q (w.heap.size + 1 + 1) (w.heap.size + 1 + 1 + 1) swo gu (j + 1) ((((wr.setCell ⟨(w6.heap.size + 1), j, none⟩ (.pointer (some ⟨wr.heap.size + 1, 0, none⟩))).alloc o1).alloc (.cells C 63)).alloc o3) := fun o1 o3 C hC => HR3.out.step hlt (by have := H3.out.1; omega) o1 o3 hC
              have HS : Hid _ := hS
              clear hS
              obtain ⟨u, hcB⟩ := Option.isSome_iff_exists.1 (HR3.out.g.there j hlt)
              have hfB := HR3.out.g.frozen j hlt
              have hb0j := blk_succ swo gu j
              have HBJ : Hid _ := hb0j
              clear hlow i0 i1 hb0j
              cases h0 : (swo j % 3 == 0) with
              | true =>
                cases hg : gu j with
                | true =>
                  rw [hg] at j1
                  go_wp2_with fail
                  go_roundw
                  · exact ⟨j + 1, by omega, by go_num, rfl, by rw [HBJ.out, h0, hg]; simp, HS.out _ _ _ (by rw [trC_0 h0, hg])⟩
                  · simp [intOf]; omega
                | false =>
                  rw [hg] at j1
                  go_wp2_with fail
                  go_roundw
                  · exact ⟨j + 1, by omega, by go_num, rfl, by rw [HBJ.out, h0, hg]; simp, HS.out _ _ _ (by rw [trC_0 h0, hg])⟩
                  · simp [intOf]; omega
              | false =>
                cases h1 : (swo j % 3 == 1) with
                | true =>
                  go_wp2_with fail
                  go_roundw
                  · exact ⟨j + 1, by omega, by go_num, rfl, by rw [HBJ.out, h0]; simp, HS.out _ _ _ (by rw [trC_1 h0 h1])⟩
                  · simp [intOf]; omega
                | false =>
                  go_wp2_with fail
                  go_roundw
                  · exact ⟨j + 1, by omega, by go_num, rfl, by rw [HBJ.out, h0]; simp, HS.out _ _ _ (by rw [trC_2 h0 h1])⟩
                  · simp [intOf]; omega
            · obtain rfl : j = q := by omega
              have hkk2 : ¬ (j : Int) < (j : Int) := by omega
              have hacc : wr.heap[w.heap.size]? = some (.cells (z28.setIfInBounds 0 (.string ⟨#[112]⟩)) 28 (0, 0)) := (HR3.out.g.kept.block _ (by have := H3.out.1; omega) (by omega)).trans ((H3.out.2.1.block _ (by omega) (by omega)).trans ((HLow.out _ (by omega) (by omega)).trans ((HR.out.kept.block _ (by omega) (by omega)).trans HV.out.2.2.1)))
              have ca5 : wr.cell? ⟨w.heap.size, 5, none⟩ = some (.slice none 0 0) := (cell_of_row _ _ _ _ 28 (0, 0) hacc).trans rfl
              have fa5 := frozen_row hacc 5
              have hal : w.heap.size < wr.heap.size := by omega
              have HACC : Hid _ := hacc
              clear hacc
              go_wp2_with fail
              rename_i K hK
              refine wp_val _ _ (g_build97 rfl rfl) (hK _ _ ?_)
              clear hK
              go_wp2_with fail
              obtain ⟨w7, hw7⟩ : ∃ w7, w7 = wr := ⟨_, rfl⟩
              subst hw7
              have hg2 : ((w.heap.size + 1 + 1 + 1 + 1 + 1) + 5) + 1 ≤ w6.heap.size := hg2
              have hbef : ∀ i, i < k → w7.cell? ⟨((w.heap.size + 1 + 1 + 1 + 1 + 1) + 5), i, none⟩ = some (.pointer (some ⟨(fun j => pmf (w.heap.size + 1 + 1 + 1 + 1 + 1) (par j % 5).toNat) i, 0, none⟩)) := fun i hi => (World.cell?_of_block (w := w6) ((HR3.out.g.kept.block ((w.heap.size + 1 + 1 + 1 + 1 + 1) + 5) (by have := H3.out.1; omega) (by omega)).trans (H3.out.2.1.block ((w.heap.size + 1 + 1 + 1 + 1 + 1) + 5) (by omega) (by omega)))).trans (HR2.out.row i _ (ptrs_at _ hi))
              have hkw : KeptX (fun _ => False) w.heap.size w w7 := (((((KeptX.of HV.out.1).trans (HR.out.kept.lift (by omega) (fun x h => by omega))).trans (HW.out.2.1.lift (by have := HR.out.size; omega) (fun x h => by omega))).trans (HR2.out.kept.lift (by have := HW.out.1; omega) (fun x h => by omega))).trans (H3.out.2.1.lift (by omega) (fun x h => by omega))).trans (HR3.out.g.kept.lift (by have := H3.out.1; omega) (fun x h => by omega))
              have HBEF : Hid _ := And.intro hbef hkw
              clear hbef hkw ca5 fa5
              refine calls_set1 w7 _ _ _ _ _ 28 HACC.out (fun W4 hs4 hk4 hA4 hN4 => ?_)
              cases hb : blk swo gu j with
              | true =>
                refine (let4a _ _ _ _ _ _ _ _ _ _ _ _ _ _ _ _ _ _ W4 (scene_of w.heap.size V w5 w6 W3 w7 W4 j k par swo gu x lv hx hn hq HIN.out.1.2 HV.out.2.2.2.1 HV.out.2.2.2.2.2.1 HV.out.2.2.2.2.2.2 HR.out HLow.out hg2 H3.out.1 H3.out.2.1 H3.out.2.2.1 H3.out.2.2.2.1 H3.out.2.2.2.2 HR3.out hs4 hk4 hA4 hN4) hb).mono ?_
                rintro e w8 ⟨rfl, h8⟩
                have HA8 : Hid _ := after_a w.heap.size V w5 w6 W3 w7 W4 j k par swo gu x lv hx hn hq HIN.out.1.2 HV.out.2.2.2.1 HV.out.2.2.2.2.2.1 HV.out.2.2.2.2.2.2 HR.out HLow.out hg2 H3.out.1 H3.out.2.1 H3.out.2.2.1 H3.out.2.2.2.1 H3.out.2.2.2.2 HR3.out hs4 hk4 hA4 hN4 w w8 rfl HBEF.out.2 HBEF.out.1 h8
                clear hs4 hk4 hA4 hN4 h8
                have s5 := HA8.out.ac5
                go_wp2_with fail
                go_loopw [26] (fun i w_ => ∃ r : Nat, 1 ≤ r ∧ r ≤ 5 ∧ i = .int .i64 r ∧ w_ = w8) (fun i _ => 5 - (intOf i).toNat)
                case atStart => exact ⟨1, by omega, by omega, rfl, rfl⟩
                case round =>
                  obtain ⟨r, hr1, hr5, rfl, rfl⟩ := hrel
                  by_cases hrl : r < 5
                  · have hri : (r : Int) < 5 := by omega
                    have p1 := HA8.out.pool r hrl
                    have p2 := (HA8.out.mem r (by omega) hrl).1
                    have p3 := (HA8.out.mem r (by omega) hrl).2
                    go_wp2_with fail
                    go_roundw
                    · exact ⟨r + 1, by omega, by omega, by go_num, trivial⟩
                    · simp [intOf]; omega
                  · obtain rfl : r = 5 := by omega
                    have q1 := HA8.out.s8
                    have q2 := HA8.out.m7
                    have q3 := HA8.out.m8
                    go_wp2_with (go_at_call 5; refine (equal5 _ _ k k k (fun j => pmf (w.heap.size + 1 + 1 + 1 + 1 + 1) (par j % 5).toNat) _ hn (fun i hi => HA8.out.row i i (by simp [hi])) HA8.out.bef).mono ?_; rintro e w9 ⟨rfl, hq9⟩; have q22 := (hq9.cell _).trans q2; have q33 := (hq9.cell _).trans q3)
                    all_goals go_ret
                    all_goals exact ⟨by simp, HA8.out.kept.trans (KeptX.quiet hq9)⟩
              | false =>
                refine (let4b _ _ _ _ _ _ _ _ _ _ _ _ _ _ _ _ _ _ W4 (scene_of w.heap.size V w5 w6 W3 w7 W4 j k par swo gu x lv hx hn hq HIN.out.1.2 HV.out.2.2.2.1 HV.out.2.2.2.2.2.1 HV.out.2.2.2.2.2.2 HR.out HLow.out hg2 H3.out.1 H3.out.2.1 H3.out.2.2.1 H3.out.2.2.2.1 H3.out.2.2.2.2 HR3.out hs4 hk4 hA4 hN4) hb).mono ?_
                rintro e w8 ⟨rfl, h8⟩
                have HA8 : Hid _ := after_b w.heap.size V w5 w6 W3 w7 W4 j k par swo gu x lv hx hn hq HIN.out.1.2 HV.out.2.2.2.1 HV.out.2.2.2.2.2.1 HV.out.2.2.2.2.2.2 HR.out HLow.out hg2 H3.out.1 H3.out.2.1 H3.out.2.2.1 H3.out.2.2.2.1 H3.out.2.2.2.2 HR3.out hs4 hk4 hA4 hN4 w w8 rfl HBEF.out.2 HBEF.out.1 h8
                clear hs4 hk4 hA4 hN4 h8
                have s5 := HA8.out.ac5
                go_wp2_with fail
                go_loopw [26] (fun i w_ => ∃ r : Nat, 1 ≤ r ∧ r ≤ 5 ∧ i = .int .i64 r ∧ w_ = w8) (fun i _ => 5 - (intOf i).toNat)
                case atStart => exact ⟨1, by omega, by omega, rfl, rfl⟩
                case round =>
                  obtain ⟨r, hr1, hr5, rfl, rfl⟩ := hrel
                  by_cases hrl : r < 5
                  · have hri : (r : Int) < 5 := by omega
                    have p1 := HA8.out.pool r hrl
                    have p2 := (HA8.out.mem r (by omega) hrl).1
                    have p3 := (HA8.out.mem r (by omega) hrl).2
                    go_wp2_with fail
                    go_roundw
                    · exact ⟨r + 1, by omega, by omega, by go_num, trivial⟩
                    · simp [intOf]; omega
                  · obtain rfl : r = 5 := by omega
                    go_wp2_with fail
                    obtain ⟨w8, hw8⟩ : ∃ w8, w8 = wr := ⟨_, rfl⟩
                    subst hw8
                    refine code_alloc1 w8 _ (fun W9 hs9 hb9 hE9 => ?_)
                    have HG9 : Hid _ := (RowG.start hE9 hb0s : RowG W9 w8.heap.size k [] W9)
                    have H9 : Hid _ := And.intro hs9 hb9
                    clear hs9 hb9 hE9
                    go_loopw [27, 205] (fun s i w_ => ∃ r : Nat, r ≤ k ∧ i = .int .i64 r ∧ s = .slice (some ⟨w8.heap.size, 0, none⟩) (acts (fun i => !decide ((fun j => pmf (w.heap.size + 1 + 1 + 1 + 1 + 1) (par j % 5).toNat) i = w.heap.size + 1 + 1 + 1 + 1)) r).length k ∧ RowG W9 w8.heap.size k (lp (fun j => pmf (w.heap.size + 1 + 1 + 1 + 1 + 1) (par j % 5).toNat) (acts (fun i => !decide ((fun j => pmf (w.heap.size + 1 + 1 + 1 + 1 + 1) (par j % 5).toNat) i = w.heap.size + 1 + 1 + 1 + 1)) r)) w_) (fun _ i _ => k - (intOf i).toNat)
                    case atStart => exact ⟨0, Nat.zero_le _, rfl, rfl, HG9.out⟩
                    case round =>
                      obtain ⟨r, hrk, rfl, rfl, hrel⟩ := hrel
                      have HR9 : Hid _ := hrel
                      clear hrel HG9
                      have hlt8 := HA8.out.lt
                      have h9s := H9.out.1
                      have h9r := HR9.out.le
                      have hcell : ∀ (a : Addr) v, w8.cell? a = some v → wr.cell? a = some v := fun a v h => (HR9.out.kept.cell (by have := World.block_lt_of_cell? w8 _ h; omega) (by have := World.block_lt_of_cell? w8 _ h; omega)).trans ((World.cell?_of_block (w := w8) (H9.out.2.block a.block (World.block_lt_of_cell? w8 _ h))).trans h)
                      have h54 : ∀ b, Is54 w8 b → Is54 wr b := fun b h => by
                        obtain ⟨C, hC⟩ := h
                        have hl := (Array.getElem?_eq_some_iff.1 hC).1
                        exact ⟨C, (HR9.out.kept.block b (by omega) (by omega)).trans ((H9.out.2.block b hl).trans hC)⟩
                      by_cases hrl : r < k
                      · have hri : (r : Int) < (k : Int) := by omega
                        have hbj := hcell _ _ (HA8.out.bef r hrl)
                        have hne0 := ne51 (pmf (w.heap.size + 1 + 1 + 1 + 1 + 1) (par r % 5).toNat) (w.heap.size + 1 + 1 + 1 + 1) wr (h54 _ (HA8.out.x54 r hrl)) (h54 _ HA8.out.m54)
                        have hal := acts_le (fun i => !decide ((fun j => pmf (w.heap.size + 1 + 1 + 1 + 1 + 1) (par j % 5).toNat) i = w.heap.size + 1 + 1 + 1 + 1)) r
                        have hsuc := acts_succ (fun i => !decide ((fun j => pmf (w.heap.size + 1 + 1 + 1 + 1 + 1) (par j % 5).toNat) i = w.heap.size + 1 + 1 + 1 + 1)) r
                        have HSUC : Hid _ := hsuc
                        clear hsuc hcell h54
                        cases hd : decide (pmf (w.heap.size + 1 + 1 + 1 + 1 + 1) (par r % 5).toNat = w.heap.size + 1 + 1 + 1 + 1) with
                        | true =>
                          rw [hd] at hne0
                          have e9 : acts (fun i => !decide ((fun j => pmf (w.heap.size + 1 + 1 + 1 + 1 + 1) (par j % 5).toNat) i = w.heap.size + 1 + 1 + 1 + 1)) (r + 1) = acts (fun i => !decide ((fun j => pmf (w.heap.size + 1 + 1 + 1 + 1 + 1) (par j % 5).toNat) i = w.heap.size + 1 + 1 + 1 + 1)) r := by rw [HSUC.out, if_neg (by simp only []; rw [hd]; decide), List.append_nil]
                          have E9 : Hid _ := e9
                          clear e9
                          go_wp2_with fail
                          go_roundw
                          · exact ⟨r + 1, by omega, by go_num, by rw [E9.out], by rw [E9.out]; exact HR9.out⟩
                          · simp [intOf]; omega
                        | false =>
                          rw [hd] at hne0
                          have e9 : acts (fun i => !decide ((fun j => pmf (w.heap.size + 1 + 1 + 1 + 1 + 1) (par j % 5).toNat) i = w.heap.size + 1 + 1 + 1 + 1)) (r + 1) = acts (fun i => !decide ((fun j => pmf (w.heap.size + 1 + 1 + 1 + 1 + 1) (par j % 5).toNat) i = w.heap.size + 1 + 1 + 1 + 1)) r ++ [r] := by rw [HSUC.out, if_pos (by simp only []; rw [hd]; rfl)]
                          have E9 : Hid _ := e9
                          have hcl : (acts (fun i => !decide ((fun j => pmf (w.heap.size + 1 + 1 + 1 + 1 + 1) (par j % 5).toNat) i = w.heap.size + 1 + 1 + 1 + 1)) r).length < k := by omega
                          have hcl2 : (acts (fun i => !decide ((fun j => pmf (w.heap.size + 1 + 1 + 1 + 1 + 1) (par j % 5).toNat) i = w.heap.size + 1 + 1 + 1 + 1)) r).length + 1 ≤ k := by omega
                          obtain ⟨u, hcB⟩ := Option.isSome_iff_exists.1 (HR9.out.there _ hcl)
                          have hfB := HR9.out.frozen _ hcl
                          have hebl : w8.heap.size < wr.heap.size := by omega
                          have hstep := (HR9.out.push (by rw [lp_len]; exact hcl) (.pointer (some ⟨pmf (w.heap.size + 1 + 1 + 1 + 1 + 1) (par r % 5).toNat, 0, none⟩))).alloc (Nat.lt_of_lt_of_le hebl (Nat.le_of_eq Array.size_modify.symm)) (.cells #[.pointer (some ⟨pmf (w.heap.size + 1 + 1 + 1 + 1 + 1) (par r % 5).toNat, 0, none⟩)] 51)
                          rw [lp_len] at hstep
                          have HST : Hid _ := hstep
                          clear e9 hstep
                          go_wp2_with fail
                          go_roundw
                          · exact ⟨r + 1, by omega, by go_num, by rw [E9.out, List.length_append]; rfl, by rw [E9.out, lp_snoc]; exact HST.out⟩
                          · simp [intOf]; omega
                      · obtain rfl : r = k := by omega
                        have hkk9 : ¬ (r : Int) < (r : Int) := by omega
                        have q1 := hcell _ _ HA8.out.s8
                        have q2 := hcell _ _ HA8.out.m7
                        have q3 := hcell _ _ HA8.out.m8
                        have hal := acts_le (fun i => !decide ((fun j => pmf (w.heap.size + 1 + 1 + 1 + 1 + 1) (par j % 5).toNat) i = w.heap.size + 1 + 1 + 1 + 1)) r
                        have HE5 : Hid _ := equal5 w6.heap.size w8.heap.size (acts (fun i => !decide ((fun j => pmf (w.heap.size + 1 + 1 + 1 + 1 + 1) (par j % 5).toNat) i = w.heap.size + 1 + 1 + 1 + 1)) r).length r r (fun i => (fun j => pmf (w.heap.size + 1 + 1 + 1 + 1 + 1) (par j % 5).toNat) ((acts (fun i => !decide ((fun j => pmf (w.heap.size + 1 + 1 + 1 + 1 + 1) (par j % 5).toNat) i = w.heap.size + 1 + 1 + 1 + 1)) r).getD i 0)) wr (by omega) (fun i hi => hcell _ _ (HA8.out.row i _ (getD_at hi))) (fun i hi => HR9.out.row i _ (lp_at (getD_at hi)))
                        have hfin : KeptX (fun _ => False) w.heap.size w wr := (HA8.out.kept.trans (KeptX.of (H9.out.2.mono (by omega)))).trans (HR9.out.kept.lift (by omega) (fun x h => by omega))
                        have HFIN : Hid _ := hfin
                        clear hcell h54 hfin
                        go_wp2_with (go_at_call 5; refine (Calls.mono (HE5.out) ?_); rintro e w9 ⟨rfl, hq9⟩; have q22 := (hq9.cell _).trans q2; have q33 := (hq9.cell _).trans q3)
                        all_goals go_ret
                        all_goals exact ⟨by simp, HFIN.out.trans (KeptX.quiet hq9)⟩
end Go.Proofs.YbulkbkkwGreatDoor
