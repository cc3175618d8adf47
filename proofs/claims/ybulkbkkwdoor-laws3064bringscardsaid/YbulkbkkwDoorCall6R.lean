/-
  withdrawAll (function 6) as LawS3064BRings calls it.
-/
import Derived.Test.YbulkbkkwDoorRings
import Derived.Test.YbulkbkkwDoorRingC
import Derived.Test.YbulkbkkwDoorCall6
namespace Go.Proofs.YbulkbkkwDoor
open Go.RowKit
set_option linter.unusedVariables false

/-- Ring j's ID. -/
def idr (id : Nat → Int) (j : Nat) : Nat → Int := fun i => if i = 0 then id j else if i = 1 then (j : Int) % 256 else if i = 2 then (j : Int) / 256 else 0
def ptrR (sa sb : Nat) (sel : Nat → Int) (j : Nat) : Option Addr := if (sel j % 3 == 0) = true then some ⟨sa, 0, none⟩ else if (sel j % 3 == 1) = true then some ⟨sb, 0, none⟩ else none
def actR (sel : Nat → Int) (wd : Nat → Bool) (j : Nat) : Bool := (sel j % 3 == 0) && !wd j

theorem ringC_cases {Q : Array Value → Option Addr → Prop} (sa sb r0 : Nat) (sel id : Nat → Int) (wd : Nat → Bool) (j : Nat)
    (h0 : Q (((((((z79.setIfInBounds 33 (.int .u8 (id j))).setIfInBounds 34 (.int .u8 ((j : Int) % 256))).setIfInBounds 35 (.int .u8 ((j : Int) / 256))).setIfInBounds 13 (.pointer (some ⟨r0 + j, 0, none⟩))).setIfInBounds 14 (.bool (wd j))).setIfInBounds 8 (.pointer (some ⟨sa, 0, none⟩))).setIfInBounds 9 (.int .i64 j)) (some ⟨sa, 0, none⟩)) (h1 : Q (((((((z79.setIfInBounds 33 (.int .u8 (id j))).setIfInBounds 34 (.int .u8 ((j : Int) % 256))).setIfInBounds 35 (.int .u8 ((j : Int) / 256))).setIfInBounds 13 (.pointer (some ⟨r0 + j, 0, none⟩))).setIfInBounds 14 (.bool (wd j))).setIfInBounds 8 (.pointer (some ⟨sb, 0, none⟩))).setIfInBounds 9 (.int .i64 j)) (some ⟨sb, 0, none⟩)) (h2 : Q (((((z79.setIfInBounds 33 (.int .u8 (id j))).setIfInBounds 34 (.int .u8 ((j : Int) % 256))).setIfInBounds 35 (.int .u8 ((j : Int) / 256))).setIfInBounds 13 (.pointer (some ⟨r0 + j, 0, none⟩))).setIfInBounds 14 (.bool (wd j))) none) : Q (ringC sa sb r0 sel id wd j) (ptrR sa sb sel j) := by
  unfold ptrR
  cases e0 : (sel j % 3 == 0) with
  | true => rw [if_pos rfl, ringC_0 e0]; exact h0
  | false =>
    rw [if_neg (by simp)]
    cases e1 : (sel j % 3 == 1) with
    | true => rw [if_pos rfl, ringC_1 e0 e1]; exact h1
    | false => rw [if_neg (by simp), ringC_2 e0 e1]; exact h2
set_option maxRecDepth 100000 in
theorem ringC_cells (sa sb r0 : Nat) (sel id : Nat → Int) (wd : Nat → Bool) (j : Nat) : (ringC sa sb r0 sel id wd j)[8]? = some (.pointer (ptrR sa sb sel j)) ∧ (ringC sa sb r0 sel id wd j)[14]? = some (.bool (wd j)) ∧ (ringC sa sb r0 sel id wd j)[13]? = some (.pointer (some ⟨r0 + j, 0, none⟩)) ∧
    ∀ i v, (ids16 (by16 (idr id j)))[i]? = some v → (ringC sa sb r0 sel id wd j)[33 + i]? = some v := by
  refine ringC_cases (Q := fun C p => C[8]? = some (.pointer p) ∧ C[14]? = some (.bool (wd j)) ∧ C[13]? = some (.pointer (some ⟨r0 + j, 0, none⟩)) ∧ ∀ i v, (ids16 (by16 (idr id j)))[i]? = some v → C[33 + i]? = some v) sa sb r0 sel id wd j ?_ ?_ ?_ <;>
  · refine ⟨by kernel_rfl, by kernel_rfl, by kernel_rfl, fun i v hv => ?_⟩
    have hi : i < 16 := (List.getElem?_eq_some_iff.1 hv).1
    rw [← hv]
    have : i = 0 ∨ i = 1 ∨ i = 2 ∨ i = 3 ∨ i = 4 ∨ i = 5 ∨ i = 6 ∨ i = 7 ∨ i = 8 ∨ i = 9 ∨ i = 10 ∨ i = 11 ∨ i = 12 ∨ i = 13 ∨ i = 14 ∨ i = 15 := by omega
    rcases this with rfl | rfl | rfl | rfl | rfl | rfl | rfl | rfl | rfl | rfl | rfl | rfl | rfl | rfl | rfl | rfl <;> (show (_ : Option Value) = _; kernel_rfl)

theorem call6_rings (mr number : Int) (eb nb sa sb fb gb k : Nat) (nid : ByteArray) (sel id : Nat → Int) (wd : Nat → Bool) (ca cb arr : Array Value) (W : World) (hmr : mr ≠ 0) (hk : k ≤ 1024) (hsz : W.heap.size = gb + 1 + k + 1 + 1)
    (hN : NodeAt mr number eb nb W) (hne : eb < nb) (hns : nb < sa) (hsb : sb = sa + 1) (hfb : fb = sa + 2) (hgb : gb = sa + 3)
    (he : W.heap[eb]? = some (.cells #[.slice none 0 0, .slice none 0 0] 26 (0, 0))) (k0 : W.heap[sa]? = some (.cells ca 48 (0, 0))) (ka : ca[0]? = some (.string ⟨#[97]⟩)) (k1 : W.heap[sb]? = some (.cells cb 48 (0, 0)))
    (f0 : W.cell? ⟨fb, 0, none⟩ = some (.string nid)) (f24 : W.cell? ⟨fb, 24, none⟩ = some (.slice (some ⟨gb, 0, none⟩) k k)) (kg : W.heap[gb]? = some (.cells arr 65 (0, 0))) (hg : ∀ j, j < k → arr[j]? = some (.pointer (some ⟨gb + 1 + j, 0, none⟩)))
    (hR : ∀ j, j < k → W.heap[gb + 1 + j]? = some (.cells (ringC sa sb (gb + 1) sel id wd j) 79 (0, 0))) (m0 : W.cell? ⟨gb + 1 + k + 1, 0, none⟩ = some (.pointer (some ⟨fb, 0, none⟩))) (m1 : W.cell? ⟨gb + 1 + k + 1, 1, none⟩ = some (.pointer (some ⟨sa, 0, none⟩))) :
    Calls Ybad.prog 6 #[.pointer (some ⟨nb, 0, none⟩), .pointer (some ⟨gb + 1 + k + 1, 0, none⟩)] W fun e w' => e = .returned (.tuple #[]) ∧ RelA W.heap.size eb (gb + 1) k number nid ⟨#[97]⟩ (fun j => by16 (idr id j)) (actR sel wd) (ringC sa sb (gb + 1) sel id wd) W k w' := by
  have hc := ringC_cells sa sb (gb + 1) sel id wd
  refine all_rings mr number W.heap.size eb nb (gb + 1 + k + 1) fb gb sa (gb + 1) k k nid ⟨#[97]⟩ (ringC sa sb (gb + 1) sel id wd) (ptrR sa sb sel) (fun j => sel j % 3 == 0) wd (fun j => by16 (idr id j)) W hmr hk (Nat.le_refl _) hN (by omega) ⟨by omega, by omega⟩ (env_start he (by omega)) (by omega) (fun j hj => by omega)
    m0 m1 ⟨by omega, by omega, by omega⟩ f0 f24 ⟨by omega, by omega, by omega⟩ (fun j hj => (cell_of_row _ _ _ _ 65 (0, 0) kg).trans (hg j hj)) ⟨by omega, by omega, by omega⟩ ((cell_of_row _ _ _ _ 48 (0, 0) k0).trans ka) ⟨by omega, by omega, by omega⟩
    hR (fun j _ => (hc j).1) (fun j _ => (hc j).2.1) (fun j _ => (hc j).2.2.1) (fun j _ => (hc j).2.2.2) (fun j i => by16_one _ i) (fun j _ hh => if_pos hh) (fun j _ wr hkx => ?_)
  have hsa : wr.heap[sa]? = some (.cells ca 48 (0, 0)) := (hkx.block sa (by omega) (by omega)).trans k0
  have hsb' : wr.heap[sb]? = some (.cells cb 48 (0, 0)) := (hkx.block sb (by omega) (by omega)).trans k1
  unfold ptrR
  cases e0 : (sel j % 3 == 0) with
  | true => rw [if_pos rfl]; exact eqP_same sa wr
  | false =>
    rw [if_neg (by simp)]
    cases e1 : (sel j % 3 == 1) with
    | true => rw [if_pos rfl]; exact eqP_other sa sb wr (by omega) hsa hsb'
    | false => rw [if_neg (by simp)]; exact eqP_none sa wr
end Go.Proofs.YbulkbkkwDoor
