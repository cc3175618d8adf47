/-
  What 'laid' says of noRing; what the rows need of a world that is kept below.
-/
import Derived.Test.YbulkbkkwDoorPairD
import Derived.Test.YbulkbkkwDoorRows
import Derived.OpenShut
import Derived.OpenVars
import Derived.LaidLaws
namespace Go.Proofs.YbulkbkkwDoor
open Go.ChangeShapes Go.WideShapes Go.RowKit
set_option linter.unusedVariables false

theorem own : ownKnob Ybad.prog.godebug = none := by kernel_rfl
theorem laidOut : laidOutB Ybad.pinned.checked.prog = true := by kernel_rfl
theorem gN : Ybad.prog.globalNamed Rows.lawS3064BPairwiseRow.named.head! = some 0 := by kernel_rfl
theorem gNType : (Ybad.prog.globals[0]?).map (·.type) = some 72 := by kernel_rfl
theorem cells5 : Ybad.prog.cellsOf 5 = 1 := by kernel_rfl

theorem KeptX.frame {W w' : World} (h : KeptX (fun _ => False) W.heap.size W w') (may : MemPlace → Prop) : W.keptBut w' may := by
  refine ⟨h.os, h.output, fun i hi => ?_⟩
  rw [h.block i hi id]
  split <;> simp_all
theorem KeptX.same {W w' : World} (h : KeptX (fun _ => False) W.heap.size W w') {p : MemPlace} (hp : p.block < W.heap.size) : W.sameAt w' p := by
  cases p with
  | cell b o => exact World.cell?_of_block (w := W) (h.block b hp id)
  | map b => exact h.block b hp id
theorem KeptX.trodVars {H : Type} {enc : TypeId × Value → H} {P : Program} (hl : laidOutB P = true) {W W' : World} (hb : KeptX (fun _ => False) W.heap.size W W') {ns : List String} {gs : List (DataW H)} {ps : List MemPlace} (hv : varsRowed P ns = true) (h : DataW.TrodVars enc P W (fun _ => true) ns gs ps) : DataW.TrodVars enc P W' (fun b => decide (b < W.heap.size)) ns gs ps := by
  have hb' : Below W.heap.size W { W' with tape := W.tape } := ⟨hb.os, rfl, hb.output, hb.size, fun k hk => hb.block k hk id⟩
  have hh : ({ W' with tape := W.tape } : World).heap = W'.heap := rfl
  exact DataW.TrodVars.of_heap hh (hb'.trodVars hl hv h)

theorem noRing_of_laid {W : World} {r : List (String × DataW Unit)} {n : String} (hn : Ybad.prog.globalNamed n = some 0) (h : laidMet Ybad.prog ((n, Rows.laid_example_com_swarmbarter_swarmbarter_internal_barter_noRing) :: r) W) : W.rangeAt 0 0 (ids16 (by16 fun _ => 0)) := by
  obtain ⟨ps, ⟨g, t, cs, fuel, p, q, hg, ht, hvar, hd, _, _⟩, _⟩ := h
  obtain rfl := Option.some.inj (hn.symm.trans hg)
  obtain rfl := Option.some.inj (gNType.symm.trans ht)
  obtain ⟨xs, m, _, hx, hl, hlen, hi⟩ := DataW.trod_array Ybad.underlying72 hd
  obtain ⟨hagg, _⟩ := Prod.mk.inj hx
  have hmap : (Rows.laid_example_com_swarmbarter_swarmbarter_internal_barter_noRing : DataW Unit) = .agg (xs.map (·.1)) := hagg
  unfold Rows.laid_example_com_swarmbarter_swarmbarter_internal_barter_noRing at hmap
  have hmap' := DataW.agg.inj hmap
  intro j v hv
  have hj : j < 16 := (List.getElem?_eq_some_iff.1 hv).1
  have h1 := hi j hj
  rw [cells5, Nat.mul_one, List.getElem?_eq_getElem (by omega)] at h1
  obtain ⟨k, hk, hxk, _⟩ := DataW.trod_int Ybad.underlying5 h1
  have h2 : (xs.map (·.1))[j]? = some (.lit (.int .u8 k)) := by
    rw [List.getElem?_map, List.getElem?_eq_getElem (by omega), Option.map_some, hxk]
  rw [← hmap'] at h2
  have h3 : k = 0 ∧ v = .int .u8 0 := by
    have : j = 0 ∨ j = 1 ∨ j = 2 ∨ j = 3 ∨ j = 4 ∨ j = 5 ∨ j = 6 ∨ j = 7 ∨ j = 8 ∨ j = 9 ∨ j = 10 ∨ j = 11 ∨ j = 12 ∨ j = 13 ∨ j = 14 ∨ j = 15 := by omega
    rcases this with rfl | rfl | rfl | rfl | rfl | rfl | rfl | rfl | rfl | rfl | rfl | rfl | rfl | rfl | rfl | rfl <;> (simp [ids16, by16] at h2 hv; exact ⟨h2.symm, hv.symm⟩)
  obtain ⟨rfl, rfl⟩ := h3
  rw [Nat.zero_add, World.var?_cell hg hvar j]
  have h4 : (cs.toList.drop j).take 1 = [.int .u8 0] := hk
  have h5 : cs.toList[j]? = some (.int .u8 0) := by
    have : ((cs.toList.drop j).take 1)[0]? = some (.int .u8 0) := by rw [h4]; rfl
    simpa using this
  simpa using h5
end Go.Proofs.YbulkbkkwDoor
