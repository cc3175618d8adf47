/-
  'Rows.LawS3062ARoundTripToldSaid', proved: the row by the told wrap (no road of the law comes to fmt), the card by the builder for told and tied cards; the tie is given.
-/
import Derived.Test.YbulkbkjuFmtLaw
import Derived.Test.YbulkbkjuFmtCards
import Derived.Test.YbulkbkjuFmtTie
import Derived.ProofKit
import Derived.WideKeyArgs
import Derived.OpenShut
import Derived.RowKitTokens
import Derived.Stop.JoinedAt
import Derived.Stop.JoinedTold
import Derived.Stop.LaidErr
import Derived.SevenTiedAt
namespace Go.Proofs.YbulkbkjuFmt
open Go.ChangeShapes Go.WideShapes Go.ChangeAt Go.RowKit
set_option linter.unusedVariables false

theorem own : ownKnob Ybaf.prog.godebug = none := by kernel_rfl
theorem laidOut : laidOutB Ybaf.pinned.checked.prog = true := by kernel_rfl
theorem stops : Ybaf.pinned.checked.prog.stops = ["fmt.Sprintf", "fmt.errorf"] := by kernel_rfl
theorem stopKnobs : Ybaf.pinned.checked.prog.stopKnobs = [] := by kernel_rfl
theorem quiet (os : Os) : Stop.quiet Ybaf.pinned.checked.prog os := by
  intro k hk
  rw [stopKnobs] at hk
  cases hk

-- the sentinel
theorem gE : Ybaf.prog.globalNamed Rows.lawS3062ARoundTripRow.named.head! = some 0 := by kernel_rfl
theorem gEType : (Ybaf.prog.globals[0]?).map (·.type) = some 26 := by kernel_rfl
theorem cells48 : Ybaf.prog.cellsOf 48 = 1 := by kernel_rfl
theorem cells9 : Ybaf.prog.cellsOf 9 = 1 := by kernel_rfl
theorem star : "*" ++ "errors.errorString" = "*errors.errorString" := by decide
theorem row46 (u : TypeId) (h : Ybaf.prog.typeName? 3 u = some "*errors.errorString") : u = 46 :=
  typeName_ptr_named (nm := "errors.errorString") (by rw [star]; kernel_rfl) (by kernel_rfl) (by decide) u (by rw [star]; exact h)

/-! ### One start that fits -/
def sentText : ByteArray := { data := #[110, 111, 116, 32, 116, 104, 101, 32, 99, 111, 109, 112, 97, 99, 116, 32, 102, 111, 114, 109, 32, 111, 102, 32, 97, 32, 110, 117, 109, 98, 101, 114] }
/-- A world in which variable 0 points to the block 'n'. -/
def laidOn (w0 : World) (n : Nat) : World :=
  { w0 with heap := w0.heap.modify 0 fun
      | .cells _ t frozen => .cells #[.iface 46 (.pointer (some ⟨n, 0, none⟩))] t frozen
      | o => o }
theorem laid_met (os : Os) (args : Array Value) : laidMet Ybaf.prog Rows.lawS3062ARoundTripRow.laid
    ((laidOn (World.holding Ybaf.prog os ⟨#[.cells #[.string sentText] 48], #[], []⟩) (World.holding Ybaf.prog default ⟨#[], #[], []⟩).heap.size).forCall (fun _ _ => 0) ⟨#[], args, []⟩).memory :=
  laidMet_of_run (ps := [.cell 0 0, .cell (World.holding Ybaf.prog default ⟨#[], #[], []⟩).heap.size 0]) 8 (by kernel_rfl) (by kernel_rfl) (by kernel_rfl)

theorem var?_kept {P : Program} {B g : Nat} {W W' : World} {n : String} {cs : Array Value} (h : Kept B W W') (hg : P.globalNamed n = some g) (hgB : g < B) (hv : W.var? P n = some cs) : W'.var? P n = some cs := by
  unfold World.var? at hv ⊢
  simp only [hg, Option.bind_some] at hv ⊢
  rw [h.block g hgB]
  exact hv

set_option maxRecDepth 100000 in
theorem lifted (os : Os) (started : os.Started) (H : Type) (enc : TypeId × Value → H) :
    ReturnsInTold none {} Ybaf.checked os 3 .any Input.okWide ((OpenSpec.ofChange Rows.lawS3062ARoundTripSpec).preRow enc Ybaf.prog Ybaf.f3 [] false Rows.lawS3062ARoundTripRow.laid) (fun F => ((OpenSpec.ofChange Rows.lawS3062ARoundTripSpec).at F).post enc Ybaf.prog Ybaf.f3 false true false false) (aloneAtReturn Ybaf.prog) nothingAlways := by
  refine returnsInTold_of_row (C := Ybaf.checked) (s := OpenSpec.ofChange Rows.lawS3062ARoundTripSpec) (by kernel_rfl) own started (by kernel_rfl) Ybaf.func3
    (OpenSpec.witness_stopped_at (enc := enc) (C := Ybaf.checked) false (laidOn (World.holding Ybaf.prog os ⟨#[.cells #[.string sentText] 48], #[], []⟩) (World.holding Ybaf.prog default ⟨#[], #[], []⟩).heap.size) #[.slice none 0 0, .int .i64 0, .int .u8 0] rfl (by kernel_rfl) (by kernel_rfl) (by kernel_rfl)
      (OpenSpec.preRow_of_B rfl 8 (by kernel_rfl) (by kernel_rfl) (laid_met os _))) ?_
  intro F W base args ds gs before _ hF hval0 hW _ _ _ hL _
  have hval : ∀ (j : Nat) t v, Ybaf.f3.params[j]? = some t → args[j]? = some v → Value.okWide Ybaf.prog W .any base t v := hval0
  have hW' := hW
  obtain ⟨p, q, hA0, hV0, rfl, hfz, hnd⟩ := hW
  have hA : DataW.TrodAll enc Ybaf.prog W 0 (fun _ => true) true Ybaf.f3.params.toList args.toList ds p := hA0
  have hV : DataW.TrodVars enc Ybaf.prog W (fun _ => true) [Rows.lawS3062ARoundTripRow.named.head!] gs q := hV0
  rw [Ybaf.params3] at hA hval
  obtain ⟨v0, v1, v2, d0, d1, d2, p0, p1, p2, rfl, rfl, rfl, h0, h1, h2⟩ := trodAll_three hA
  obtain ⟨aS, s1, hv1, hc1, hs1, hz1⟩ := laid_sentinel hL gE gEType Ybaf.underlying26 row46 Ybaf.underlying46 Ybaf.underlying48 rfl rfl Ybaf.underlying9 cells48 cells9
  obtain ⟨rfl, rfl⟩ := hV.unique (vars_read1 enc gE gEType Ybaf.underlying26 hv1 trivial _)
  obtain ⟨a0, len0, cap0, rfl⟩ := okWide_slice Ybaf.underlying22 (hval 0 22 v0 rfl rfl)
  have k0 := h0
  have lt0 : ∀ x ∈ p0, x.block < W.heap.size := by obtain ⟨m, hm⟩ := k0; exact DataW.trod_lt m _ _ _ hm
  obtain ⟨a1, rfl, rfl, rfl, w1⟩ := open_int Ybaf.underlying2 (hval 1 2 v1 rfl rfl) h1
  obtain ⟨a2, rfl, rfl, rfl, w2⟩ := open_int Ybaf.underlying5 (hval 2 5 v2 rfl rfl) h2
  have hg0 : (0 : Nat) < W.heap.size := by
    have := World.var?_cell gE hv1 0
    exact World.block_lt_of_cell? W _ (u := .iface 46 (.pointer (some aS))) (by simpa using this)
  obtain ⟨zs, hz, hb⟩ : ∃ zs : List Int, zs.length = len0 ∧ (len0 = 0 ∨ ∃ g o, a0 = some ⟨g, o, none⟩ ∧ g < W.heap.size ∧ ∀ i, i < len0 → W.cell? ⟨g, o + i, none⟩ = some (.int .u8 (zs.getD i 0))) := by
    obtain ⟨fuel, hf⟩ := h0
    rcases open_ints Ybaf.underlying22 Ybaf.underlying5 (by kernel_rfl) hf with ⟨hcs, _⟩ | ⟨x, l, c, zs, hcs, _, hl, hm, hz, _, hcell, hwz⟩
    · simp [Value.cells] at hcs
      obtain ⟨rfl, rfl, rfl⟩ := hcs
      exact ⟨[], rfl, .inl rfl⟩
    · simp [Value.cells] at hcs
      obtain ⟨rfl, rfl, rfl⟩ := hcs
      have hz' : zs.length = cap0 := by simpa using hz
      refine ⟨zs.take len0, by rw [List.length_take]; omega, ?_⟩
      by_cases h0 : len0 = 0
      · exact .inl h0
      · obtain ⟨g, o, spot⟩ := x
        have c0 := hcell 0 (by omega)
        have hspot : spot = none := by simpa [Addr.add] using World.cell?_spot c0
        subst hspot
        refine .inr ⟨g, o, rfl, World.block_lt_of_cell? W _ c0, fun i hi => ?_⟩
        have := hcell i (by omega)
        rw [Addr.add_lit] at this
        rw [this]
        simp [List.getD_eq_getElem?_getD, hi]
  have hbd := bounds_u8 w2
  clear hA0 hV0 hval0
  refine (walk a0 len0 cap0 zs a1 a2 W hz hb (by omega) (by omega)).mono fun e W' ⟨he, bel⟩ => ?_
  subst he
  refine ⟨_, rfl, _, _, _, [], _, [.cell 0 0], hW', trodAll_mk1 (shut_bool Ybaf.underlying4 _), (trodAll_mk3 (WideElems.Trod_stays laidOut (by kernel_rfl) (of_decide_eq_true (by kernel_rfl)) k0 (fun x hx => bel.same (lt0 x hx)) (fun x hx => by simpa using lt0 x hx)) (shut_int Ybaf.underlying2 w1) (shut_int Ybaf.underlying5 w2)), ?_, bel.frame _, fun h => by cases h⟩
  exact vars_read1 enc gE gEType Ybaf.underlying26 (var?_kept bel gE hg0 hv1) trivial _

/-- ████ THE STATEMENT ████ -/
theorem proved : Rows.LawS3062ARoundTripToldSaid :=
  Claim7.holds_of_told_tied_any_at .later 3 Ybaf.f3 "fmt.Sprintf" ["fmt.errorf"] [] _ _ _ _ _ (by kernel_rfl) rfl rfl rfl laidOut (by kernel_rfl) rfl ⟨rfl, rfl, rfl, rfl, rfl, rfl, rfl⟩ rfl rfl (by kernel_rfl) (by kernel_rfl) Ybaf.func3 (by kernel_rfl)
    (of_decide_eq_true (by kernel_rfl)) (of_decide_eq_true (by kernel_rfl)) stops.symm rfl stopKnobs.symm (by kernel_rfl)
    (by kernel_rfl) (by kernel_rfl) (by kernel_rfl) (by kernel_rfl) (by kernel_rfl) (by kernel_rfl) (by kernel_rfl) (by kernel_rfl) (by kernel_rfl) rfl (by kernel_rfl) rfl rfl
    rfl rfl
    rfl (by kernel_rfl) (by kernel_rfl) (by kernel_rfl) (by decide) (by kernel_rfl) lawS3062ARoundTrip_row_tie
    (OpenClaim.moreEntering_of (by kernel_rfl) (by kernel_rfl) (by kernel_rfl) (by kernel_rfl) (by kernel_rfl) (by kernel_rfl) (by kernel_rfl) (by kernel_rfl) (by kernel_rfl) (by kernel_rfl))
    ⟨_, WideRow.started_initial, quiet _⟩
    (fun os started _ H enc _ => lifted os started H enc)

#print axioms proved
end Go.Proofs.YbulkbkjuFmt
