/-
  'Rows.LawS3064BPairwiseCardSaid', proved: the row under 'laid' (noRing holds sixteen zero bytes), the card by the builder for tied cards; the tie is given.
-/
import Derived.Test.YbulkbkkwDoorLaid
import Derived.Test.YbulkbkkwDoorPairB
import Derived.Test.YbulkbkkwDoorPairC
import Derived.Test.YbulkbkkwDoorPairE
import Derived.Test.YbulkbkkwDoorCards
import Derived.Test.YbulkbkkwDoorTie
import Derived.ProofKit
import Derived.ChangeMaps5
import Derived.WideKeyArgs
import Derived.Handed
import Derived.SevenTiedAt
namespace Go.Proofs.YbulkbkkwDoor
open Go.ChangeShapes Go.WideShapes Go.ChangeAt Go.RowKit
open Go.ChangeMaps (open_string shut_string)
set_option linter.unusedVariables false

theorem pair_walk (nid sw : ByteArray) (number : Int) (b3 b4 b5 : Bool) (x : Int) (w : World) (h0 : w.rangeAt 0 0 (ids16 (by16 fun _ => 0))) :
    Calls Ybad.prog 3 #[.string nid, .string sw, .int .i32 number, .bool b3, .bool b4, .bool b5, .int .u8 x] w fun e w' => e = .returned (.bool true) ∧ KeptX (fun _ => False) w.heap.size w w' := by
  cases b3 with
  | false => cases b5 with
    | false => exact pair_a nid sw number b4 x w h0
    | true => exact pair_b nid sw number b4 x w h0
  | true => cases b4 with
    | true => cases b5 with
      | false => exact pair_c nid sw number x w h0
      | true => exact pair_d nid sw number x w h0
    | false => cases b5 with
      | false => exact pair_e nid sw number x w h0
      | true => exact pair_f nid sw number x w h0

theorem pair_laid_met (os : Os) (args : Array Value) : laidMet Ybad.prog Rows.lawS3064BPairwiseRow.laid ((World.holding Ybad.prog os ⟨#[], #[], []⟩).forCall (fun _ _ => 0) ⟨#[], args, []⟩).memory :=
  laidMet_of_run' 8 (by kernel_rfl) (by kernel_rfl)

set_option maxRecDepth 100000 in
theorem pair_lifted (os : Os) (started : os.Started) (H : Type) (enc : TypeId × Value → H) :
    ReturnsInHanded {} Ybad.checked os 3 .any (fun w args => (Rows.lawS3064BPairwiseSpec.pre enc Ybad.prog Ybad.f3 [] false w args ∧ laidMet Ybad.prog Rows.lawS3064BPairwiseRow.laid w) ∧ sizedMet enc Ybad.prog Ybad.f3 (OpenSpec.ofChange Rows.lawS3064BPairwiseSpec) false w args)
      (Rows.lawS3064BPairwiseSpec.post enc Ybad.prog Ybad.f3 false true false false) := by
  refine returnsInHanded_of_change_and (C := Ybad.checked) (X := fun w _ => laidMet Ybad.prog Rows.lawS3064BPairwiseRow.laid w) (fun _ _ _ hh h => h.of_heap hh) own started (by kernel_rfl) Ybad.func3
    (ChangeSpec.witness_at (enc := enc) (C := Ybad.checked) (os := os) (X := fun w _ => laidMet Ybad.prog Rows.lawS3064BPairwiseRow.laid w) false (World.holding Ybad.prog os ⟨#[], #[], []⟩) #[.string ⟨#[]⟩, .string ⟨#[]⟩, .int .i32 0, .bool false, .bool false, .bool false, .int .u8 0] 8 rfl (by kernel_rfl) (by kernel_rfl) (by kernel_rfl) (by kernel_rfl) (by kernel_rfl) (pair_laid_met os _)) ?_
  intro W base args ds gs before hval0 hW _ _ hL _
  have hval : ∀ (j : Nat) t v, Ybad.f3.params[j]? = some t → args[j]? = some v → Value.okWide Ybad.prog W .any base t v := hval0
  have hW' := hW
  obtain ⟨p, q, hA0, hV, rfl, hfz, hnd⟩ := hW
  have hA : DataW.TrodAll enc Ybad.prog W 0 (fun _ => true) true Ybad.f3.params.toList args.toList ds p := hA0
  rw [Ybad.params3] at hA hval
  obtain ⟨v0, vs0, d0, ds0, p0, q0, hargs, rfl, rfl, h0, r0⟩ := trodAll_cons hA
  obtain ⟨v1, vs1, d1, ds1, p1, q1, rfl, rfl, rfl, h1, r1⟩ := trodAll_cons r0
  obtain ⟨v2, vs2, d2, ds2, p2, q2, rfl, rfl, rfl, h2, r2⟩ := trodAll_cons r1
  obtain ⟨v3, vs3, d3, ds3, p3, q3, rfl, rfl, rfl, h3, r3⟩ := trodAll_cons r2
  obtain ⟨v4, vs4, d4, ds4, p4, q4, rfl, rfl, rfl, h4, r4⟩ := trodAll_cons r3
  obtain ⟨v5, vs5, d5, ds5, p5, q5, rfl, rfl, rfl, h5, r5⟩ := trodAll_cons r4
  obtain ⟨v6, vs6, d6, ds6, p6, q6, rfl, rfl, rfl, h6, r6⟩ := trodAll_cons r5
  obtain ⟨rfl, rfl, rfl⟩ := trodAll_nil r6
  obtain rfl : args = #[v0, v1, v2, v3, v4, v5, v6] := by cases args; simp_all
  obtain ⟨g1, rfl⟩ : ∃ g, gs = [g] := by
    obtain ⟨_, _, _, _, d, _, h, _⟩ := trodVars_one hV
    exact ⟨d, h⟩
  obtain ⟨s0, rfl, rfl, rfl, z0⟩ := open_string Ybad.underlying9 (hval 0 9 v0 rfl rfl) h0
  obtain ⟨s1, rfl, rfl, rfl, z1⟩ := open_string Ybad.underlying9 (hval 1 9 v1 rfl rfl) h1
  obtain ⟨i2, rfl, rfl, rfl, z2⟩ := open_int Ybad.underlying21 (hval 2 21 v2 rfl rfl) h2
  obtain ⟨b3, rfl, rfl, rfl⟩ := open_bool Ybad.underlying4 (hval 3 4 v3 rfl rfl) h3
  obtain ⟨b4, rfl, rfl, rfl⟩ := open_bool Ybad.underlying4 (hval 4 4 v4 rfl rfl) h4
  obtain ⟨b5, rfl, rfl, rfl⟩ := open_bool Ybad.underlying4 (hval 5 4 v5 rfl rfl) h5
  obtain ⟨i6, rfl, rfl, rfl, z6⟩ := open_int Ybad.underlying5 (hval 6 5 v6 rfl rfl) h6
  have hnr := noRing_of_laid gN hL
  clear hA0 hval0
  refine (pair_walk s0 s1 i2 b3 b4 b5 i6 W hnr).mono fun e W' ⟨he, bel⟩ => ?_
  subst he
  exact ⟨_, rfl, _, _, _, [], _, _, hW', trodAll_mk1 (shut_bool Ybad.underlying4 _), (trodAll_cons_mk (shut_string Ybad.underlying9 z0) (trodAll_cons_mk (shut_string Ybad.underlying9 z1) (trodAll_cons_mk (shut_int Ybad.underlying21 z2) (trodAll_cons_mk (shut_bool Ybad.underlying4 _) (trodAll_cons_mk (shut_bool Ybad.underlying4 _) (trodAll_cons_mk (shut_bool Ybad.underlying4 _) (trodAll_cons_mk (shut_int Ybad.underlying5 z6) trodAll_mk0))))))), bel.trodVars laidOut (by kernel_rfl) hV, bel.frame _, fun h => by cases h⟩

theorem pair_over : Rows.LawS3064BPairwiseSaid :=
  OpenClaim.holds_of_wide 3 Ybad.f3 rfl rfl rfl rfl rfl rfl rfl ⟨rfl, rfl, rfl, rfl, rfl⟩ rfl rfl rfl rfl rfl (by kernel_rfl) Ybad.func3 (by kernel_rfl)
    (of_decide_eq_true (by kernel_rfl)) (by unfold Func.isWrapper; first | (rw [if_pos (by decide +kernel)]; kernel_rfl) | (rw [if_neg (by decide +kernel)]; exact ⟨rfl, rfl⟩))
    (fun os started H enc _ => pair_lifted os started H enc)

/-- ████ THE STATEMENT ████ -/
theorem pair_proved : Rows.LawS3064BPairwiseCardSaid :=
  Claim7.holds_tied_plain_at .later [] [.zero] true (true, "079e7ce8a8b2c0946c9406b3ea47865f7dcdc8b6c5edc306540693864d5ccb32") false
    pair_over (fun _ h => by cases h) (by kernel_rfl) (fun _ h => by cases h) lawS3064BPairwise_row_tie rfl ⟨rfl, rfl⟩ (by kernel_rfl) rfl
    (fun f fn hf hfn => by
      obtain rfl : f = 3 := Option.some.inj ((show Ybad.prog.funcNamed Rows.lawS3064BPairwiseRow.func = some 3 by kernel_rfl).symm.trans hf) |>.symm
      obtain rfl : fn = Ybad.f3 := (Option.some.inj (Ybad.func3.symm.trans hfn)).symm
      exact ⟨by kernel_rfl, fun j t ht => by
        rw [Ybad.params3] at ht
        have hm : t ∈ [9, 9, 21, 4, 4, 4, 5] := by simpa using Array.mem_of_getElem? ht
        have hall : ([9, 9, 21, 4, 4, 4, 5].all fun u => !Ybad.prog.wantsStandIn u) = true := by kernel_rfl
        exact (show Ybad.prog.wantsStandIn t = false by simpa using List.all_eq_true.1 hall t hm)⟩)
    (by kernel_rfl)

#print axioms pair_proved
end Go.Proofs.YbulkbkkwDoor
