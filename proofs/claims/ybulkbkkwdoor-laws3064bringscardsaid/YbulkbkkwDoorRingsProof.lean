/-
  'Rows.LawS3064BRingsCardSaid', proved: the row under 'laid', the card by the builder for tied cards; the tie is given.
-/
import Derived.Test.YbulkbkkwDoorLaid
import Derived.Test.YbulkbkkwDoorRings4
import Derived.Test.YbulkbkkwDoorCards
import Derived.Test.YbulkbkkwDoorTie
import Derived.ProofKit
import Derived.ChangeMaps5
import Derived.WideKeyArgs
import Derived.Handed
import Derived.SevenTiedAt
import Derived.Deep.Slices
namespace Go.Proofs.YbulkbkkwDoor
open Go.ChangeShapes Go.WideShapes Go.ChangeAt Go.RowKit
open Go.ChangeMaps (open_string shut_string)
set_option linter.unusedVariables false

theorem fields93 : ∃ f0 f1 f2 : Field, Ybad.prog.underlying 93 = some (.struct #[f0, f1, f2]) ∧ f0.offset = 0 ∧ f0.type = 5 ∧ f1.offset = 1 ∧ f1.type = 4 ∧ f2.offset = 2 ∧ f2.type = 5 := ⟨_, _, _, Ybad.underlying93, rfl, rfl, rfl, rfl, rfl, rfl⟩
theorem under91 : Ybad.prog.underlying 91 = some (.slice 93) := by kernel_rfl
theorem cells93 : Ybad.prog.cellsOf 93 = 3 := by kernel_rfl
theorem cells4 : Ybad.prog.cellsOf 4 = 1 := by kernel_rfl

theorem three {α : Type} {l : List α} (h : l.length = 3) : ∃ a b c, l = [a, b, c] := by
  match l, h with
  | [a, b, c], _ => exact ⟨a, b, c, rfl⟩

/-- The first argument, opened. -/
theorem open_in {H : Type} {enc : TypeId × Value → H} {W : World} {base : Nat} {spare : Nat → Bool} {held : Bool} {a0 : Option Addr} {len cap : Nat} {fuel : Nat} {x : DataW H × List MemPlace} (h : DataW.trod enc Ybad.prog W base spare held fuel 91 [.slice a0 len cap] = some x) :
    ∃ (sel id : Nat → Int) (wd : Nat → Bool), (∀ k, 0 ≤ sel k ∧ sel k ≤ 255) ∧ ∀ k, k < len → InAt a0 sel id wd W.heap.size W k := by
  rcases Deep.open_slice under91 h with ⟨hc, _⟩ | ⟨a, len', cap', m, n, D, Pl, hc, _, hlc, _, hm, _, hx⟩
  · simp at hc
    obtain ⟨rfl, rfl, rfl⟩ := hc
    exact ⟨fun _ => 0, fun _ => 0, fun _ => false, fun _ => ⟨Int.le_refl 0, by show (0 : Int) ≤ 255; decide⟩, fun k hk => by omega⟩
  · simp at hc
    obtain ⟨rfl, rfl, rfl⟩ := hc
    have hlm : len ≤ m := by rw [hm]; split <;> omega
    obtain ⟨f0, f1, f2, he, o0, t0, o1, t1, o2, t2⟩ := fields93
    have each : ∀ k, k < len → ∃ q : Int × Bool × Int, (0 ≤ q.1 ∧ q.1 ≤ 255) ∧ W.cell? (a.add (k * 3)) = some (.int .u8 q.1) ∧ W.cell? (a.add (k * 3 + 1)) = some (.bool q.2.1) ∧ W.cell? (a.add (k * 3 + 2)) = some (.int .u8 q.2.2) := by
      intro k hk
      obtain ⟨cs, h1, h2⟩ := hx k (by omega)
      rw [cells93] at h1
      obtain ⟨_, hlen, hcell⟩ := World.cells?_some h1
      obtain ⟨xs, n1, _, _, _, hxl, hf⟩ := DataW.trod_struct he h2
      have hxl' : xs.length = 3 := hxl
      have g0 := hf 0 f0 rfl
      have g1 := hf 1 f1 rfl
      have g2 := hf 2 f2 rfl
      rw [o0, t0, cells5, List.getElem?_eq_getElem (by omega)] at g0
      rw [o1, t1, cells4, List.getElem?_eq_getElem (by omega)] at g1
      rw [o2, t2, cells5, List.getElem?_eq_getElem (by omega)] at g2
      obtain ⟨n0, e0, _, w0⟩ := DataW.trod_int Ybad.underlying5 g0
      obtain ⟨b1, e1, _⟩ := DataW.trod_bool Ybad.underlying4 g1
      obtain ⟨n2, e2, _, _⟩ := DataW.trod_int Ybad.underlying5 g2
      have c0 := hcell 0 (by omega)
      have c1 := hcell 1 (by omega)
      have c2 := hcell 2 (by omega)
      rw [Deep.add_add] at c0 c1 c2
      obtain ⟨v0, v1, v2, rfl⟩ := three hlen
      simp at e0 e1 e2 c0 c1 c2
      subst e0 e1 e2
      exact ⟨(n0, b1, n2), bounds_u8 w0, c0, c1, c2⟩
    obtain ⟨q, hq⟩ := Deep.choose_lt each
    refine ⟨fun k => if k < len then (q k).1 else 0, fun k => (q k).2.2, fun k => (q k).2.1, fun k => ?_, fun k hk => ?_⟩
    · by_cases hk : k < len
      · simp only [if_pos hk]; exact (hq k hk).1
      · simp only [if_neg hk]; omega
    · obtain ⟨ab, ao, sp⟩ := a
      have hs : sp = none := by
        have h0 := (hq 0 (by omega)).2.1
        unfold World.cell? at h0
        cases sp with
        | none => rfl
        | some s =>
          simp [Addr.add] at h0
          split at h0 <;> simp at h0
      subst hs
      obtain ⟨_, c0, c1, c2⟩ := hq k hk
      have ad : ∀ i, (⟨ab, ao, none⟩ : Addr).add i = ⟨ab, ao + i, none⟩ := fun i => by unfold Addr.add; split <;> simp_all
      rw [ad] at c0 c1 c2
      refine ⟨ab, ao, rfl, World.block_lt_of_cell? W _ c0, ?_, ?_, ?_⟩
      · simp only [if_pos hk]; exact c0
      · exact c1
      · exact c2

theorem rings_walk (a0 : Option Addr) (len cap : Nat) (sel id : Nat → Int) (wd : Nat → Bool) (x number : Int) (nid : ByteArray) (w : World) (hx : 0 ≤ x ∧ x ≤ 255)
    (hsel : ∀ k, 0 ≤ sel k ∧ sel k ≤ 255) (hin : ∀ k, k < len → InAt a0 sel id wd w.heap.size w k) :
    Calls Ybad.prog 4 #[.slice a0 len cap, .int .u8 x, .int .i32 number, .string nid] w fun e w' => e = .returned (.bool true) ∧ KeptX (fun _ => False) w.heap.size w w' := by
  by_cases hl : 1024 < len
  · exact rings_long a0 len cap x number nid w hl
  · exact rings4 a0 len cap sel id wd x number nid w (by omega) hx hsel hin

theorem rings_laid_met (os : Os) (args : Array Value) : laidMet Ybad.prog Rows.lawS3064BRingsRow.laid ((World.holding Ybad.prog os ⟨#[], #[], []⟩).forCall (fun _ _ => 0) ⟨#[], args, []⟩).memory :=
  laidMet_of_run' 8 (by kernel_rfl) (by kernel_rfl)

set_option maxRecDepth 100000 in
theorem rings_lifted (os : Os) (started : os.Started) (H : Type) (enc : TypeId × Value → H) :
    ReturnsInHanded {} Ybad.checked os 4 .any (fun w args => (Rows.lawS3064BRingsSpec.pre enc Ybad.prog Ybad.f4 [] false w args ∧ laidMet Ybad.prog Rows.lawS3064BRingsRow.laid w) ∧ sizedMet enc Ybad.prog Ybad.f4 (OpenSpec.ofChange Rows.lawS3064BRingsSpec) false w args)
      (Rows.lawS3064BRingsSpec.post enc Ybad.prog Ybad.f4 false true false false) := by
  refine returnsInHanded_of_change_and (C := Ybad.checked) (X := fun w _ => laidMet Ybad.prog Rows.lawS3064BRingsRow.laid w) (fun _ _ _ hh h => h.of_heap hh) own started (by kernel_rfl) Ybad.func4
    (ChangeSpec.witness_at (enc := enc) (C := Ybad.checked) (os := os) (X := fun w _ => laidMet Ybad.prog Rows.lawS3064BRingsRow.laid w) false (World.holding Ybad.prog os ⟨#[], #[], []⟩) #[.slice none 0 0, .int .u8 0, .int .i32 0, .string ⟨#[]⟩] 8 rfl (by kernel_rfl) (by kernel_rfl) (by kernel_rfl) (by kernel_rfl) (by kernel_rfl) (rings_laid_met os _)) ?_
  intro W base args ds gs before hval0 hW _ _ hL _
  have hval : ∀ (j : Nat) t v, Ybad.f4.params[j]? = some t → args[j]? = some v → Value.okWide Ybad.prog W .any base t v := hval0
  have hW' := hW
  obtain ⟨p, q, hA0, hV, rfl, hfz, hnd⟩ := hW
  have hA : DataW.TrodAll enc Ybad.prog W 0 (fun _ => true) true Ybad.f4.params.toList args.toList ds p := hA0
  rw [Ybad.params4] at hA hval
  obtain ⟨v0, vs0, d0, ds0, p0, q0, hargs, rfl, rfl, h0, r0⟩ := trodAll_cons hA
  obtain ⟨v1, vs1, d1, ds1, p1, q1, rfl, rfl, rfl, h1, r1⟩ := trodAll_cons r0
  obtain ⟨v2, vs2, d2, ds2, p2, q2, rfl, rfl, rfl, h2, r2⟩ := trodAll_cons r1
  obtain ⟨v3, vs3, d3, ds3, p3, q3, rfl, rfl, rfl, h3, r3⟩ := trodAll_cons r2
  obtain ⟨rfl, rfl, rfl⟩ := trodAll_nil r3
  obtain rfl : args = #[v0, v1, v2, v3] := by cases args; simp_all
  obtain ⟨g1, rfl⟩ : ∃ g, gs = [g] := by
    obtain ⟨_, _, _, _, d, _, h, _⟩ := trodVars_one hV
    exact ⟨d, h⟩
  obtain ⟨a0, len0, cap0, rfl⟩ := okWide_slice under91 (hval 0 91 v0 rfl rfl)
  have k0 := h0
  have lt0 : ∀ x ∈ p0, x.block < W.heap.size := by obtain ⟨m, hm⟩ := k0; exact DataW.trod_lt m _ _ _ hm
  obtain ⟨sel, id, wd, hsel, hin⟩ : ∃ (sel id : Nat → Int) (wd : Nat → Bool), (∀ k, 0 ≤ sel k ∧ sel k ≤ 255) ∧ ∀ k, k < len0 → InAt a0 sel id wd W.heap.size W k := by
    obtain ⟨fuel, hf⟩ := h0
    exact open_in hf
  obtain ⟨i1, rfl, rfl, rfl, z1⟩ := open_int Ybad.underlying5 (hval 1 5 v1 rfl rfl) h1
  obtain ⟨i2, rfl, rfl, rfl, z2⟩ := open_int Ybad.underlying21 (hval 2 21 v2 rfl rfl) h2
  obtain ⟨s3, rfl, rfl, rfl, z3⟩ := open_string Ybad.underlying9 (hval 3 9 v3 rfl rfl) h3
  clear hA0 hval0
  refine (rings_walk a0 len0 cap0 sel id wd i1 i2 s3 W (by have := bounds_u8 z1; omega) hsel hin).mono fun e W' ⟨he, bel⟩ => ?_
  subst he
  exact ⟨_, rfl, _, _, _, [], _, _, hW', trodAll_mk1 (shut_bool Ybad.underlying4 _), (trodAll_cons_mk (WideElems.Trod_stays laidOut (by kernel_rfl) (of_decide_eq_true (by kernel_rfl)) k0 (fun x hx => bel.same (lt0 x hx)) (fun x hx => by simpa using lt0 x hx)) (trodAll_cons_mk (shut_int Ybad.underlying5 z1) (trodAll_cons_mk (shut_int Ybad.underlying21 z2) (trodAll_cons_mk (shut_string Ybad.underlying9 z3) trodAll_mk0)))), bel.trodVars laidOut (by kernel_rfl) hV, bel.frame _, fun h => by cases h⟩

theorem rings_over : Rows.LawS3064BRingsSaid :=
  OpenClaim.holds_of_wide 4 Ybad.f4 rfl rfl rfl rfl rfl rfl rfl ⟨rfl, rfl, rfl, rfl, rfl⟩ rfl rfl rfl rfl rfl (by kernel_rfl) Ybad.func4 (by kernel_rfl)
    (of_decide_eq_true (by kernel_rfl)) (by unfold Func.isWrapper; first | (rw [if_pos (by decide +kernel)]; kernel_rfl) | (rw [if_neg (by decide +kernel)]; exact ⟨rfl, rfl⟩))
    (fun os started H enc _ => rings_lifted os started H enc)

/-- ████ THE STATEMENT ████ -/
theorem rings_proved : Rows.LawS3064BRingsCardSaid :=
  Claim7.holds_tied_plain_at .later [] [.zero] true (true, "079e7ce8a8b2c0946c9406b3ea47865f7dcdc8b6c5edc306540693864d5ccb32") false
    rings_over (fun _ h => by cases h) (by kernel_rfl) (fun _ h => by cases h) lawS3064BRings_row_tie rfl ⟨rfl, rfl⟩ (by kernel_rfl) rfl
    (fun f fn hf hfn => by
      obtain rfl : f = 4 := Option.some.inj ((show Ybad.prog.funcNamed Rows.lawS3064BRingsRow.func = some 4 by kernel_rfl).symm.trans hf) |>.symm
      obtain rfl : fn = Ybad.f4 := (Option.some.inj (Ybad.func4.symm.trans hfn)).symm
      exact ⟨by kernel_rfl, fun j t ht => by
        rw [Ybad.params4] at ht
        have hm : t ∈ [91, 5, 21, 9] := by simpa using Array.mem_of_getElem? ht
        have hall : ([91, 5, 21, 9].all fun u => !Ybad.prog.wantsStandIn u) = true := by kernel_rfl
        exact (show Ybad.prog.wantsStandIn t = false by simpa using List.all_eq_true.1 hall t hm)⟩)
    (by kernel_rfl)

#print axioms rings_proved
end Go.Proofs.YbulkbkkwDoor
