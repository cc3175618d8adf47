/-
  'Rows.LawS3064CLetGoCardSaid', proved: the row under 'laid', the card by the builder for tied cards; the tie is given.
-/
import Derived.Test.YbulkbkkwGreatDoorLaw
import Derived.Test.YbulkbkkwGreatDoorCards
import Derived.Test.YbulkbkkwGreatDoorTie
import Derived.OpenShut
import Derived.OpenVars
import Derived.LaidLaws
import Derived.ProofKit
import Derived.ChangeMaps5
import Derived.WideKeyArgs
import Derived.Handed
import Derived.SevenTiedAt
import Derived.Deep.Slices
namespace Go.Proofs.YbulkbkkwGreatDoor
open Go.ChangeShapes Go.WideShapes Go.ChangeAt Go.RowKit
set_option linter.unusedVariables false

theorem own : ownKnob Ybaz.prog.godebug = none := by kernel_rfl
theorem laidOut : laidOutB Ybaz.pinned.checked.prog = true := by kernel_rfl

theorem KeptX.frame {W w' : World} (h : KeptX (fun _ => False) W.heap.size W w') (may : MemPlace → Prop) : W.keptBut w' may := by
  refine ⟨h.os, h.output, fun i hi => ?_⟩
  rw [h.block i hi id]
  split <;> simp_all
theorem KeptX.same {W w' : World} (h : KeptX (fun _ => False) W.heap.size W w') {p : MemPlace} (hp : p.block < W.heap.size) : W.sameAt w' p := by
  cases p with
  | cell b o => exact World.cell?_of_block (w := W) (h.block b hp id)
  | map b => exact h.block b hp id
theorem KeptX.trodVars {H : Type} {enc : TypeId × Value → H} {P : Program} (hl : laidOutB P = true) {W W' : World} (hb : KeptX (fun _ => False) W.heap.size W W') {ns : List String} {gs : List (DataW H)} {ps : List MemPlace} (hv : varsRowed P ns = true) (h : DataW.TrodVars enc P W (fun _ => true) ns gs ps) : DataW.TrodVars enc P W' (fun b => decide (b < W.heap.size)) ns gs ps := by
  have hb' : Below W.heap.size W { W' with tape := W.tape } := ⟨hb.os, rfl, hb.output, hb.size, fun k hk => hb.block k hk id⟩
  have hh : ({ W' with tape := W.tape } : World).heap = W'.heap := rfl
  exact DataW.TrodVars.of_heap hh (hb'.trodVars hl hv h)

theorem fields57 : ∃ f0 f1 : Field, Ybaz.prog.underlying 57 = some (.struct #[f0, f1]) ∧ f0.offset = 0 ∧ f0.type = 5 ∧ f1.offset = 1 ∧ f1.type = 4 := ⟨_, _, Ybaz.underlying57, rfl, rfl, rfl, rfl⟩
theorem cells57 : Ybaz.prog.cellsOf 57 = 2 := by kernel_rfl
theorem cells5 : Ybaz.prog.cellsOf 5 = 1 := by kernel_rfl
theorem cells4 : Ybaz.prog.cellsOf 4 = 1 := by kernel_rfl
theorem two {α : Type} {l : List α} (h : l.length = 2) : ∃ a b, l = [a, b] := by
  match l, h with
  | [a, b], _ => exact ⟨a, b, rfl⟩
theorem spot_none {W : World} {a : Addr} {v : Value} (h : W.cell? a = some v) : a.spot = none := by
  unfold World.cell? at h
  split at h
  · cases hs : a.spot with
    | none => rfl
    | some s => simp [hs] at h
  · cases h
theorem add_none (ab ao i : Nat) : (⟨ab, ao, none⟩ : Addr).add i = ⟨ab, ao + i, none⟩ := by unfold Addr.add; split <;> simp_all

/-- The first argument, opened. -/
theorem open_p {H : Type} {enc : TypeId × Value → H} {W : World} {base : Nat} {spare : Nat → Bool} {held : Bool} {a0 : Option Addr} {len cap : Nat} {fuel : Nat} {x : DataW H × List MemPlace} (h : DataW.trod enc Ybaz.prog W base spare held fuel 22 [.slice a0 len cap] = some x) :
    ∃ par : Nat → Int, (∀ k, 0 ≤ par k ∧ par k ≤ 255) ∧ ∀ k, k < len → InP a0 par W.heap.size W k := by
  rcases open_ints Ybaz.underlying22 Ybaz.underlying5 (by kernel_rfl) h with ⟨hcs, _⟩ | ⟨a, l, c, zs, hcs, _, hl, hm, hz, _, hcell, hwz⟩
  · simp at hcs
    obtain ⟨rfl, rfl, rfl⟩ := hcs
    exact ⟨fun _ => 0, fun _ => ⟨Int.le_refl 0, by show (0 : Int) ≤ 255; decide⟩, fun k hk => by omega⟩
  · simp at hcs
    obtain ⟨rfl, rfl, rfl⟩ := hcs
    have hlen : len ≤ zs.length := by rw [hz]; split <;> omega
    refine ⟨fun k => zs.getD k 0, fun k => ?_, fun k hk => ?_⟩
    · by_cases hk : k < zs.length
      · have : zs.getD k 0 ∈ zs := by simp [List.getD, hk]
        exact bounds_u8 (hwz _ this)
      · have : zs.getD k 0 = 0 := by simp [List.getD, List.getElem?_eq_none (by omega : zs.length ≤ k)]
        simp only [this]
        omega
    · have h0 := hcell 0 (by omega)
      obtain ⟨ab, ao, sp⟩ := a
      have hs : sp = none := spot_none (a := ⟨ab, ao, sp⟩) (by simpa [Addr.add] using h0)
      subst hs
      have hk' := hcell k (by omega)
      rw [add_none] at hk'
      exact ⟨ab, ao, rfl, World.block_lt_of_cell? W _ hk', hk'⟩

/-- The second. -/
theorem open_o {H : Type} {enc : TypeId × Value → H} {W : World} {base : Nat} {spare : Nat → Bool} {held : Bool} {a0 : Option Addr} {len cap : Nat} {fuel : Nat} {x : DataW H × List MemPlace} (h : DataW.trod enc Ybaz.prog W base spare held fuel 23 [.slice a0 len cap] = some x) :
    ∃ (swo : Nat → Int) (gu : Nat → Bool), (∀ k, 0 ≤ swo k ∧ swo k ≤ 255) ∧ ∀ k, k < len → InO a0 swo gu W.heap.size W k := by
  rcases Deep.open_slice Ybaz.underlying23 h with ⟨hc, _⟩ | ⟨a, len', cap', m, n, D, Pl, hc, _, hlc, _, hm, _, hx⟩
  · simp at hc
    obtain ⟨rfl, rfl, rfl⟩ := hc
    exact ⟨fun _ => 0, fun _ => false, fun _ => ⟨Int.le_refl 0, by show (0 : Int) ≤ 255; decide⟩, fun k hk => by omega⟩
  · simp at hc
    obtain ⟨rfl, rfl, rfl⟩ := hc
    have hlm : len ≤ m := by rw [hm]; split <;> omega
    obtain ⟨f0, f1, he, o0, t0, o1, t1⟩ := fields57
    have each : ∀ k, k < len → ∃ q : Int × Bool, (0 ≤ q.1 ∧ q.1 ≤ 255) ∧ W.cell? (a.add (k * 2)) = some (.int .u8 q.1) ∧ W.cell? (a.add (k * 2 + 1)) = some (.bool q.2) := by
      intro k hk
      obtain ⟨cs, h1, h2⟩ := hx k (by omega)
      rw [cells57] at h1
      obtain ⟨_, hlen, hcell⟩ := World.cells?_some h1
      obtain ⟨xs, n1, _, _, _, hxl, hf⟩ := DataW.trod_struct he h2
      have hxl' : xs.length = 2 := hxl
      have g0 := hf 0 f0 rfl
      have g1 := hf 1 f1 rfl
      rw [o0, t0, cells5, List.getElem?_eq_getElem (by omega)] at g0
      rw [o1, t1, cells4, List.getElem?_eq_getElem (by omega)] at g1
      obtain ⟨n0, e0, _, w0⟩ := DataW.trod_int Ybaz.underlying5 g0
      obtain ⟨b1, e1, _⟩ := DataW.trod_bool Ybaz.underlying4 g1
      have c0 := hcell 0 (by omega)
      have c1 := hcell 1 (by omega)
      rw [Deep.add_add] at c0 c1
      obtain ⟨v0, v1, rfl⟩ := two hlen
      simp at e0 e1 c0 c1
      subst e0 e1
      exact ⟨(n0, b1), bounds_u8 w0, c0, c1⟩
    obtain ⟨q, hq⟩ := Deep.choose_lt each
    refine ⟨fun k => if k < len then (q k).1 else 0, fun k => (q k).2, fun k => ?_, fun k hk => ?_⟩
    · by_cases hk : k < len
      · simp only [if_pos hk]; exact (hq k hk).1
      · simp only [if_neg hk]; omega
    · obtain ⟨ab, ao, sp⟩ := a
      have hs : sp = none := spot_none (a := ⟨ab, ao, sp⟩) (by simpa [Addr.add] using (hq 0 (by omega)).2.1)
      subst hs
      obtain ⟨_, c0, c1⟩ := hq k hk
      rw [add_none] at c0 c1
      refine ⟨ab, ao, rfl, World.block_lt_of_cell? W _ c0, ?_, ?_⟩
      · simp only [if_pos hk]; exact c0
      · exact c1

theorem law_walk (a0 a1 : Option Addr) (n c0 q c1 : Nat) (par swo : Nat → Int) (gu : Nat → Bool) (x : Int) (lv : Bool) (w : World) (hx : 0 ≤ x ∧ x ≤ 255) (hpar : ∀ k, 0 ≤ par k ∧ par k ≤ 255) (hswo : ∀ k, 0 ≤ swo k ∧ swo k ≤ 255)
    (hin0 : ∀ k, k < n → InP a0 par w.heap.size w k) (hin1 : ∀ k, k < q → InO a1 swo gu w.heap.size w k) :
    Calls Ybaz.prog 3 #[.slice a0 n c0, .slice a1 q c1, .int .u8 x, .bool lv] w fun e w' => e = .returned (.bool true) ∧ KeptX (fun _ => False) w.heap.size w w' := by
  by_cases hl : 1024 < n ∨ 1024 < q
  · exact law_long a0 a1 n c0 q c1 x lv w hl
  · exact law3 a0 a1 n c0 q c1 par swo gu x lv w (by omega) (by omega) hx hpar hswo hin0 hin1

/-- The settled world, but the table of math/bits holds what the program's text lays. -/
noncomputable def laidWorld (os : Os) : World :=
  let w0 := World.holding Ybaz.prog os ⟨#[], #[], []⟩
  { w0 with heap := w0.heap.modify 1 fun
      | .cells _ t frozen => .cells #[.int .u8 0, .int .u8 1, .int .u8 56, .int .u8 2, .int .u8 57, .int .u8 49, .int .u8 28, .int .u8 3, .int .u8 61, .int .u8 58, .int .u8 42, .int .u8 50, .int .u8 38, .int .u8 29, .int .u8 17, .int .u8 4, .int .u8 62, .int .u8 47, .int .u8 59, .int .u8 36, .int .u8 45, .int .u8 43, .int .u8 51, .int .u8 22, .int .u8 53, .int .u8 39, .int .u8 33, .int .u8 30, .int .u8 24, .int .u8 18, .int .u8 12, .int .u8 5, .int .u8 63, .int .u8 55, .int .u8 48, .int .u8 27, .int .u8 60, .int .u8 41, .int .u8 37, .int .u8 16, .int .u8 46, .int .u8 35, .int .u8 44, .int .u8 21, .int .u8 52, .int .u8 32, .int .u8 23, .int .u8 11, .int .u8 54, .int .u8 26, .int .u8 40, .int .u8 15, .int .u8 34, .int .u8 20, .int .u8 31, .int .u8 10, .int .u8 25, .int .u8 14, .int .u8 19, .int .u8 9, .int .u8 13, .int .u8 8, .int .u8 7, .int .u8 6] t frozen
      | o => o }
theorem laid_met (os : Os) (args : Array Value) : laidMet Ybaz.prog Rows.lawS3064CLetGoRow.laid ((laidWorld os).forCall (fun _ _ => 0) ⟨#[], args, []⟩).memory :=
  laidMet_of_run' 8 (by kernel_rfl) (by kernel_rfl)

set_option maxRecDepth 100000 in
theorem lifted (os : Os) (started : os.Started) (H : Type) (enc : TypeId × Value → H) :
    ReturnsInHanded {} Ybaz.checked os 3 .any (fun w args => (Rows.lawS3064CLetGoSpec.pre enc Ybaz.prog Ybaz.f3 [] false w args ∧ laidMet Ybaz.prog Rows.lawS3064CLetGoRow.laid w) ∧ sizedMet enc Ybaz.prog Ybaz.f3 (OpenSpec.ofChange Rows.lawS3064CLetGoSpec) false w args)
      (Rows.lawS3064CLetGoSpec.post enc Ybaz.prog Ybaz.f3 false true false false) := by
  refine returnsInHanded_of_change_and (C := Ybaz.checked) (X := fun w _ => laidMet Ybaz.prog Rows.lawS3064CLetGoRow.laid w) (fun _ _ _ hh h => h.of_heap hh) own started (by kernel_rfl) Ybaz.func3
    (ChangeSpec.witness_at (enc := enc) (C := Ybaz.checked) (os := os) (X := fun w _ => laidMet Ybaz.prog Rows.lawS3064CLetGoRow.laid w) false (laidWorld os) #[.slice none 0 0, .slice none 0 0, .int .u8 0, .bool false] 8 rfl (by kernel_rfl) (by kernel_rfl) (by kernel_rfl) (by kernel_rfl) (by kernel_rfl) (laid_met os _)) ?_
  intro W base args ds gs before hval0 hW _ _ hL _
  have hval : ∀ (j : Nat) t v, Ybaz.f3.params[j]? = some t → args[j]? = some v → Value.okWide Ybaz.prog W .any base t v := hval0
  have hW' := hW
  obtain ⟨p, q, hA0, hV, rfl, hfz, hnd⟩ := hW
  have hA : DataW.TrodAll enc Ybaz.prog W 0 (fun _ => true) true Ybaz.f3.params.toList args.toList ds p := hA0
  rw [Ybaz.params3] at hA hval
  obtain ⟨v0, vs0, d0, ds0, p0, q0, hargs, rfl, rfl, h0, r0⟩ := trodAll_cons hA
  obtain ⟨v1, vs1, d1, ds1, p1, q1, rfl, rfl, rfl, h1, r1⟩ := trodAll_cons r0
  obtain ⟨v2, vs2, d2, ds2, p2, q2, rfl, rfl, rfl, h2, r2⟩ := trodAll_cons r1
  obtain ⟨v3, vs3, d3, ds3, p3, q3, rfl, rfl, rfl, h3, r3⟩ := trodAll_cons r2
  obtain ⟨rfl, rfl, rfl⟩ := trodAll_nil r3
  obtain rfl : args = #[v0, v1, v2, v3] := by cases args; simp_all
  obtain ⟨g1, rfl⟩ : ∃ g, gs = [g] := by
    obtain ⟨_, _, _, _, d, _, h, _⟩ := trodVars_one hV
    exact ⟨d, h⟩
  obtain ⟨a0, len0, cap0, rfl⟩ := okWide_slice Ybaz.underlying22 (hval 0 22 v0 rfl rfl)
  obtain ⟨a1, len1, cap1, rfl⟩ := okWide_slice Ybaz.underlying23 (hval 1 23 v1 rfl rfl)
  have k0 := h0
  have k1 := h1
  have lt0 : ∀ x ∈ p0, x.block < W.heap.size := by obtain ⟨m, hm⟩ := k0; exact DataW.trod_lt m _ _ _ hm
  have lt1 : ∀ x ∈ p1, x.block < W.heap.size := by obtain ⟨m, hm⟩ := k1; exact DataW.trod_lt m _ _ _ hm
  obtain ⟨par, hpar, hin0⟩ : ∃ par : Nat → Int, (∀ k, 0 ≤ par k ∧ par k ≤ 255) ∧ ∀ k, k < len0 → InP a0 par W.heap.size W k := by
    obtain ⟨fuel, hf⟩ := h0
    exact open_p hf
  obtain ⟨swo, gu, hswo, hin1⟩ : ∃ (swo : Nat → Int) (gu : Nat → Bool), (∀ k, 0 ≤ swo k ∧ swo k ≤ 255) ∧ ∀ k, k < len1 → InO a1 swo gu W.heap.size W k := by
    obtain ⟨fuel, hf⟩ := h1
    exact open_o hf
  obtain ⟨i2, rfl, rfl, rfl, z2⟩ := open_int Ybaz.underlying5 (hval 2 5 v2 rfl rfl) h2
  obtain ⟨b3, rfl, rfl, rfl⟩ := open_bool Ybaz.underlying4 (hval 3 4 v3 rfl rfl) h3
  clear hA0 hval0
  refine (law_walk a0 a1 len0 cap0 len1 cap1 par swo gu i2 b3 W (by have := bounds_u8 z2; omega) hpar hswo hin0 hin1).mono fun e W' ⟨he, bel⟩ => ?_
  subst he
  exact ⟨_, rfl, _, _, _, [], _, _, hW', trodAll_mk1 (shut_bool Ybaz.underlying4 _), (trodAll_cons_mk (WideElems.Trod_stays laidOut (by kernel_rfl) (of_decide_eq_true (by kernel_rfl)) k0 (fun x hx => bel.same (lt0 x hx)) (fun x hx => by simpa using lt0 x hx)) (trodAll_cons_mk (WideElems.Trod_stays laidOut (by kernel_rfl) (of_decide_eq_true (by kernel_rfl)) k1 (fun x hx => bel.same (lt1 x hx)) (fun x hx => by simpa using lt1 x hx)) (trodAll_cons_mk (shut_int Ybaz.underlying5 z2) (trodAll_cons_mk (shut_bool Ybaz.underlying4 _) trodAll_mk0)))), bel.trodVars laidOut (by kernel_rfl) hV, bel.frame _, fun h => by cases h⟩

theorem over : Rows.LawS3064CLetGoSaid :=
  OpenClaim.holds_of_wide 3 Ybaz.f3 rfl rfl rfl rfl rfl rfl rfl ⟨rfl, rfl, rfl, rfl, rfl⟩ rfl rfl rfl rfl rfl (by kernel_rfl) Ybaz.func3 (by kernel_rfl)
    (of_decide_eq_true (by kernel_rfl)) (by unfold Func.isWrapper; first | (rw [if_pos (by decide +kernel)]; kernel_rfl) | (rw [if_neg (by decide +kernel)]; exact ⟨rfl, rfl⟩))
    (fun os started H enc _ => lifted os started H enc)

/-- ████ THE STATEMENT ████ -/
theorem letgo_proved : Rows.LawS3064CLetGoCardSaid :=
  Claim7.holds_tied_plain_at .later [] [.data, .zero] true (true, "630bb7a1687640ce58eb7c7e1e272df818faee8baa48cdb9e609abf45eedb6c1") false
    over (fun _ h => by cases h) (by kernel_rfl) (fun _ h => by cases h) lawS3064CLetGo_row_tie rfl ⟨rfl, rfl⟩ (by kernel_rfl) rfl
    (fun f fn hf hfn => by
      obtain rfl : f = 3 := Option.some.inj ((show Ybaz.prog.funcNamed Rows.lawS3064CLetGoRow.func = some 3 by kernel_rfl).symm.trans hf) |>.symm
      obtain rfl : fn = Ybaz.f3 := (Option.some.inj (Ybaz.func3.symm.trans hfn)).symm
      exact ⟨by kernel_rfl, fun j t ht => by
        rw [Ybaz.params3] at ht
        have hm : t ∈ [22, 23, 5, 4] := by simpa using Array.mem_of_getElem? ht
        have hall : ([22, 23, 5, 4].all fun u => !Ybaz.prog.wantsStandIn u) = true := by kernel_rfl
        exact (show Ybaz.prog.wantsStandIn t = false by simpa using List.all_eq_true.1 hall t hm)⟩)
    (by kernel_rfl)

#print axioms letgo_proved
end Go.Proofs.YbulkbkkwGreatDoor
