/-
  letGo's closure (7), IndexFunc over the trades (10), ContainsFunc (6).
-/
import Derived.Test.YbulkbkkwGreatDoorFnB
namespace Go.Proofs.YbulkbkkwGreatDoor
open Go.RowKit
set_option linter.unusedVariables false

theorem open7 (tb cb m sb : Nat) (ap : Option Addr) (a g : Bool) (w : World) (h4 : w.cell? ⟨tb, 4, none⟩ = some (.pointer ap)) (h14 : w.cell? ⟨tb, 14, none⟩ = some (.bool g)) (hc : w.cell? ⟨cb, 0, none⟩ = some (.pointer (some ⟨m, 0, none⟩))) (h1 : w.cell? ⟨m, 1, none⟩ = some (.pointer (some ⟨sb, 0, none⟩)))
    (he : ∀ wr, Quiet w wr → (binOp .eql 46 (.pointer ap) (.pointer (some ⟨sb, 0, none⟩))).run Ybaz.prog wr = .ok (.bool a) wr) :
    Calls Ybaz.prog 7 #[.pointer (some ⟨tb, 0, none⟩), .pointer (some ⟨cb, 0, none⟩)] w fun e w' => e = .returned (.bool (a && !g)) ∧ Quiet w w' := by
  have he0 := he w (Quiet.refl w)
  have he1 := he w.drew (Quiet.drew w)
  have he2 : ∀ n, (binOp .eql 46 (.pointer ap) (.pointer (some ⟨sb, 0, none⟩))).run Ybaz.prog (w.drewN n) = .ok (.bool a) (w.drewN n) := fun n => he _ ⟨rfl, rfl, rfl⟩
  cases a with
  | true =>
    go_enter Ybaz.func7, Ybaz.ntmps7
    go_wp2_with fail
    go_quiet (fail)
    go_wp2
    go_ret
    exact ⟨by simp, rfl, rfl, rfl⟩
  | false =>
    go_enter Ybaz.func7, Ybaz.ntmps7
    go_wp2_with fail
    go_quiet (fail)
    go_wp2
    go_ret
    exact ⟨by simp, rfl, rfl, rfl⟩

theorem find10 (pb n c cb m sb : Nat) (xb : Nat → Nat) (ap : Nat → Option Addr) (a g : Nat → Bool) (w : World) (hn : n ≤ 1024) (hc : w.cell? ⟨cb, 0, none⟩ = some (.pointer (some ⟨m, 0, none⟩))) (h1 : w.cell? ⟨m, 1, none⟩ = some (.pointer (some ⟨sb, 0, none⟩)))
    (hp : ∀ i, i < n → w.cell? ⟨pb, i, none⟩ = some (.pointer (some ⟨xb i, 0, none⟩))) (h4 : ∀ i, i < n → w.cell? ⟨xb i, 4, none⟩ = some (.pointer (ap i))) (h14 : ∀ i, i < n → w.cell? ⟨xb i, 14, none⟩ = some (.bool (g i)))
    (he : ∀ i, i < n → ∀ wr, Quiet w wr → (binOp .eql 46 (.pointer (ap i)) (.pointer (some ⟨sb, 0, none⟩))).run Ybaz.prog wr = .ok (.bool (a i)) wr) :
    Calls Ybaz.prog 10 #[.slice (some ⟨pb, 0, none⟩) n c, .func (.func 7) #[] #[.pointer (some ⟨cb, 0, none⟩)]] w fun e w' => ∃ k, e = .returned (.int .i64 k) ∧ Found (fun i => a i && !g i) n k ∧ Quiet w w' := by
  have HP : Hid _ := And.intro hp (And.intro h4 (And.intro h14 he))
  clear hp h4 h14 he
  go_enter Ybaz.func10, Ybaz.ntmps10
  go_wp2_with fail
  go_loopw [8] (fun i wr => ∃ j : Nat, j ≤ n ∧ i = .int .i64 j ∧ (∀ l, l < j → (a l && !g l) = false) ∧ Quiet w wr) (fun i _ => n - (intOf i).toNat)
  case atStart => exact ⟨0, Nat.zero_le _, rfl, fun l hl => by omega, Quiet.refl w⟩
  case round =>
    obtain ⟨j, hj, rfl, hf, hq⟩ := hrel
    have HF : Hid _ := hf
    have HQ : Hid _ := hq
    clear hf hq
    by_cases hlt : j < n
    · have hk' : (j : Int) < n := by omega
      have hpj := (HQ.out.cell _).trans (HP.out.1 j hlt)
      cases hb : (a j && !g j) with
      | true =>
        go_wp2_with (go_at_call 7; refine (open7 (xb j) cb m sb (ap j) (a j) (g j) _ ((HQ.out.cell _).trans (HP.out.2.1 j hlt)) ((HQ.out.cell _).trans (HP.out.2.2.1 j hlt)) ((HQ.out.cell _).trans hc) ((HQ.out.cell _).trans h1) (fun wr hw => HP.out.2.2.2 j hlt wr (HQ.out.trans hw))).mono ?_; rintro e w1 ⟨rfl, hq1⟩; rw [hb])
        go_ret
        exact ⟨_, rfl, .inr ⟨j, hlt, rfl, hb, HF.out⟩, HQ.out.trans hq1⟩
      | false =>
        go_wp2_with (go_at_call 7; refine (open7 (xb j) cb m sb (ap j) (a j) (g j) _ ((HQ.out.cell _).trans (HP.out.2.1 j hlt)) ((HQ.out.cell _).trans (HP.out.2.2.1 j hlt)) ((HQ.out.cell _).trans hc) ((HQ.out.cell _).trans h1) (fun wr hw => HP.out.2.2.2 j hlt wr (HQ.out.trans hw))).mono ?_; rintro e w1 ⟨rfl, hq1⟩; rw [hb])
        go_roundw
        · exact ⟨j + 1, by omega, by go_num, fun l hl => by
            by_cases h : l = j
            · subst h; exact hb
            · exact HF.out l (by omega), HQ.out.trans hq1⟩
        · simp [intOf]; omega
    · obtain rfl : j = n := by omega
      have hkk : ¬ (j : Int) < j := by omega
      go_wp2
      go_ret
      exact ⟨_, rfl, .inl ⟨rfl, HF.out⟩, HQ.out⟩

theorem has6 (pb n c cb m sb : Nat) (xb : Nat → Nat) (ap : Nat → Option Addr) (a g : Nat → Bool) (w : World) (hn : n ≤ 1024) (hc : w.cell? ⟨cb, 0, none⟩ = some (.pointer (some ⟨m, 0, none⟩))) (h1 : w.cell? ⟨m, 1, none⟩ = some (.pointer (some ⟨sb, 0, none⟩)))
    (hp : ∀ i, i < n → w.cell? ⟨pb, i, none⟩ = some (.pointer (some ⟨xb i, 0, none⟩))) (h4 : ∀ i, i < n → w.cell? ⟨xb i, 4, none⟩ = some (.pointer (ap i))) (h14 : ∀ i, i < n → w.cell? ⟨xb i, 14, none⟩ = some (.bool (g i)))
    (he : ∀ i, i < n → ∀ wr, Quiet w wr → (binOp .eql 46 (.pointer (ap i)) (.pointer (some ⟨sb, 0, none⟩))).run Ybaz.prog wr = .ok (.bool (a i)) wr) :
    Calls Ybaz.prog 6 #[.slice (some ⟨pb, 0, none⟩) n c, .func (.func 7) #[] #[.pointer (some ⟨cb, 0, none⟩)]] w fun e w' => e = .returned (.bool ((List.range n).any fun i => a i && !g i)) ∧ Quiet w w' := by
  have F : Hid _ := find10 pb n c cb m sb xb ap a g w hn hc h1 hp h4 h14 he
  clear hp h4 h14 he
  go_enter Ybaz.func6, Ybaz.ntmps6
  go_wp2_with (go_at_call 10; refine (Calls.mono (F.out) ?_); rintro e w1 ⟨k, rfl, hF, hq⟩; have HF : Hid _ := hF; clear hF)
  go_ret
  refine ⟨?_, hq⟩
  rcases HF.out with ⟨rfl, hall⟩ | ⟨i, hi, rfl, ht, _⟩
  · have : ((List.range n).any fun i => a i && !g i) = false := by
      rw [List.any_eq_false]
      intro i hi
      have := hall i (List.mem_range.1 hi)
      simp [this]
    rw [this]
    rfl
  · have : ((List.range n).any fun i => a i && !g i) = true := by
      rw [List.any_eq_true]
      exact ⟨i, List.mem_range.2 hi, ht⟩
    rw [this]
    simp
end Go.Proofs.YbulkbkkwGreatDoor
