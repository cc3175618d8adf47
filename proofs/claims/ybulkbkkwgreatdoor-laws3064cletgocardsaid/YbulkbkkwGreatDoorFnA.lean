/-
  The readers: offers (25), canTrade (30), waits (20), waiting (14), hasRoom (13), fill (9), where nobody waits.
-/
import Derived.Test.YbulkbkkwGreatDoorZero
import Derived.Test.YbulkbkkwGreatDoorTable2
import Derived.Deep.RegionLaw
import Derived.Laws.Pointers
import Derived.LaidEql
import Derived.BigQuiet
import Derived.Great.Walk
namespace Go.Proofs.YbulkbkkwGreatDoor
open Go.RowKit
set_option linter.unusedVariables false

/-- The memory is the same. -/
structure Quiet (w w' : World) : Prop where
  os : w'.os = w.os
  output : w'.output = w.output
  heap : w'.heap = w.heap
theorem Quiet.refl (w : World) : Quiet w w := ⟨rfl, rfl, rfl⟩
theorem Quiet.drew (w : World) : Quiet w w.drew := ⟨rfl, rfl, rfl⟩
theorem Quiet.trans {a b c : World} (h : Quiet a b) (k : Quiet b c) : Quiet a c := ⟨k.os.trans h.os, k.output.trans h.output, k.heap.trans h.heap⟩
theorem Quiet.cell {w w' : World} (h : Quiet w w') (p : Addr) : w'.cell? p = w.cell? p := World.cell?_of_block (w := w) (by rw [h.heap])

theorem offers25 (mb : Nat) (w : World) (h3 : w.cell? ⟨mb, 3, none⟩ = some (.int .i64 0)) :
    Calls Ybaz.prog 25 #[.pointer (some ⟨mb, 0, none⟩)] w fun e w' => e = .returned (.bool false) ∧ w' = w := by
  go_enter Ybaz.func25, Ybaz.ntmps25
  go_wp2
  go_ret
  exact ⟨rfl, rfl⟩

theorem can30 (nb mb : Nat) (w : World) (h3 : w.cell? ⟨mb, 3, none⟩ = some (.int .i64 0)) (h5 : w.cell? ⟨nb, 5, none⟩ = some (.bool false)) :
    Calls Ybaz.prog 30 #[.pointer (some ⟨nb, 0, none⟩), .pointer (some ⟨mb, 0, none⟩)] w fun e w' => e = .returned (.bool false) ∧ w' = w := by
  go_enter Ybaz.func30, Ybaz.ntmps30
  go_wp2_with (go_at_call 25; refine (offers25 mb _ h3).mono ?_; rintro e w1 ⟨rfl, rfl⟩)
  go_ret
  exact ⟨rfl, rfl⟩

theorem waits20 (nb mb : Nat) (pt lv : Bool) (w : World) (h3 : w.cell? ⟨mb, 3, none⟩ = some (.int .i64 0)) (h7 : w.cell? ⟨mb, 7, none⟩ = some (.bool pt)) (h8 : w.cell? ⟨mb, 8, none⟩ = some (.bool lv)) (h5 : w.cell? ⟨nb, 5, none⟩ = some (.bool false)) :
    Calls Ybaz.prog 20 #[.pointer (some ⟨nb, 0, none⟩), .pointer (some ⟨mb, 0, none⟩)] w fun e w' => e = .returned (.bool false) ∧ w' = w := by
  cases pt with
  | true =>
    go_enter Ybaz.func20, Ybaz.ntmps20
    go_wp2
    go_ret
    exact ⟨rfl, rfl⟩
  | false =>
    cases lv with
    | true =>
      go_enter Ybaz.func20, Ybaz.ntmps20
      go_wp2
      go_ret
      exact ⟨rfl, rfl⟩
    | false =>
      go_enter Ybaz.func20, Ybaz.ntmps20
      go_wp2_with (go_at_call 30; refine (can30 nb mb _ h3 h5).mono ?_; rintro e w1 ⟨rfl, rfl⟩)
      go_ret
      exact ⟨rfl, rfl⟩

theorem waiting14 (nb sb pb : Nat) (pm : Nat → Nat) (pt lv : Nat → Bool) (w : World) (hs : w.cell? ⟨sb, 7, none⟩ = some (.slice (some ⟨pb, 0, none⟩) 5 5)) (hp : ∀ i, i < 5 → w.cell? ⟨pb, i, none⟩ = some (.pointer (some ⟨pm i, 0, none⟩)))
    (h3 : ∀ i, i < 5 → w.cell? ⟨pm i, 3, none⟩ = some (.int .i64 0)) (h7 : ∀ i, i < 5 → w.cell? ⟨pm i, 7, none⟩ = some (.bool (pt i))) (h8 : ∀ i, i < 5 → w.cell? ⟨pm i, 8, none⟩ = some (.bool (lv i))) (h5 : w.cell? ⟨nb, 5, none⟩ = some (.bool false)) :
    Calls Ybaz.prog 14 #[.pointer (some ⟨nb, 0, none⟩), .pointer (some ⟨sb, 0, none⟩)] w fun e w' => e = .returned (.int .i64 0) ∧ w' = w := by
  have HP : Hid _ := And.intro hp (And.intro h3 (And.intro h7 h8))
  clear hp h3 h7 h8
  go_enter Ybaz.func14, Ybaz.ntmps14
  go_wp2_with fail
  go_loopw [5, 13] (fun c i wr => ∃ j : Nat, j ≤ 5 ∧ i = .int .i64 j ∧ c = .int .i64 0 ∧ wr = w) (fun _ i _ => 5 - (intOf i).toNat)
  case atStart => exact ⟨0, Nat.zero_le _, rfl, rfl, rfl⟩
  case round =>
    obtain ⟨j, hj, rfl, rfl, rfl⟩ := hrel
    by_cases hlt : j < 5
    · have hk' : (j : Int) < 5 := by omega
      have hpj := HP.out.1 j hlt
      go_wp2_with (go_at_call 20; refine (waits20 nb (pm j) (pt j) (lv j) _ (HP.out.2.1 j hlt) (HP.out.2.2.1 j hlt) (HP.out.2.2.2 j hlt) h5).mono ?_; rintro e w1 ⟨rfl, rfl⟩)
      all_goals go_roundw
      all_goals first
        | (simp [intOf]; omega)
        | exact ⟨j + 1, by omega, by go_num, rfl, trivial⟩
    · obtain rfl : j = 5 := by omega
      go_wp2
      go_ret
      exact ⟨rfl, rfl⟩

theorem room13 (nb sb : Nat) (av n c : Nat) (p : Option Addr) (w : World) (h12 : w.cell? ⟨nb, 12, none⟩ = some (.int .i64 av)) (h8 : w.cell? ⟨sb, 8, none⟩ = some (.slice p n c)) (has : 0 < av) :
    Calls Ybaz.prog 13 #[.pointer (some ⟨nb, 0, none⟩), .pointer (some ⟨sb, 0, none⟩)] w fun e w' => e = .returned (.bool (decide (n < av))) ∧ Quiet w w' := by
  have h0 : ((av : Int) == 0) = false := by simp; omega
  have h0' : ¬ (av : Int) = 0 := by omega
  have h0'' : decide ((av : Int) = 0) = false := by simp; omega
  have hd : decide ((n : Int) < (av : Int)) = decide (n < av) := by simp
  go_enter Ybaz.func13, Ybaz.ntmps13
  go_wp2_with fail
  go_quiet (fail)
  go_wp2
  go_ret
  exact ⟨by simp, rfl, rfl, rfl⟩

theorem fill9 (nb sb pb : Nat) (av n c : Nat) (p : Option Addr) (pm : Nat → Nat) (pt lv : Nat → Bool) (w : World) (h12 : w.cell? ⟨nb, 12, none⟩ = some (.int .i64 av)) (h8s : w.cell? ⟨sb, 8, none⟩ = some (.slice p n c))
    (hs : w.cell? ⟨sb, 7, none⟩ = some (.slice (some ⟨pb, 0, none⟩) 5 5)) (hp : ∀ i, i < 5 → w.cell? ⟨pb, i, none⟩ = some (.pointer (some ⟨pm i, 0, none⟩)))
    (h3 : ∀ i, i < 5 → w.cell? ⟨pm i, 3, none⟩ = some (.int .i64 0)) (h7 : ∀ i, i < 5 → w.cell? ⟨pm i, 7, none⟩ = some (.bool (pt i))) (h8 : ∀ i, i < 5 → w.cell? ⟨pm i, 8, none⟩ = some (.bool (lv i))) (h5 : w.cell? ⟨nb, 5, none⟩ = some (.bool false)) :
    Calls Ybaz.prog 9 #[.pointer (some ⟨nb, 0, none⟩), .pointer (some ⟨sb, 0, none⟩)] w fun e w' => e = .returned (.tuple #[]) ∧ Quiet w w' := by
  have HP : Hid _ := And.intro hp (And.intro h3 (And.intro h7 h8))
  clear hp h3 h7 h8
  by_cases has : 0 < av
  · have h0 : (0 : Int) < (av : Int) := by omega
    by_cases hr : n < av
    · have hd : decide (n < av) = true := by simp [hr]
      go_enter Ybaz.func9, Ybaz.ntmps9
      go_wp2_with fail
      go_loopw [] (fun wr => wr = w) (fun _ => 0)
      case atStart => rfl
      case round =>
        subst hrel
        go_wp2_with (first
          | (go_at_call 13; refine (room13 nb sb av n c p _ h12 h8s has).mono ?_; rintro e w1 ⟨rfl, hq⟩; rw [hd])
          | (go_at_call 14; refine (waiting14 nb sb pb pm pt lv _ ((hq.cell _).trans hs) (fun i hi => (hq.cell _).trans (HP.out.1 i hi)) (fun i hi => (hq.cell _).trans (HP.out.2.1 i hi)) (fun i hi => (hq.cell _).trans (HP.out.2.2.1 i hi)) (fun i hi => (hq.cell _).trans (HP.out.2.2.2 i hi)) ((hq.cell _).trans h5)).mono ?_; rintro e w2 ⟨rfl, rfl⟩))
        all_goals first
          | exact Go.Great.bodyPost_end0 rfl rfl ⟨rfl, hq⟩
          | exact bodyPost_ret (v := .tuple #[]) (by simp [results, Ybaz.results9]) rfl ⟨rfl, hq⟩
    · have hd : decide (n < av) = false := by simp [hr]
      go_enter Ybaz.func9, Ybaz.ntmps9
      go_wp2_with fail
      go_loopw [] (fun wr => wr = w) (fun _ => 0)
      case atStart => rfl
      case round =>
        subst hrel
        go_wp2_with (go_at_call 13; refine (room13 nb sb av n c p _ h12 h8s has).mono ?_; rintro e w1 ⟨rfl, hq⟩; rw [hd])
        all_goals first
          | exact Go.Great.bodyPost_end0 rfl rfl ⟨rfl, hq⟩
          | exact bodyPost_ret (v := .tuple #[]) (by simp [results, Ybaz.results9]) rfl ⟨rfl, hq⟩
  · obtain rfl : av = 0 := by omega
    go_enter Ybaz.func9, Ybaz.ntmps9
    go_wp2_with fail
    go_loopw [] (fun wr => wr = w) (fun _ => 0)
    case atStart => rfl
    case round =>
      subst hrel
      go_wp2
      all_goals first
        | exact Go.Great.bodyPost_end0 rfl rfl ⟨rfl, Quiet.refl _⟩
        | exact bodyPost_ret (v := .tuple #[]) (by simp [results, Ybaz.results9]) rfl ⟨rfl, Quiet.refl _⟩
end Go.Proofs.YbulkbkkwGreatDoor
