/-
  withdrawAll (function 6).
-/
import Derived.Test.YbulkbkkwDoorWithdraw
namespace Go.Proofs.YbulkbkkwDoor
open Go.RowKit
set_option linter.unusedVariables false

theorem g_call10 {o : Oper} {a : Act} {w1 : World} {s r q : Nat} {u v x : Value} (ho : o.op = .call { callee := .value (.func 10), args := #[.tmp s, .tmp r, .tmp q], argTypes := #[27, 80, 49] }) (h1 : a.tmps[s]? = some u) (h2 : a.tmps[r]? = some v) (h3 : a.tmps[q]? = some x) : (execOp a.eval o).run Ybad.prog w1 = .ok (.enter 10 #[u, v, x]) w1 := by
  unfold execOp
  rw [ho]
  go_simp

def PhiA (nb mb tb fb : Nat) (j : Nat) (v : Value) (_ : World) : Prop :=
  match j with
  | 0 => v = .pointer (some ⟨nb, 0, none⟩)
  | 1 => v = .pointer (some ⟨mb, 0, none⟩)
  | 2 => v = .pointer (some ⟨mb, 0, none⟩)
  | 3 => v = .pointer (some ⟨mb, 0 + 6, none⟩)
  | 4 => v = .pointer (some ⟨tb, 0, none⟩)
  | 5 => v = .pointer (some ⟨mb, 0, none⟩)
  | 6 => v = .pointer (some ⟨mb, 0, none⟩)
  | 7 => v = .pointer (some ⟨mb, 0 + 0, none⟩)
  | 8 => v = .pointer (some ⟨fb, 0, none⟩)
  | _ => True

set_option maxHeartbeats 4000000 in
set_option maxRecDepth 100000 in
theorem all_pair (number : Int) (eb nb mb tb fb : Nat) (w : World) (R : World → Prop) (hN : NodeAt 0 number eb nb w) (h6 : w.cell? ⟨mb, 6, none⟩ = some (.pointer (some ⟨tb, 0, none⟩))) (h0 : w.cell? ⟨mb, 0, none⟩ = some (.pointer (some ⟨fb, 0, none⟩)))
    (hcall : Calls Ybad.prog 10 #[.pointer (some ⟨nb, 0, none⟩), .pointer (some ⟨tb, 0, none⟩), .pointer (some ⟨fb, 0, none⟩)] w.drew fun e w' => e = .returned (.tuple #[]) ∧ R w') :
    Calls Ybad.prog 6 #[.pointer (some ⟨nb, 0, none⟩), .pointer (some ⟨mb, 0, none⟩)] w fun e w' => e = .returned (.tuple #[]) ∧ R w' := by
  have c9 := hN.2.2
  go_enter Ybad.func6, Ybad.ntmps6
  go_wp2_with fail
  rename_i hK
  refine wp_region_tail 9 (by kernel_rfl) [12, 13, 14, 15, 16, 17, 18, 19, 20] (PhiA nb mb tb fb) (fun _ b => b = w.drew) 100 (fun _ => True) trivial (fun _ _ _ _ h => h) rfl (by decide) (by kernel_rfl) (by kernel_rfl) ?hend ⟨?_, ?_, ?_, ?_, ?_, ?_, ?_, ?_, ?_, trivial⟩
  case hend =>
    rintro a w1 hr rfl hall
    obtain ⟨v, hv0, rfl⟩ := hall 0 (by decide)
    obtain ⟨v, hv4, rfl⟩ := hall 4 (by decide)
    obtain ⟨v, hv8, rfl⟩ := hall 8 (by decide)
    refine tail_one rfl (wp_ent 10 _ (g_call10 rfl hv0 hv4 hv8) (hcall.mono ?_))
    rintro e w2 ⟨rfl, g1⟩
    refine ⟨_, rfl, wpList_nil ?_⟩
    refine hK _ _ ?_
    go_wp2
    exact bodyPost_ret (v := .tuple #[]) (by simp [results, Ybad.results6]) hr.defers ⟨rfl, g1⟩
  · rintro a w1 hr rfl hj hd
    exact wp_val _ _ (g_move rfl (hr.other 0 rfl)) ⟨_, rfl, rfl, fun _ _ _ h => h, fun _ h => h, rfl⟩
  · rintro a w1 hr rfl hj hd
    exact wp_val _ _ (g_move rfl (hr.other 1 rfl)) ⟨_, rfl, rfl, fun _ _ _ h => h, fun _ h => h, rfl⟩
  · rintro a w1 hr rfl hj hd
    obtain ⟨v, hv, rfl⟩ := hd ⟨1, .data⟩ (by simp) rfl
    exact wp_val _ _ (g_nil rfl hv) ⟨_, rfl, rfl, fun _ _ _ h => h, fun _ h => h, rfl⟩
  · rintro a w1 hr rfl hj hd
    obtain ⟨v, hv, rfl⟩ := hd ⟨2, .data⟩ (by simp) rfl
    exact wp_val _ _ (g_fld 84 6 6 rfl hv (by decide)) ⟨_, rfl, rfl, fun _ _ _ h => h, fun _ h => h, rfl⟩
  · rintro a w1 hr rfl hj hd
    obtain ⟨v, hv, rfl⟩ := hd ⟨3, .data⟩ (by simp) rfl
    exact wp_val _ _ (g_ld 80 rfl hv h6 (by decide)) ⟨_, rfl, rfl, fun _ _ _ h => h, fun _ h => h, rfl⟩
  · rintro a w1 hr rfl hj hd
    exact wp_val _ _ (g_move rfl (hr.other 1 rfl)) ⟨_, rfl, rfl, fun _ _ _ h => h, fun _ h => h, rfl⟩
  · rintro a w1 hr rfl hj hd
    obtain ⟨v, hv, rfl⟩ := hd ⟨5, .data⟩ (by simp) rfl
    exact wp_val _ _ (g_nil rfl hv) ⟨_, rfl, rfl, fun _ _ _ h => h, fun _ h => h, rfl⟩
  · rintro a w1 hr rfl hj hd
    obtain ⟨v, hv, rfl⟩ := hd ⟨6, .data⟩ (by simp) rfl
    exact wp_val _ _ (g_fld 84 0 0 rfl hv (by decide)) ⟨_, rfl, rfl, fun _ _ _ h => h, fun _ h => h, rfl⟩
  · rintro a w1 hr rfl hj hd
    obtain ⟨v, hv, rfl⟩ := hd ⟨7, .data⟩ (by simp) rfl
    exact wp_val _ _ (g_ld 49 rfl hv h0 (by decide)) ⟨_, rfl, rfl, fun _ _ _ h => h, fun _ h => h, rfl⟩
end Go.Proofs.YbulkbkkwDoor
