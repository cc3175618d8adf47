/-
  tell (function 14): the message with the sender's number in it, handed to the environment.
-/
import Derived.Test.YbulkbkkwDoorSend
namespace Go.Proofs.YbulkbkkwDoor
open Go.RowKit
set_option linter.unusedVariables false

theorem method_send (p : Addr) (w : World) : (method 277 22 (.pointer (some p)) "Send").run Ybad.prog w = .ok (32, .pointer (some p)) w := by kernel_rfl
theorem g_invoke {o : Oper} {a : Act} {w1 : World} {eb : Nat} {to : ByteArray} {ms : Array Value} (ho : o.op = .call { callee := .invoke (.tmp 14) "Send", args := #[.tmp 15, .tmp 16], argTypes := #[9, 89] })
    (h1 : a.tmps[14]? = some (.iface 22 (.pointer (some ⟨eb, 0, none⟩)))) (h2 : a.tmps[15]? = some (.string to)) (h3 : a.tmps[16]? = some (.agg ms)) :
    (execOp a.eval o).run Ybad.prog w1 = .ok (.enter 32 #[.pointer (some ⟨eb, 0, none⟩), .string to, .agg ms]) w1 := by
  have hm := method_send ⟨eb, 0, none⟩ w1
  unfold execOp
  rw [ho]
  go_simp

def PhiT (eb nb : Nat) (to : ByteArray) (ms : Array Value) (j : Nat) (v : Value) (w : World) : Prop :=
  match j with
  | 0 => v = .pointer (some ⟨nb, 0, none⟩)
  | 1 => v = .pointer (some ⟨nb, 0, none⟩)
  | 2 => v = .pointer (some ⟨nb, 1, none⟩)
  | 3 => v = .iface 22 (.pointer (some ⟨eb, 0, none⟩))
  | 4 => v = .string to
  | 5 => v = .agg ms
  | _ => True

theorem KeptX.drew (X : Nat → Prop) (B : Nat) (w : World) : KeptX X B w w.drew := ⟨rfl, rfl, Nat.le_refl _, fun _ _ _ => rfl⟩
theorem EnvAt.above {B eb k : Nat} {w w' : World} {ts ms : List Value} (h : EnvAt B eb w k ts ms) (hb : Below w.heap.size w w') (hB : B ≤ w.heap.size) : EnvAt B eb w' k ts ms := by
  obtain ⟨tv, mv, he, heB, ht, hm⟩ := h
  exact ⟨tv, mv, (hb.block eb (by omega)).trans he, heB, ownsRow_block ht (fun j hj => hb.block j (ht.lt j hj).2), ownsRow_block hm (fun j hj => hb.block j (hm.lt j hj).2)⟩

set_option maxHeartbeats 4000000 in
set_option maxRecDepth 100000 in
theorem tell14 (mr number : Int) (B eb nb k : Nat) (to : ByteArray) (ms : Array Value) (f : Int) (ts mss : List Value) (w : World) (hk : k ≤ 1024) (hB : B ≤ w.heap.size) (hs : ms.size = 39) (h1 : ∀ v ∈ ms.toList, v.oneCell' = true) (hf : ms[1]? = some (.int .i32 f)) (hE : EnvAt B eb w k ts mss) (hN : NodeAt mr number eb nb w) :
    Calls Ybad.prog 14 #[.pointer (some ⟨nb, 0, none⟩), .string to, .agg ms] w fun e w' => e = .returned (.tuple #[]) ∧ EnvAt B eb w' (k + 1) (ts ++ [.string to]) (mss ++ (ms.setIfInBounds 1 (.int .i32 number)).toList) ∧ KeptX (· = eb) B w w' := by
  have hlt := hN.lt
  have hc3 := hN.2.1
  go_enter Ybad.func14, Ybad.ntmps14
  go_wp2_with fail
  have hb0 : Below w.heap.size w (w.alloc (.cells (ms.setIfInBounds 1 (.int .i32 number)) 89)) := (Below.refl _ _).alloc (Nat.le_refl _) _
  have hE1 := hE.above hb0 hB
  have hN1 := hN.below hb0
  have hr1 := heap_alloc_new w (.cells (ms.setIfInBounds 1 (.int .i32 number)) 89)
  have hs1 : B ≤ (w.alloc (.cells (ms.setIfInBounds 1 (.int .i32 number)) 89)).heap.size := by simp; omega
  have hs2 : (ms.setIfInBounds 1 (.int .i32 number)).size = 39 := by simp [hs]
  have h12 : ∀ v ∈ (ms.setIfInBounds 1 (.int .i32 number)).toList, v.oneCell' = true := by
    intro v hv
    rw [Array.toList_setIfInBounds] at hv
    rcases List.mem_or_eq_of_mem_set hv with h | rfl
    · exact h1 v h
    · rfl
  generalize hms : ms.setIfInBounds 1 (.int .i32 number) = ms' at *
  generalize hw0 : w.alloc (.cells ms' 89) = w0 at *
  refine wp_region_tail 6 (by kernel_rfl) [11, 12, 13, 14, 15, 16] (PhiT eb nb to ms') (fun _ b => b = w0.drew) 100 (fun _ => True) trivial (fun _ _ _ _ h => h) rfl (by decide) (by kernel_rfl) (by kernel_rfl) ?hend ⟨?_, ?_, ?_, ?_, ?_, ?_, trivial⟩
  case hend =>
    rintro a w3 hr rfl hall
    obtain ⟨v, hv3, rfl⟩ := hall 3 (by decide)
    obtain ⟨v, hv4, rfl⟩ := hall 4 (by decide)
    obtain ⟨v, hv5, rfl⟩ := hall 5 (by decide)
    refine tail_one rfl (wp_ent 32 _ (g_invoke rfl hv3 hv4 hv5) ?_)
    refine (send32 B eb k to ms' ts mss w0.drew hk hs1 hs2 h12 hE1).mono ?_
    rintro e w4 ⟨rfl, g1, g2⟩
    exact ⟨_, rfl, wpList_nil (Go.Great.bodyPost_end0 rfl hr.defers ⟨rfl, by rw [hms]; exact g1, (KeptX.of (hb0.mono hB)).trans ((KeptX.drew _ B w0).trans g2)⟩)⟩
  · rintro a w2 hr rfl hj hd
    exact wp_val _ _ (g_move rfl (hr.other 0 rfl)) ⟨_, rfl, rfl, fun _ _ _ h => h, fun _ h => h, rfl⟩
  · rintro a w2 hr rfl hj hd
    obtain ⟨v, hv, rfl⟩ := hd ⟨0, .data⟩ (by simp) rfl
    exact wp_val _ _ (g_nil rfl hv) ⟨_, rfl, rfl, fun _ _ _ h => h, fun _ h => h, rfl⟩
  · rintro a w2 hr rfl hj hd
    obtain ⟨v, hv, rfl⟩ := hd ⟨1, .data⟩ (by simp) rfl
    exact wp_val _ _ (g_fld 121 1 1 rfl hv (by decide)) ⟨_, rfl, rfl, fun _ _ _ h => h, fun _ h => h, rfl⟩
  · rintro a w2 hr rfl hj hd
    obtain ⟨v, hv, rfl⟩ := hd ⟨2, .data⟩ (by simp) rfl
    exact wp_val _ _ (g_ld 37 rfl hv hN1.1 (by decide)) ⟨_, rfl, rfl, fun _ _ _ h => h, fun _ h => h, rfl⟩
  · rintro a w2 hr rfl hj hd
    exact wp_val _ _ (g_move rfl (hr.other 1 rfl)) ⟨_, rfl, rfl, fun _ _ _ h => h, fun _ h => h, rfl⟩
  · rintro a w2 hr rfl hj hd
    refine wp_load_mid 89 _ rfl w.heap.size 0 (ev (hr.other 5 rfl)) ms'.toList _ (fun j v hv => ?_) Ybad.underlying89 rfl (by rw [Array.length_toList, hs2]; exact size89) ⟨_, rfl, ?_, fun _ _ _ h => h, fun _ h => h, rfl⟩
    · have hr2 : w0.drew.heap[w.heap.size]? = some (.cells ms' 89 (0, 0)) := hr1
      rw [cell_of_row _ _ _ _ 89 (0, 0) hr2, Nat.zero_add]
      simpa using hv
    · exact congrArg Value.agg (Array.toArray_toList ..)
end Go.Proofs.YbulkbkkwDoor
