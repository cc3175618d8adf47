/-
  withdraw (function 10): nothing where nothing is asked or where it was withdrawn; else one message, and the mark.
-/
import Derived.Test.YbulkbkkwDoorTell
namespace Go.Proofs.YbulkbkkwDoor
open Go.RowKit
set_option linter.unusedVariables false

def ids16 (f : Nat → Value) : List Value := [f 0, f 1, f 2, f 3, f 4, f 5, f 6, f 7, f 8, f 9, f 10, f 11, f 12, f 13, f 14, f 15]
/-- The message that withdraw sends. -/
def msg (number : Int) (sw : ByteArray) (f : Nat → Value) : Array Value :=
  #[.int .u8 3, .int .i32 number, .string sw, .int .i64 0, .slice none 0 0, .slice none 0 0, f 0, f 1, f 2, f 3, f 4, f 5, f 6, f 7, f 8, f 9, f 10, f 11, f 12, f 13, f 14, f 15, .int .u8 0, .int .u8 0, .int .u8 0, .int .u8 0, .int .u8 0, .int .u8 0, .int .u8 0, .int .u8 0, .int .u8 0, .int .u8 0, .int .u8 0, .int .u8 0, .int .u8 0, .int .u8 0, .int .u8 0, .int .u8 0, .int .u32 0]
set_option maxRecDepth 100000 in
theorem built89 (sw : ByteArray) (f : Nat → Value) (w : World) : (Instr.build 89 #[(0, .int .u8 3), (2, .string sw), (6, .agg (ids16 f).toArray)]).run Ybad.prog w = .ok (.agg (msg 0 sw f)) w :=
  run_build w 89 _ _ (by kernel_rfl)
theorem msg_set (number : Int) (sw : ByteArray) (f : Nat → Value) : (msg 0 sw f).setIfInBounds 1 (.int .i32 number) = msg number sw f := by kernel_rfl
theorem msg_one (number : Int) (sw : ByteArray) (f : Nat → Value) (hf : ∀ i, (f i).oneCell' = true) : ∀ v ∈ (msg number sw f).toList, v.oneCell' = true := by
  intro v hv
  simp only [msg, List.mem_cons, List.not_mem_nil, or_false] at hv
  rcases hv with rfl | rfl | rfl | rfl | rfl | rfl | rfl | rfl | rfl | rfl | rfl | rfl | rfl | rfl | rfl | rfl | rfl | rfl | rfl | rfl | rfl | rfl | rfl | rfl | rfl | rfl | rfl | rfl | rfl | rfl | rfl | rfl | rfl | rfl | rfl | rfl | rfl | rfl | rfl <;> first | rfl | exact hf _
theorem ids16_one (f : Nat → Value) (hf : ∀ i, (f i).oneCell' = true) : ∀ v ∈ ids16 f, v.oneCell' = true := by
  intro v hv
  simp only [ids16, List.mem_cons, List.not_mem_nil, or_false] at hv
  rcases hv with rfl | rfl | rfl | rfl | rfl | rfl | rfl | rfl | rfl | rfl | rfl | rfl | rfl | rfl | rfl | rfl <;> exact hf _

theorem g_call15 {o : Oper} {a : Act} {w1 : World} {s : Nat} {v : Value} (ho : o.op = .call { callee := .value (.func 15), args := #[.tmp s], argTypes := #[80] }) (h1 : a.tmps[s]? = some v) : (execOp a.eval o).run Ybad.prog w1 = .ok (.enter 15 #[v]) w1 := by
  unfold execOp
  rw [ho]
  go_simp
theorem g_call14 {o : Oper} {a : Act} {w1 : World} {s r q : Nat} {u v x : Value} (ho : o.op = .call { callee := .value (.func 14), args := #[.tmp s, .tmp r, .tmp q], argTypes := #[27, 9, 89] }) (h1 : a.tmps[s]? = some u) (h2 : a.tmps[r]? = some v) (h3 : a.tmps[q]? = some x) : (execOp a.eval o).run Ybad.prog w1 = .ok (.enter 14 #[u, v, x]) w1 := by
  unfold execOp
  rw [ho]
  go_simp

theorem withdraw_none (nb tb to : Nat) (fp : Value) (w : World) (h : w.cell? ⟨tb, to + 4, none⟩ = some (.pointer none)) :
    Calls Ybad.prog 10 #[.pointer (some ⟨nb, 0, none⟩), .pointer (some ⟨tb, to, none⟩), fp] w fun e w' => e = .returned (.tuple #[]) ∧ w' = w := by
  go_enter Ybad.func10, Ybad.ntmps10
  go_wp2
  exact bodyPost_ret (v := .tuple #[]) (by simp [results, Ybad.results10]) rfl ⟨rfl, rfl⟩
theorem withdraw_done (nb tb to sb : Nat) (fp : Value) (w : World) (h : w.cell? ⟨tb, to + 4, none⟩ = some (.pointer (some ⟨sb, 0, none⟩))) (h2 : w.cell? ⟨tb, to + 10, none⟩ = some (.bool true)) :
    Calls Ybad.prog 10 #[.pointer (some ⟨nb, 0, none⟩), .pointer (some ⟨tb, to, none⟩), fp] w fun e w' => e = .returned (.tuple #[]) ∧ w' = w := by
  go_enter Ybad.func10, Ybad.ntmps10
  go_wp2
  exact bodyPost_ret (v := .tuple #[]) (by simp [results, Ybad.results10]) rfl ⟨rfl, rfl⟩

theorem EnvAt.setCell {B eb k tb i : Nat} {v : Value} {w : World} {ts ms : List Value} (h : EnvAt B eb w k ts ms) (htB : tb < B) (hte : tb ≠ eb) : EnvAt B eb (w.setCell ⟨tb, i, none⟩ v) k ts ms := by
  obtain ⟨tv, mv, he, heB, ht, hm⟩ := h
  have hne : ∀ j, j ≠ tb → (w.setCell ⟨tb, i, none⟩ v).heap[j]? = w.heap[j]? := fun j hj => Below.heap_setCell w ⟨tb, i, none⟩ v j hj
  exact ⟨tv, mv, (hne eb (Ne.symm hte)).trans he, heB, ownsRow_block ht (fun j hj => hne j (by have := ht.lt j hj; omega)), ownsRow_block hm (fun j hj => hne j (by have := hm.lt j hj; omega))⟩

def PhiW (nb fb tb to sb : Nat) (nbid sw : ByteArray) (f : Nat → Value) (j : Nat) (v : Value) (_ : World) : Prop :=
  match j with
  | 0 => v = .pointer (some ⟨nb, 0, none⟩)
  | 1 => v = .pointer (some ⟨fb, 0, none⟩)
  | 2 => v = .pointer (some ⟨fb, 0, none⟩)
  | 3 => v = .pointer (some ⟨fb, 0 + 0, none⟩)
  | 4 => v = .string nbid
  | 5 => v = .pointer (some ⟨tb, to, none⟩)
  | 6 => v = .pointer (some ⟨tb, to, none⟩)
  | 7 => v = .pointer (some ⟨tb, to + 4, none⟩)
  | 8 => v = .pointer (some ⟨tb, to + 4 + 0, none⟩)
  | 9 => v = .pointer (some ⟨sb, 0, none⟩)
  | 10 => v = .pointer (some ⟨sb, 0, none⟩)
  | 11 => v = .pointer (some ⟨sb, 0 + 0, none⟩)
  | 12 => v = .string sw
  | 13 => v = .pointer (some ⟨tb, to, none⟩)
  | 14 => v = .agg (ids16 f).toArray
  | 15 => v = .agg (msg 0 sw f)
  | _ => True

theorem frame10 (nb tb to fb sb : Nat) (a : Act) (h : Rest [18, 19, 20, 21, 22, 23, 24, 25, 26, 27, 28, 29, 30, 31, 32, 33] ⟨#[.pointer (some ⟨nb, 0, none⟩), .pointer (some ⟨tb, to, none⟩), .pointer (some ⟨fb, 0, none⟩), undef, undef, undef, .pointer (some ⟨tb, to, none⟩), .pointer (some ⟨tb, to, none⟩), .pointer (some ⟨tb, to + 4, none⟩), .pointer (some ⟨tb, to + 4, none⟩), .pointer (some ⟨sb, 0, none⟩), .bool false, .bool false, .pointer (some ⟨tb, to, none⟩), .pointer (some ⟨tb, to, none⟩), .pointer (some ⟨tb, to + 10, none⟩), .bool false, .bool false, undef, undef, undef, undef, undef, undef, undef, undef, undef, undef, undef, undef, undef, undef, undef, undef, undef, undef, undef, undef], []⟩ a) : ∃ us : Nat → Value, a.put (some 34) (.tuple #[]) = ⟨#[.pointer (some ⟨nb, 0, none⟩), .pointer (some ⟨tb, to, none⟩), .pointer (some ⟨fb, 0, none⟩), undef, undef, undef, .pointer (some ⟨tb, to, none⟩), .pointer (some ⟨tb, to, none⟩), .pointer (some ⟨tb, to + 4, none⟩), .pointer (some ⟨tb, to + 4, none⟩), .pointer (some ⟨sb, 0, none⟩), .bool false, .bool false, .pointer (some ⟨tb, to, none⟩), .pointer (some ⟨tb, to, none⟩), .pointer (some ⟨tb, to + 10, none⟩), .bool false, .bool false, us 18, us 19, us 20, us 21, us 22, us 23, us 24, us 25, us 26, us 27, us 28, us 29, us 30, us 31, us 32, us 33, .tuple #[], undef, undef, undef], []⟩ := by
  obtain ⟨us, rfl⟩ := frame_of h
  exact ⟨us, by kernel_rfl⟩

set_option maxHeartbeats 4000000 in
set_option maxRecDepth 100000 in
theorem withdraw_act (mr number : Int) (B eb nb fb sb tb to k : Nat) (t : TypeId) (arr : Array Value) (nbid sw : ByteArray) (f : Nat → Value) (ts mss : List Value) (w : World) (hk : k ≤ 1024) (hB : B ≤ w.heap.size) (hE : EnvAt B eb w k ts mss) (hN : NodeAt mr number eb nb w)
    (htb : w.heap[tb]? = some (.cells arr t (0, 0))) (htB : tb < B) (hte : tb ≠ eb) (h4 : arr[to + 4]? = some (.pointer (some ⟨sb, 0, none⟩))) (h10 : arr[to + 10]? = some (.bool false))
    (hf : w.cell? ⟨fb, 0, none⟩ = some (.string nbid)) (hs : w.cell? ⟨sb, 0, none⟩ = some (.string sw))
    (hring : ∀ w1, Below w.heap.size w w1 → Calls Ybad.prog 15 #[.pointer (some ⟨tb, to, none⟩)] w1 fun e w' => e = .returned (.agg (ids16 f).toArray) ∧ Below w1.heap.size w1 w') (hf1 : ∀ i, (f i).oneCell' = true) :
    Calls Ybad.prog 10 #[.pointer (some ⟨nb, 0, none⟩), .pointer (some ⟨tb, to, none⟩), .pointer (some ⟨fb, 0, none⟩)] w fun e w' => e = .returned (.tuple #[]) ∧ EnvAt B eb w' (k + 1) (ts ++ [.string nbid]) (mss ++ (msg number sw f).toList) ∧ KeptX (fun x => x = eb ∨ x = tb) B w w' ∧ w'.heap[tb]? = some (.cells (arr.setIfInBounds (to + 10) (.bool true)) t (0, 0)) := by
  have c4 : w.cell? ⟨tb, to + 4, none⟩ = some (.pointer (some ⟨sb, 0, none⟩)) := by rw [cell_of_row _ _ _ _ t (0, 0) htb]; exact h4
  have c10 : w.cell? ⟨tb, to + 10, none⟩ = some (.bool false) := by rw [cell_of_row _ _ _ _ t (0, 0) htb]; exact h10
  have hfb := World.block_lt_of_cell? w _ hf
  have hsb := World.block_lt_of_cell? w _ hs
  have htl := World.block_lt_of_cell? w _ c4
  simp only at hfb hsb htl
  go_enter Ybad.func10, Ybad.ntmps10
  go_wp2_with fail
  rename_i hK
  refine wp_region_tail 16 (by kernel_rfl) [18, 19, 20, 21, 22, 23, 24, 25, 26, 27, 28, 29, 30, 31, 32, 33] (PhiW nb fb tb to sb nbid sw f) (fun a b => Below a.heap.size a b) 100 (fun _ => True) trivial (fun _ _ _ h k => h.trans (k.mono h.size)) ((Below.refl _ _).drew) (by decide) (by kernel_rfl) (by kernel_rfl) ?hend ⟨?_, ?_, ?_, ?_, ?_, ?_, ?_, ?_, ?_, ?_, ?_, ?_, ?_, ?_, ?_, ?_, trivial⟩
  case hend =>
    intro a w1 hr hg hall
    obtain ⟨v, hv0, rfl⟩ := hall 0 (by decide)
    obtain ⟨v, hv4, rfl⟩ := hall 4 (by decide)
    obtain ⟨v, hv15, rfl⟩ := hall 15 (by decide)
    refine tail_one rfl (wp_ent 14 _ (g_call14 rfl hv0 hv4 hv15) ?_)
    refine (tell14 mr number B eb nb k nbid (msg 0 sw f) 0 ts mss w1 hk (Nat.le_trans hB hg.size) rfl (msg_one _ _ _ hf1) rfl (hE.above hg hB) (hN.below hg)).mono ?_
    rintro e w2 ⟨rfl, g1, g2⟩
    refine ⟨_, rfl, wpList_nil ?_⟩
    rw [msg_set] at g1
    refine hK _ _ ?_
    obtain ⟨us, e⟩ := frame10 nb tb to fb sb a hr
    rw [show (a.put (some 34) (.tuple #[])) = _ from e]
    have g3 : KeptX (· = eb) B w w2 := (KeptX.of (hg.mono hB)).trans g2
    have htb2 : w2.heap[tb]? = some (.cells arr t (0, 0)) := (g3.block tb htB hte).trans htb
    have c2 : w2.cell? ⟨tb, to + 10, none⟩ = some (.bool false) := by rw [cell_of_row _ _ _ _ t (0, 0) htb2]; exact h10
    have fz := frozen_row htb2 (to + 10)
    have htl2 : tb < w2.heap.size := World.block_lt_of_cell? w2 _ c2
    have f1 : EnvAt B eb (w2.setCell ⟨tb, to + 10, none⟩ (.bool true)) (k + 1) (ts ++ [.string nbid]) (mss ++ (msg number sw f).toList) := g1.setCell htB hte
    have f2 : KeptX (fun x => x = eb ∨ x = tb) B w (w2.setCell ⟨tb, to + 10, none⟩ (.bool true)) := (g3.weak (fun _ h => .inl h)).trans (KeptX.setCell w2 _ _ (.inr rfl))
    have f3 := heap_setCell_at (i := to + 10) htb2 (.bool true)
    have F : Hid _ := And.intro f1 (And.intro f2 f3)
    clear f1 f2 f3 g3 g1 g2 htb2 htb hE hN hg hr hall
    go_wp2
    exact Go.Great.bodyPost_end0 rfl rfl ⟨rfl, F.out⟩
  · intro a w1 hr hg hj hd
    exact wp_val _ _ (g_move rfl (hr.other 0 rfl)) ⟨_, rfl, rfl, fun _ _ _ h => h, fun _ h => h, Below.refl _ _⟩
  · intro a w1 hr hg hj hd
    exact wp_val _ _ (g_move rfl (hr.other 2 rfl)) ⟨_, rfl, rfl, fun _ _ _ h => h, fun _ h => h, Below.refl _ _⟩
  · intro a w1 hr hg hj hd
    obtain ⟨v, hv, rfl⟩ := hd ⟨1, .data⟩ (by simp) rfl
    exact wp_val _ _ (g_nil rfl hv) ⟨_, rfl, rfl, fun _ _ _ h => h, fun _ h => h, Below.refl _ _⟩
  · intro a w1 hr hg hj hd
    obtain ⟨v, hv, rfl⟩ := hd ⟨2, .data⟩ (by simp) rfl
    exact wp_val _ _ (g_fld 64 0 0 rfl hv (by decide)) ⟨_, rfl, rfl, fun _ _ _ h => h, fun _ h => h, Below.refl _ _⟩
  · intro a w1 hr hg hj hd
    obtain ⟨v, hv, rfl⟩ := hd ⟨3, .data⟩ (by simp) rfl
    exact wp_val _ _ (g_ld 9 rfl hv ((hg.cell (p := ⟨fb, 0, none⟩) hfb).trans hf) (by decide)) ⟨_, rfl, rfl, fun _ _ _ h => h, fun _ h => h, Below.refl _ _⟩
  · intro a w1 hr hg hj hd
    exact wp_val _ _ (g_move rfl (hr.other 1 rfl)) ⟨_, rfl, rfl, fun _ _ _ h => h, fun _ h => h, Below.refl _ _⟩
  · intro a w1 hr hg hj hd
    obtain ⟨v, hv, rfl⟩ := hd ⟨5, .data⟩ (by simp) rfl
    exact wp_val _ _ (g_nil rfl hv) ⟨_, rfl, rfl, fun _ _ _ h => h, fun _ h => h, Below.refl _ _⟩
  · intro a w1 hr hg hj hd
    obtain ⟨v, hv, rfl⟩ := hd ⟨6, .data⟩ (by simp) rfl
    exact wp_val _ _ (g_fld 71 4 4 rfl hv (by decide)) ⟨_, rfl, rfl, fun _ _ _ h => h, fun _ h => h, Below.refl _ _⟩
  · intro a w1 hr hg hj hd
    obtain ⟨v, hv, rfl⟩ := hd ⟨7, .data⟩ (by simp) rfl
    exact wp_val _ _ (g_fld 68 0 0 rfl hv (by decide)) ⟨_, rfl, rfl, fun _ _ _ h => h, fun _ h => h, Below.refl _ _⟩
  · intro a w1 hr hg hj hd
    obtain ⟨v, hv, rfl⟩ := hd ⟨8, .data⟩ (by simp) rfl
    exact wp_val _ _ (g_ld 41 rfl hv ((hg.cell (p := ⟨tb, to + 4, none⟩) htl).trans c4) (by decide)) ⟨_, rfl, rfl, fun _ _ _ h => h, fun _ h => h, Below.refl _ _⟩
  · intro a w1 hr hg hj hd
    obtain ⟨v, hv, rfl⟩ := hd ⟨9, .data⟩ (by simp) rfl
    exact wp_val _ _ (g_nil rfl hv) ⟨_, rfl, rfl, fun _ _ _ h => h, fun _ h => h, Below.refl _ _⟩
  · intro a w1 hr hg hj hd
    obtain ⟨v, hv, rfl⟩ := hd ⟨10, .data⟩ (by simp) rfl
    exact wp_val _ _ (g_fld 48 0 0 rfl hv (by decide)) ⟨_, rfl, rfl, fun _ _ _ h => h, fun _ h => h, Below.refl _ _⟩
  · intro a w1 hr hg hj hd
    obtain ⟨v, hv, rfl⟩ := hd ⟨11, .data⟩ (by simp) rfl
    exact wp_val _ _ (g_ld 9 rfl hv ((hg.cell (p := ⟨sb, 0, none⟩) hsb).trans hs) (by decide)) ⟨_, rfl, rfl, fun _ _ _ h => h, fun _ h => h, Below.refl _ _⟩
  · intro a w1 hr hg hj hd
    exact wp_val _ _ (g_move rfl (hr.other 1 rfl)) ⟨_, rfl, rfl, fun _ _ _ h => h, fun _ h => h, Below.refl _ _⟩
  · intro a w1 hr hg hj hd
    obtain ⟨v, hv, rfl⟩ := hd ⟨13, .data⟩ (by simp) rfl
    refine wp_ent 15 _ (g_call15 rfl hv) ((hring w1 hg).mono ?_)
    rintro e w2 ⟨rfl, hb2⟩
    exact ⟨_, rfl, _, rfl, rfl, fun _ _ _ h => h, fun _ h => h, hb2⟩
  · intro a w1 hr hg hj hd
    obtain ⟨v, hv12, rfl⟩ := hd ⟨12, .data⟩ (by simp) rfl
    obtain ⟨v, hv14, rfl⟩ := hd ⟨14, .data⟩ (by simp) rfl
    refine wp_val _ _ (g_build 89 rfl _ ?_ (built89 sw f w1)) ⟨_, rfl, rfl, fun _ _ _ h => h, fun _ h => h, Below.refl _ _⟩
    simp only [List.map_toArray, List.map_cons, List.map_nil, ev (s := 30) hv12, ev (s := 32) hv14]
    rfl
end Go.Proofs.YbulkbkkwDoor
