/-
  letGo (4).
-/
import Derived.Test.YbulkbkkwGreatDoorFnE
namespace Go.Proofs.YbulkbkkwGreatDoor
open Go.RowKit
set_option linter.unusedVariables false

/-- What letGo finds. -/
structure Scene (nd m nbb sb acc tb pb pool q n av : Nat) (lv : Bool) (pm tx xb : Nat → Nat) (ap : Nat → Option Addr) (ga g : Nat → Bool) (w : World) : Prop where
  nd5 : w.cell? ⟨nd, 5, none⟩ = some (.bool false)
  nd12 : w.cell? ⟨nd, 12, none⟩ = some (.int .i64 av)
  M : ∃ CM : Array Value, w.heap[m]? = some (.cells CM 54 (0, 0)) ∧ CM.size = 14 ∧ CM[0]? = some (.pointer (some ⟨nbb, 0, none⟩)) ∧ CM[1]? = some (.pointer (some ⟨sb, 0, none⟩)) ∧ CM[3]? = some (.int .i64 0) ∧ CM[8]? = some (.bool lv)
  nb7 : w.cell? ⟨nbb, 7, none⟩ = some (.pointer (some ⟨acc, 0, none⟩))
  ac5 : w.cell? ⟨acc, 5, none⟩ = some (.slice (some ⟨tb, 0, none⟩) q q)
  S : ∃ CS : Array Value, w.heap[sb]? = some (.cells CS 50 (0, 0)) ∧ CS[7]? = some (.slice (some ⟨pool, 0, none⟩) 5 5) ∧ CS[8]? = some (.slice (some ⟨pb, 0, none⟩) n n)
  pl : ∀ i, i < 5 → w.cell? ⟨pool, i, none⟩ = some (.pointer (some ⟨pm i, 0, none⟩))
  pm0 : pm 0 = m
  pmne : ∀ i, 0 < i → i < 5 → pm i ≠ m ∧ pm i ≠ pb ∧ pm i ≠ sb
  mem : ∀ i, 0 < i → i < 5 → w.cell? ⟨pm i, 3, none⟩ = some (.int .i64 0) ∧ w.cell? ⟨pm i, 7, none⟩ = some (.bool true) ∧ w.cell? ⟨pm i, 8, none⟩ = some (.bool false)
  row : ∀ i, i < n → w.cell? ⟨pb, i, none⟩ = some (.pointer (some ⟨xb i, 0, none⟩))
  rowf : ∀ i, i < n → w.frozen? ⟨pb, i, none⟩ = false
  x54 : ∀ i, i < n → Is54 w (xb i)
  xpb : ∀ i, i < n → xb i ≠ pb
  tr : ∀ i, i < q → w.cell? ⟨tb, i, none⟩ = some (.pointer (some ⟨tx i, 0, none⟩)) ∧ w.cell? ⟨tx i, 4, none⟩ = some (.pointer (ap i)) ∧ w.cell? ⟨tx i, 14, none⟩ = some (.bool (g i))
  teq : ∀ i, i < q → ∀ wr : World, (∀ k, k < w.heap.size → wr.heap[k]? = w.heap[k]?) → (binOp .eql 46 (.pointer (ap i)) (.pointer (some ⟨sb, 0, none⟩))).run Ybaz.prog wr = .ok (.bool (ga i)) wr
  ne : m ≠ pb ∧ m ≠ sb ∧ pb ≠ sb ∧ nd ≠ m ∧ nd ≠ pb ∧ nd ≠ sb ∧ pool ≠ m ∧ pool ≠ pb ∧ pool ≠ sb
  pbl : pb < w.heap.size
  nle : n ≤ 1024
  qle : q ≤ 1024

/-- What it leaves where m may go. -/
structure LetGo (m sb pb n : Nat) (xb : Nat → Nat) (w w' : World) : Prop where
  kept : KeptX (fun x => x = pb ∨ x = m ∨ x = sb) w.heap.size w w'
  row : RowL w' pb xb (acts (fun i => !decide (xb i = m)) n)
  m7 : w'.cell? ⟨m, 7, none⟩ = some (.bool false)
  m8 : w'.cell? ⟨m, 8, none⟩ = some (.bool false)
  s8 : w'.cell? ⟨sb, 8, none⟩ = some (.slice (some ⟨pb, 0, none⟩) (acts (fun i => !decide (xb i = m)) n).length n)
  mb : Is54 w' m

theorem has6S (nd m nbb sb acc tb pb pool q n av : Nat) (lv : Bool) (pm tx xb : Nat → Nat) (ap : Nat → Option Addr) (ga g : Nat → Bool) (w : World) (h : Scene nd m nbb sb acc tb pb pool q n av lv pm tx xb ap ga g w) (W : World) (hW : ∀ k, k < w.heap.size → W.heap[k]? = w.heap[k]?) (cb : Nat) (hc : W.cell? ⟨cb, 0, none⟩ = some (.pointer (some ⟨m, 0, none⟩))) :
    Calls Ybaz.prog 6 #[.slice (some ⟨tb, 0, none⟩) q q, .func (.func 7) #[] #[.pointer (some ⟨cb, 0, none⟩)]] W fun e w' => e = .returned (.bool ((List.range q).any fun i => ga i && !g i)) ∧ Quiet W w' := by
  have hcell : ∀ (p : Addr) v, w.cell? p = some v → W.cell? p = some v := fun p v hp => (World.cell?_of_block (w := w) (hW p.block (World.block_lt_of_cell? w _ hp))).trans hp
  obtain ⟨CM, hM, hMs, hM0, hM1, hM3, hM8⟩ := h.M
  exact has6 tb q q cb m sb tx ap ga g W h.qle hc (hcell _ _ ((cell_of_row _ _ _ _ 54 (0, 0) hM).trans hM1)) (fun i hi => hcell _ _ (h.tr i hi).1) (fun i hi => hcell _ _ (h.tr i hi).2.1) (fun i hi => hcell _ _ (h.tr i hi).2.2) (fun i hi wr hq => h.teq i hi wr (fun k hk => by rw [hq.heap]; exact hW k hk))

theorem let4a (nd m nbb sb acc tb pb pool q n av : Nat) (lv : Bool) (pm tx xb : Nat → Nat) (ap : Nat → Option Addr) (ga g : Nat → Bool) (w : World) (h : Scene nd m nbb sb acc tb pb pool q n av lv pm tx xb ap ga g w) (hb : ((List.range q).any fun i => ga i && !g i) = true) :
    Calls Ybaz.prog 4 #[.pointer (some ⟨nd, 0, none⟩), .pointer (some ⟨m, 0, none⟩)] w fun e w' => e = .returned (.bool false) ∧ KeptX (fun _ => False) w.heap.size w w' := by
  obtain ⟨CM, hM, hMs, hM0, hM1, hM3, hM8⟩ := h.M
  have m0 : w.cell? ⟨m, 0, none⟩ = some (.pointer (some ⟨nbb, 0, none⟩)) := (cell_of_row _ _ _ _ 54 (0, 0) hM).trans hM0
  have nb7 := h.nb7
  have ac5 := h.ac5
  have l1 := World.block_lt_of_cell? w _ m0
  have l2 := World.block_lt_of_cell? w _ nb7
  have l3 := World.block_lt_of_cell? w _ ac5
  simp only at l1 l2 l3
  have HS : Hid _ := has6S nd m nbb sb acc tb pb pool q n av lv pm tx xb ap ga g w h
  clear h hM
  go_enter Ybaz.func4, Ybaz.ntmps4
  go_wp2_with (go_at_call 6; refine (Calls.mono (HS.out _ (fun k hk => Below.heap_alloc _ _ _ hk) w.heap.size ((World.cell?_alloc_mark _ _ _ _ _).trans rfl)) ?_); rintro e w1 ⟨rfl, hq⟩; rw [hb])
  go_ret
  exact ⟨rfl, (KeptX.of ((Below.refl _ _).alloc (Nat.le_refl _) _)).trans (KeptX.quiet hq)⟩

theorem frameL {x0 x1 x2 x3 x4 x5 x6 x7 x8 x9 x10 x11 x12 x13 x14 x15 x16 x17 x18 x19 x20 x21 x22 x23 x24 x25 x26 x27 x28 x29 x30 x31 : Value} {a : Act} (h : Rest [17, 18, 19, 20, 21] ⟨#[x0, x1, x2, x3, x4, x5, x6, x7, x8, x9, x10, x11, x12, x13, x14, x15, x16, x17, x18, x19, x20, x21, x22, x23, x24, x25, x26, x27, x28, x29, x30, x31], []⟩ a) : ∃ us : Nat → Value, a = ⟨#[x0, x1, x2, x3, x4, x5, x6, x7, x8, x9, x10, x11, x12, x13, x14, x15, x16, us 17, us 18, us 19, us 20, us 21, x22, x23, x24, x25, x26, x27, x28, x29, x30, x31], []⟩ := by
  obtain ⟨us, rfl⟩ := frame_of h
  exact ⟨us, by kernel_rfl⟩
theorem g_nil {o : Oper} {a : Act} {w1 : World} {s : Nat} {p : Addr} (ho : o.op = .nilCheck (.tmp s)) (h1 : a.tmps[s]? = some (.pointer (some p))) : (execOp a.eval o).run Ybaz.prog w1 = .ok (.value (.pointer (some p))) w1 := by
  unfold execOp
  rw [ho]
  go_simp
theorem g_fld1 {o : Oper} {a : Act} {w1 : World} {b s : Nat} (ho : o.op = .fieldAddr 54 (.tmp s) 1) (h1 : a.tmps[s]? = some (.pointer (some ⟨b, 0, none⟩))) : (execOp a.eval o).run Ybaz.prog w1 = .ok (.value (.pointer (some ⟨b, 1, none⟩))) w1 := by
  unfold execOp
  rw [ho]
  go_simp
theorem g_ld (t : TypeId) {o : Oper} {a : Act} {w1 : World} {b off s : Nat} {v : Value} (ho : o.op = .load t (.tmp s)) (h1 : a.tmps[s]? = some (.pointer (some ⟨b, off, none⟩))) (hc : w1.cell? ⟨b, off, none⟩ = some v)
    (ht : t = 51 ∨ t = 46) : (execOp a.eval o).run Ybaz.prog w1 = .ok (.value v) w1 := by
  unfold execOp
  rw [ho]
  rcases ht with rfl | rfl <;> go_simp
theorem g_call8 {o : Oper} {a : Act} {w1 : World} {s r : Nat} {u v : Value} (ho : o.op = .call { callee := .value (.func 8), args := #[.tmp s, .tmp r], argTypes := #[46, 51] }) (h1 : a.tmps[s]? = some u) (h2 : a.tmps[r]? = some v) : (execOp a.eval o).run Ybaz.prog w1 = .ok (.enter 8 #[u, v]) w1 := by
  unfold execOp
  rw [ho]
  go_simp
def PhiL (m sb : Nat) (j : Nat) (v : Value) (_ : World) : Prop :=
  match j with
  | 0 => v = .pointer (some ⟨m, 0, none⟩)
  | 1 => v = .pointer (some ⟨m, 0, none⟩)
  | 2 => v = .pointer (some ⟨m, 1, none⟩)
  | 3 => v = .pointer (some ⟨sb, 0, none⟩)
  | 4 => v = .pointer (some ⟨m, 0, none⟩)
  | _ => True

theorem drop8S (nd m nbb sb acc tb pb pool q n av : Nat) (lv : Bool) (pm tx xb : Nat → Nat) (ap : Nat → Option Addr) (ga g : Nat → Bool) (w : World) (h : Scene nd m nbb sb acc tb pb pool q n av lv pm tx xb ap ga g w) (W : World) (hW : ∀ k, k < w.heap.size → W.heap[k]? = w.heap[k]?) (hs : w.heap.size ≤ W.heap.size) :
    Calls Ybaz.prog 8 #[.pointer (some ⟨sb, 0, none⟩), .pointer (some ⟨m, 0, none⟩)] W fun e w' => e = .returned (.tuple #[]) ∧ Dropped pb n m sb xb W w' := by
  have hcell : ∀ (p : Addr) v, w.cell? p = some v → W.cell? p = some v := fun p v hp => (World.cell?_of_block (w := w) (hW p.block (World.block_lt_of_cell? w _ hp))).trans hp
  obtain ⟨CM, hM, hMs, hM0, hM1, hM3, hM8⟩ := h.M
  obtain ⟨CS, hS, hS7, hS8⟩ := h.S
  obtain ⟨n1, n2, n3, n4, n5, n6, n7, n8, n9⟩ := h.ne
  exact drop8 pb n m sb xb W h.nle CM ((hW m (Array.getElem?_eq_some_iff.1 hM).1).trans hM) (by omega) CS ((hW sb (Array.getElem?_eq_some_iff.1 hS).1).trans hS) hS8 n1 n2 n3 (by have := h.pbl; omega) (fun i hi => hcell _ _ (h.row i hi)) (fun i hi => (World.frozen?_of_block (w := w) (hW pb h.pbl)).trans (h.rowf i hi))
    (fun i hi => by
      obtain ⟨C, hC⟩ := h.x54 i hi
      exact ⟨C, (hW _ (Array.getElem?_eq_some_iff.1 hC).1).trans hC⟩) h.xpb

theorem fill9S (nd m nbb sb acc tb pb pool q n av : Nat) (lv : Bool) (pm tx xb : Nat → Nat) (ap : Nat → Option Addr) (ga g : Nat → Bool) (w : World) (h : Scene nd m nbb sb acc tb pb pool q n av lv pm tx xb ap ga g w) (W : World) (hW : ∀ k, k < w.heap.size → W.heap[k]? = w.heap[k]?) (hs : w.heap.size ≤ W.heap.size) (w2 : World) (hd : Dropped pb n m sb xb W w2) :
    Calls Ybaz.prog 9 #[.pointer (some ⟨nd, 0, none⟩), .pointer (some ⟨sb, 0, none⟩)] w2 fun e w' => e = .returned (.tuple #[]) ∧ Quiet w2 w' := by
  obtain ⟨CM, hM, hMs, hM0, hM1, hM3, hM8⟩ := h.M
  obtain ⟨CS, hS, hS7, hS8⟩ := h.S
  obtain ⟨n1, n2, n3, n4, n5, n6, n7, n8, n9⟩ := h.ne
  have hcell : ∀ (p : Addr) v, w.cell? p = some v → p.block ≠ pb → p.block ≠ m → p.block ≠ sb → w2.cell? p = some v := fun p v hp h1 h2 h3 =>
    (hd.kept.cell (Nat.lt_of_lt_of_le (World.block_lt_of_cell? w _ hp) hs) (fun hx => by rcases hx with hx | hx | hx <;> contradiction)).trans ((World.cell?_of_block (w := w) (hW p.block (World.block_lt_of_cell? w _ hp))).trans hp)
  have hWM : ∀ l, W.cell? ⟨m, l, none⟩ = w.cell? ⟨m, l, none⟩ := fun l => World.cell?_of_block (w := w) (hW m (Array.getElem?_eq_some_iff.1 hM).1)
  have hWS : ∀ l, W.cell? ⟨sb, l, none⟩ = w.cell? ⟨sb, l, none⟩ := fun l => World.cell?_of_block (w := w) (hW sb (Array.getElem?_eq_some_iff.1 hS).1)
  have hm3 : w2.cell? ⟨m, 3, none⟩ = some (.int .i64 0) := (hd.mo 3 (by decide)).trans ((hWM 3).trans ((cell_of_row _ _ _ _ 54 (0, 0) hM).trans hM3))
  have hm8 : w2.cell? ⟨m, 8, none⟩ = some (.bool lv) := (hd.mo 8 (by decide)).trans ((hWM 8).trans ((cell_of_row _ _ _ _ 54 (0, 0) hM).trans hM8))
  have hs7 : w2.cell? ⟨sb, 7, none⟩ = some (.slice (some ⟨pool, 0, none⟩) 5 5) := (hd.so 7 (by decide)).trans ((hWS 7).trans ((cell_of_row _ _ _ _ 50 (0, 0) hS).trans hS7))
  refine fill9 nd sb pool av _ n _ pm (fun i => if i = 0 then false else true) (fun i => if i = 0 then lv else false) w2 (hcell _ _ h.nd12 n5 n4 n6) hd.s8 hs7 (fun i hi => hcell _ _ (h.pl i hi) n8 n7 n9) (fun i hi => ?_) (fun i hi => ?_) (fun i hi => ?_) (hcell _ _ h.nd5 n5 n4 n6)
  all_goals
    by_cases h0 : i = 0
    · subst h0
      rw [h.pm0]
      first | exact hm3 | exact hd.m7 | exact hm8
    · obtain ⟨p1, p2, p3⟩ := h.pmne i (by omega) hi
      obtain ⟨q1, q2, q3⟩ := h.mem i (by omega) hi
      first
        | exact hcell _ _ q1 p2 p1 p3
        | (rw [if_neg h0]; exact hcell _ _ q2 p2 p1 p3)
        | (rw [if_neg h0]; exact hcell _ _ q3 p2 p1 p3)

set_option maxRecDepth 100000 in
theorem let4b (nd m nbb sb acc tb pb pool q n av : Nat) (lv : Bool) (pm tx xb : Nat → Nat) (ap : Nat → Option Addr) (ga g : Nat → Bool) (w : World) (h : Scene nd m nbb sb acc tb pb pool q n av lv pm tx xb ap ga g w) (hb : ((List.range q).any fun i => ga i && !g i) = false) :
    Calls Ybaz.prog 4 #[.pointer (some ⟨nd, 0, none⟩), .pointer (some ⟨m, 0, none⟩)] w fun e w' => e = .returned (.bool true) ∧ LetGo m sb pb n xb w w' := by
  obtain ⟨CM, hM, hMs, hM0, hM1, hM3, hM8⟩ := h.M
  have m0 : w.cell? ⟨m, 0, none⟩ = some (.pointer (some ⟨nbb, 0, none⟩)) := (cell_of_row _ _ _ _ 54 (0, 0) hM).trans hM0
  have nb7 := h.nb7
  have ac5 := h.ac5
  have l1 := World.block_lt_of_cell? w _ m0
  have l2 := World.block_lt_of_cell? w _ nb7
  have l3 := World.block_lt_of_cell? w _ ac5
  simp only at l1 l2 l3
  have HS : Hid _ := has6S nd m nbb sb acc tb pb pool q n av lv pm tx xb ap ga g w h
  have HD : Hid _ := drop8S nd m nbb sb acc tb pb pool q n av lv pm tx xb ap ga g w h
  have HF : Hid _ := fill9S nd m nbb sb acc tb pb pool q n av lv pm tx xb ap ga g w h
  have HM : Hid _ := hM
  have HE : Hid _ := h.ne
  have HPB : Hid _ := h.pbl
  have HSB : Hid (sb < w.heap.size) := by
    obtain ⟨CS, hS, _⟩ := h.S
    exact ((Array.getElem?_eq_some_iff.1 hS).1 : sb < w.heap.size)
  have HM1 : Hid _ := hM1
  clear h hM hM1
  go_enter Ybaz.func4, Ybaz.ntmps4
  go_wp2_with (go_at_call 6; refine (Calls.mono (HS.out _ (fun k hk => Below.heap_alloc _ _ _ hk) w.heap.size ((World.cell?_alloc_mark _ _ _ _ _).trans rfl)) ?_); rintro e w1 ⟨rfl, hq⟩; rw [hb])
  have hbx : w1.cell? ⟨w.heap.size, 0, none⟩ = some (.pointer (some ⟨m, 0, none⟩)) := (hq.cell _).trans ((World.cell?_alloc_mark _ _ _ _ _).trans rfl)
  have hW1 : ∀ k, k < w.heap.size → w1.heap[k]? = w.heap[k]? := fun k hk => by rw [hq.heap]; exact Below.heap_alloc _ _ _ hk
  have hs1 : w1.heap.size = w.heap.size + 1 := by rw [hq.heap]; simp
  have hm1 : w1.cell? ⟨m, 1, none⟩ = some (.pointer (some ⟨sb, 0, none⟩)) := (World.cell?_of_block (w := w) (hW1 m l1)).trans ((cell_of_row _ _ _ _ 54 (0, 0) HM.out).trans HM1.out)
  have HQ : Hid _ := And.intro hq (And.intro hW1 hs1)
  clear hq hW1 hs1
  rename_i K hK
  refine wp_region_tail 5 (by kernel_rfl) [17, 18, 19, 20, 21] (PhiL m sb) (fun _ b => b = w1.drew) 100 (fun _ => True) trivial (fun _ _ _ _ h => h) rfl (by decide) (by kernel_rfl) (by kernel_rfl) ?hend ⟨?_, ?_, ?_, ?_, ?_, trivial⟩
  case hend =>
    rintro a w3 hr rfl hall
    obtain ⟨v, hv3, rfl⟩ := hall 3 (by decide)
    obtain ⟨v, hv4, rfl⟩ := hall 4 (by decide)
    refine tail_one rfl (wp_ent 8 _ (g_call8 rfl hv3 hv4) ((HD.out w1.drew HQ.out.2.1 (by have := HQ.out.2.2; show _ ≤ w1.heap.size; omega)).mono ?_))
    rintro e w4 ⟨rfl, hd⟩
    refine ⟨_, rfl, wpList_nil ?_⟩
    show K _ _
    refine hK _ _ ?_
    obtain ⟨us, e⟩ := frameL hr
    rw [e]
    have hbx2 : w4.cell? ⟨w.heap.size, 0, none⟩ = some (.pointer (some ⟨m, 0, none⟩)) := (hd.kept.cell (p := ⟨w.heap.size, 0, none⟩) (by have := HQ.out.2.2; show w.heap.size < w1.heap.size; omega) (fun hx => by
      obtain ⟨n1, n2, n3, n4, n5, n6, n7, n8, n9⟩ := HE.out
      have h1 := HPB.out
      have h2 := HSB.out
      simp only at hx
      rcases hx with hx | hx | hx <;> omega)).trans hbx
    have hm12 : w4.cell? ⟨m, 1, none⟩ = some (.pointer (some ⟨sb, 0, none⟩)) := (hd.mo 1 (by decide)).trans hm1
    have HDD : Hid _ := hd
    have hm82 : w4.cell? ⟨m, 8, none⟩ = some (.bool lv) := (hd.mo 8 (by decide)).trans ((World.cell?_of_block (w := w) (HQ.out.2.1 m l1)).trans ((cell_of_row _ _ _ _ 54 (0, 0) HM.out).trans hM8))
    have hmf := hd.mf 8
    have hbxl : w.heap.size < w4.heap.size := World.block_lt_of_cell? w4 _ hbx2
    clear hd hr hall e hv3 hv4 hbx hm1
    go_wp2_with (go_at_call 9; refine (Calls.mono (HF.out w1.drew HQ.out.2.1 (by have := HQ.out.2.2; show _ ≤ w1.heap.size; omega) _ HDD.out) ?_); rintro e w5 ⟨rfl, hq5⟩; have hbx5 := (hq5.cell ⟨w.heap.size, 0, none⟩).trans hbx2; have hm85 := (hq5.cell ⟨m, 8, none⟩).trans hm82; have hmf5 : w5.frozen? ⟨m, 8, none⟩ = false := (World.frozen?_of_block (w := w4) (by rw [hq5.heap])).trans hmf)
    go_ret
    obtain ⟨n1, n2, n3, n4, n5, n6, n7, n8, n9⟩ := HE.out
    have hd := HDD.out
    have hs1 := HQ.out.2.2
    have ho : ∀ x l, (x ≠ m ∨ l ≠ 8) → (w5.setCell ⟨m, 8, none⟩ (.bool false)).cell? ⟨x, l, none⟩ = w4.cell? ⟨x, l, none⟩ := fun x l hx => (World.cell?_setCell_other _ _ _ _ (fun e => by
      rcases hx with hx | hx
      · exact hx (congrArg Addr.block e).symm
      · exact hx (congrArg Addr.off e).symm)).trans (hq5.cell _)
    have hw1 : KeptX (fun x => x = pb ∨ x = m ∨ x = sb) w.heap.size w w1.drew := (KeptX.of ((Below.refl _ _).alloc (Nat.le_refl _) _)).trans (KeptX.quiet (HQ.out.1.trans (Quiet.drew w1)))
    have hd2 := hd.kept.mono (show w.heap.size ≤ w1.drew.heap.size by show _ ≤ w1.heap.size; omega)
    exact ⟨rfl, ((hw1.trans hd2).trans (KeptX.quiet hq5)).trans (KeptX.setCell _ _ _ (.inr (.inl rfl))), fun i t h => (ho pb i (.inl (Ne.symm n1))).trans (hd.row i t h), (ho m 7 (.inr (by decide))).trans hd.m7, World.cell?_setCell_same _ _ _ hm85, (ho sb 8 (.inl (Ne.symm n2))).trans hd.s8, by
      obtain ⟨C, hC⟩ := hd.mb
      exact ⟨_, heap_setCell_at (by rw [hq5.heap]; exact hC) _⟩⟩
  · rintro a w3 hr rfl hj hd
    exact wp_val _ _ (g_ld 51 rfl (hr.other 3 rfl) hbx (by decide)) ⟨_, rfl, rfl, fun _ _ _ h => h, fun _ h => h, rfl⟩
  · rintro a w3 hr rfl hj hd
    obtain ⟨v, hv0, rfl⟩ := hd ⟨0, .data⟩ (by simp) rfl
    exact wp_val _ _ (g_nil rfl hv0) ⟨_, rfl, rfl, fun _ _ _ h => h, fun _ h => h, rfl⟩
  · rintro a w3 hr rfl hj hd
    obtain ⟨v, hv1, rfl⟩ := hd ⟨1, .data⟩ (by simp) rfl
    exact wp_val _ _ (g_fld1 rfl hv1) ⟨_, rfl, rfl, fun _ _ _ h => h, fun _ h => h, rfl⟩
  · rintro a w3 hr rfl hj hd
    obtain ⟨v, hv2, rfl⟩ := hd ⟨2, .data⟩ (by simp) rfl
    exact wp_val _ _ (g_ld 46 rfl hv2 hm1 (by decide)) ⟨_, rfl, rfl, fun _ _ _ h => h, fun _ h => h, rfl⟩
  · rintro a w3 hr rfl hj hd
    exact wp_val _ _ (g_ld 51 rfl (hr.other 3 rfl) hbx (by decide)) ⟨_, rfl, rfl, fun _ _ _ h => h, fun _ h => h, rfl⟩
end Go.Proofs.YbulkbkkwGreatDoor
