/-
  LawS3064BRings (function 4).
-/
import Derived.Test.YbulkbkkwDoorFrames
namespace Go.Proofs.YbulkbkkwDoor
open Go.RowKit
set_option linter.unusedVariables false

set_option maxRecDepth 100000 in
theorem rings_long (a0 : Option Addr) (len cap : Nat) (x number : Int) (nid : ByteArray) (w : World) (hl : 1024 < len) :
    Calls Ybad.prog 4 #[.slice a0 len cap, .int .u8 x, .int .i32 number, .string nid] w fun e w' => e = .returned (.bool true) ∧ KeptX (fun _ => False) w.heap.size w w' := by
  have h1 : (1024 : Int) < (len : Int) := by omega
  go_enter Ybad.func4, Ybad.ntmps4
  go_wp2
  go_ret
  exact ⟨rfl, KeptX.refl _ _ _⟩


def PhiM (rb ab ao len cap k : Nat) (idk : Int) (j : Nat) (v : Value) (_ : World) : Prop :=
  match j with
  | 0 => v = .pointer (some ⟨rb, 0, none⟩)
  | 1 => v = .slice (some ⟨ab, ao, none⟩) len cap
  | 2 => v = .int .i64 k
  | 3 => v = .pointer (some ⟨ab, ao + k * 3, none⟩)
  | 4 => v = .pointer (some ⟨ab, ao + k * 3 + 2, none⟩)
  | 5 => v = .int .u8 idk
  | 6 => v = .pointer (some ⟨rb, 0, none⟩)
  | 7 => v = .pointer (some ⟨rb, 0 + 33, none⟩)
  | 8 => v = .pointer (some ⟨rb, 0 + 33, none⟩)
  | _ => True
theorem g_lenO (t : TypeId) {o : Oper} {a : Act} {w1 : World} {s n c : Nat} {p : Option Addr} (ho : o.op = .call { callee := .builtin .len, args := #[.tmp s], argTypes := #[t] }) (h1 : a.tmps[s]? = some (.slice p n c)) (ht : t = 24 ∨ t = 23) : (execOp a.eval o).run Ybad.prog w1 = .ok (.value (.int .i64 n)) w1 := by
  unfold execOp
  rw [ho]
  rcases ht with rfl | rfl <;> go_simp
theorem g_neI {o : Oper} {a : Act} {w1 : World} {s r : Nat} {n : Int} (ho : o.op = .binOp .neq 3 (.tmp s) (.tmp r) 3) (h1 : a.tmps[s]? = some (.int .i64 n)) (h2 : a.tmps[r]? = some (.int .i64 n)) : (execOp a.eval o).run Ybad.prog w1 = .ok (.value (.bool false)) w1 := by
  unfold execOp
  rw [ho]
  go_simp
theorem g_geI {o : Oper} {a : Act} {w1 : World} {s r : Nat} {m n : Int} (ho : o.op = .binOp .geq 3 (.tmp s) (.tmp r) 3) (h1 : a.tmps[s]? = some (.int .i64 m)) (h2 : a.tmps[r]? = some (.int .i64 n)) (h : m < n) : (execOp a.eval o).run Ybad.prog w1 = .ok (.value (.bool false)) w1 := by
  have h3 : ¬ n ≤ m := by omega
  unfold execOp
  rw [ho]
  go_simp
def PhiD (eb tb n tc mc : Nat) (tp mp : Option Addr) (j : Nat) (v : Value) (_ : World) : Prop :=
  match j with
  | 0 => v = .pointer (some ⟨tb, 0, none⟩)
  | 1 => v = .pointer (some ⟨tb, 0, none⟩)
  | 2 => v = .pointer (some ⟨tb, 0 + 10, none⟩)
  | 3 => v = .bool false
  | 4 => v = .bool false
  | 5 => v = .pointer (some ⟨eb, 0, none⟩)
  | 6 => v = .pointer (some ⟨eb, 0, none⟩)
  | 7 => v = .pointer (some ⟨eb, 0 + 0, none⟩)
  | 8 => v = .slice tp n tc
  | 9 => v = .int .i64 (n : Int)
  | 10 => v = .pointer (some ⟨eb, 0, none⟩)
  | 11 => v = .pointer (some ⟨eb, 0, none⟩)
  | 12 => v = .pointer (some ⟨eb, 0 + 1, none⟩)
  | 13 => v = .slice mp n mc
  | 14 => v = .int .i64 (n : Int)
  | 15 => v = .bool false
  | 16 => v = .bool false
  | _ => True

theorem g_call7c {o : Oper} {a : Act} {w1 : World} {s r p : Nat} {u v y : Value} (ho : o.op = .call { callee := .value (.func 7), args := #[.tmp s, .tmp r, .const (.string ⟨#[97]⟩), .tmp p], argTypes := #[89, 21, 9, 72] }) (h1 : a.tmps[s]? = some u) (h2 : a.tmps[r]? = some v) (h4 : a.tmps[p]? = some y) : (execOp a.eval o).run Ybad.prog w1 = .ok (.enter 7 #[u, v, .string ⟨#[97]⟩, y]) w1 := by
  unfold execOp
  rw [ho]
  go_simp
theorem KeptX.lift {X : Nat → Prop} {B n : Nat} {a b : World} (h : KeptX X B a b) (hB : n ≤ B) (hX : ∀ x, X x → n ≤ x) : KeptX (fun _ => False) n a b :=
  ⟨h.os, h.output, h.size, fun k hk _ => h.block k (by omega) (fun hx => by have := hX k hx; omega)⟩
theorem owns_some {w : World} {B e size n c : Nat} {p : Option Addr} {xs : List Value} (h : w.ownsRow B e size (.slice p n c) n xs) (hn : 0 < n) : ∃ g, p = some ⟨g, 0, none⟩ := by
  rcases h.2 with ⟨_, h0⟩ | ⟨g, cap, _, h1, _⟩
  · omega
  · cases h1; exact ⟨g, rfl⟩
def PhiE (eb rb tg mg n tc mc cj : Nat) (number : Int) (nid : ByteArray) (f : Nat → Value) (j : Nat) (v : Value) (_ : World) : Prop :=
  match j with
  | 0 => v = .int .i64 (cj : Int)
  | 1 => v = .pointer (some ⟨eb, 0, none⟩)
  | 2 => v = .pointer (some ⟨eb, 0, none⟩)
  | 3 => v = .pointer (some ⟨eb, 0 + 1, none⟩)
  | 4 => v = .slice (some ⟨mg, 0, none⟩) n mc
  | 5 => v = .int .i64 (n : Int)
  | 6 => v = .bool false
  | 7 => v = .bool false
  | 8 => v = .pointer (some ⟨eb, 0, none⟩)
  | 9 => v = .pointer (some ⟨eb, 0, none⟩)
  | 10 => v = .pointer (some ⟨eb, 0 + 0, none⟩)
  | 11 => v = .slice (some ⟨tg, 0, none⟩) n tc
  | 12 => v = .int .i64 (cj : Int)
  | 13 => v = .pointer (some ⟨tg, cj * 1, none⟩)
  | 14 => v = .string nid
  | 15 => v = .string nid
  | 16 => v = .bool false
  | 17 => v = .bool false
  | 18 => v = .bool false
  | 19 => v = .pointer (some ⟨eb, 0, none⟩)
  | 20 => v = .pointer (some ⟨eb, 0, none⟩)
  | 21 => v = .pointer (some ⟨eb, 0 + 1, none⟩)
  | 22 => v = .slice (some ⟨mg, 0, none⟩) n mc
  | 23 => v = .int .i64 (cj : Int)
  | 24 => v = .pointer (some ⟨mg, cj * 39, none⟩)
  | 25 => v = .agg (msg number ⟨#[97]⟩ f)
  | 26 => v = .int .i32 number
  | 27 => v = .pointer (some ⟨rb, 0, none⟩)
  | 28 => v = .pointer (some ⟨rb, 0, none⟩)
  | 29 => v = .pointer (some ⟨rb, 0 + 33, none⟩)
  | 30 => v = .agg (ids16 f).toArray
  | 31 => v = .bool true
  | 32 => v = .bool false
  | 33 => v = .bool false
  | 34 => v = .bool false
  | 35 => v = .pointer (some ⟨rb, 0, none⟩)
  | 36 => v = .pointer (some ⟨rb, 0, none⟩)
  | 37 => v = .pointer (some ⟨rb, 0 + 4, none⟩)
  | 38 => v = .pointer (some ⟨rb, 0 + 4 + 10, none⟩)
  | 39 => v = .bool true
  | 40 => v = .bool false
  | 41 => v = .bool false
  | _ => True

theorem calls_set2 {f : FuncId} {args : Array Value} {R : Ending → World → Prop} (w : World) (fb i : Nat) (v : Value) (o1 o2 : Obj) (arr : Array Value) (t : TypeId) (hfb : w.heap[fb]? = some (.cells arr t (0, 0)))
    (h : ∀ W, W.heap.size = w.heap.size + 1 + 1 → KeptX (· = fb) w.heap.size w W → W.heap[fb]? = some (.cells (arr.setIfInBounds i v) t (0, 0)) → W.heap[w.heap.size]? = some o1 → W.heap[w.heap.size + 1]? = some o2 → Calls Ybad.prog f args W R) :
    Calls Ybad.prog f args (((w.setCell ⟨fb, i, none⟩ v).alloc o1).alloc o2) R := by
  have hlt : fb < w.heap.size := (Array.getElem?_eq_some_iff.1 hfb).1
  have hsz : (w.setCell ⟨fb, i, none⟩ v).heap.size = w.heap.size := Array.size_modify
  have hk : KeptX (· = fb) w.heap.size w (w.setCell ⟨fb, i, none⟩ v) := KeptX.setCell w _ _ rfl
  have hb := heap_setCell_at (i := i) hfb v
  generalize (w.setCell ⟨fb, i, none⟩ v) = w1 at *
  refine h _ (by simp [hsz]) (hk.trans (KeptX.of (((Below.refl _ _).alloc (by omega) _).alloc (by simp; omega) _))) ?_ ?_ ?_
  · rw [Below.heap_alloc _ _ _ (by simp; omega), Below.heap_alloc _ _ _ (by omega)]; exact hb
  · rw [Below.heap_alloc _ _ _ (by simp; omega)]; exact heap_at _ _ _ hsz.symm
  · exact heap_at _ _ _ (by simp [hsz])
theorem store_new (w : World) (arr : Array Value) (t : TypeId) (n i : Nat) (v : Value) (hn : n = w.heap.size) : ((w.alloc (.cells arr t)).drew).setCell ⟨n, i, none⟩ v = w.drew.alloc (.cells (arr.setIfInBounds i v) t) :=
  World.setCell_alloc_at (w := w.drew) arr t n i v hn

set_option maxHeartbeats 4000000 in
set_option maxRecDepth 100000 in
theorem rings4 (a0 : Option Addr) (len cap : Nat) (sel id : Nat → Int) (wd : Nat → Bool) (x number : Int) (nid : ByteArray) (w : World) (hl : len ≤ 1024) (hx : 0 ≤ x ∧ x ≤ 255)
    (hsel : ∀ k, 0 ≤ sel k ∧ sel k ≤ 255) (hin : ∀ k, k < len → InAt a0 sel id wd w.heap.size w k) :
    Calls Ybad.prog 4 #[.slice a0 len cap, .int .u8 x, .int .i32 number, .string nid] w fun e w' => e = .returned (.bool true) ∧ KeptX (fun _ => False) w.heap.size w w' := by
  have h1 : ¬ (1024 : Int) < (len : Int) := by omega
  have q64 := zv64
  have q79 := zv79
  have n64 : z64 ≠ #[] := fun h => by have := congrArg Array.size h; cases this
  have n79 : z79 ≠ #[] := fun h => by have := congrArg Array.size h; cases this
  have z1 : z79[8]? = some (.pointer none) := rfl
  have z2 : z79[9]? = some (.int .i64 0) := rfl
  have z3 : z79[13]? = some (.pointer none) := rfl
  have z4 : z79[14]? = some (.bool false) := rfl
  have z5 : z79[33]? = some (.int .u8 0) := rfl
  have z6 : z64[24]? = some (.slice none 0 0) := rfl
  have z7 : z79.size = 82 := rfl
  have z8 : z64.size = 68 := rfl
  have z9 : z79[34]? = some (.int .u8 0) := rfl
  have z10 : z79[35]? = some (.int .u8 0) := rfl
  obtain ⟨marr, hms, hmk⟩ := make54 len hl
  have HIN : Hid _ := And.intro hin hsel
  clear hin hsel
  go_enter Ybad.func4, Ybad.ntmps4
  go_wp2_with (go_at_call 5; refine (new5 _ number w.heap.size _).mono ?_; rintro e w1 ⟨nb, rfl, hlt, hN, hb⟩; have HB : Hid _ := hb; have HN : Hid _ := hN; clear hb hN)
  refine code_chain4 w1 _ _ _ _ (fun V hBV hS k0 k1 k2 k3 => ?_)
  have HB0 : Hid (RelB V (w1.heap.size + 1 + 1 + 1) len w1.heap.size (w1.heap.size + 1) sel id wd 0 V) := (⟨by omega, KeptX.refl _ _ _, fun j hj => by omega, marr, k3, hms, fun j hj => by omega⟩ : RelB V (w1.heap.size + 1 + 1 + 1) len w1.heap.size (w1.heap.size + 1) sel id wd 0 V)
  have HV : Hid _ := And.intro hBV (And.intro k0 (And.intro k1 k2))
  clear hBV k0 k1 k2 k3 hmk hms
  go_loopw [50] (fun i wr => ∃ k : Nat, k ≤ len ∧ i = .int .i64 k ∧ RelB V (w1.heap.size + 1 + 1 + 1) len w1.heap.size (w1.heap.size + 1) sel id wd k wr) (fun i _ => len - (intOf i).toNat)
  case atStart => exact ⟨0, Nat.zero_le _, rfl, HB0.out⟩
  case round =>
    obtain ⟨k, hkn, rfl, hrel⟩ := hrel
    by_cases hklt : k < len
    · have hk' : (k : Int) < (len : Int) := by omega
      have hrs := hrel.size
      have HREL : Hid _ := hrel
      clear hrel HB0
      obtain ⟨ab, ao, rfl, hab, i0, i1, i2⟩ := HIN.out.1 k hklt
      have hw1 : w.heap.size < w1.heap.size := Nat.lt_of_lt_of_le (by simp) HB.out.size
      have hwr : ∀ i, i < w.heap.size → wr.heap[i]? = w.heap[i]? := fun i hi => ((HREL.out.kept.block i (by omega) (by omega)).trans (HV.out.1.block i (by omega))).trans ((HB.out.block i (by simp; omega)).trans (Below.heap_alloc _ _ _ hi))
      have j0 : wr.cell? ⟨ab, ao + k * 3, none⟩ = some (.int .u8 (sel k)) := (World.cell?_of_block (w := w) (hwr ab hab)).trans i0
      have j1 : wr.cell? ⟨ab, ao + k * 3 + 1, none⟩ = some (.bool (wd k)) := (World.cell?_of_block (w := w) (hwr ab hab)).trans i1
      have j2 : wr.cell? ⟨ab, ao + k * 3 + 2, none⟩ = some (.int .u8 (id k)) := (World.cell?_of_block (w := w) (hwr ab hab)).trans i2
      obtain ⟨arr, a1, a2, a3⟩ := HREL.out.row
      have hgc : ∃ u, wr.cell? ⟨w1.heap.size + 1 + 1 + 1, k, none⟩ = some u := ⟨arr[k], (cell_of_row _ _ _ _ 65 (0, 0) a1).trans (by simp [a2, hklt])⟩
      obtain ⟨u, hgc⟩ := hgc
      have hgf := frozen_row a1 k
      have habl : ab < wr.heap.size := by omega
      have hgbl : (w1.heap.size + 1 + 1 + 1) < wr.heap.size := by omega
      have habl2 : ab < (w1.heap.size + 1 + 1 + 1) + 1 + k := by omega
      have hgbl2 : (w1.heap.size + 1 + 1 + 1) < (w1.heap.size + 1 + 1 + 1) + 1 + k := by omega
      have HA : Hid _ := And.intro a1 (And.intro a2 a3)
      have hs3 := (HIN.out.2 k)
      clear a1 a2 a3 hwr i0 i1 i2
      go_wp2_with fail
      rename_i K hK
      have c2 : (wr.alloc (.cells z79 79)).drew.cell? ⟨ab, ao + k * 3 + 2, none⟩ = some (.int .u8 (id k)) := (World.cell?_of_block (w := wr) (Below.heap_alloc _ _ _ habl)).trans j2
      have hrow : (wr.alloc (.cells z79 79)).drew.heap[(w1.heap.size + 1 + 1 + 1) + 1 + k]? = some (.cells z79 79 (0, 0)) := heap_at wr _ _ hrs.symm
      refine wp_region_tail 9 (by kernel_rfl) [55, 56, 57, 58, 59, 60, 61, 62, 63] (PhiM ((w1.heap.size + 1 + 1 + 1) + 1 + k) ab ao len cap k (id k)) (fun _ b => b = (wr.alloc (.cells z79 79)).drew) 100 (fun _ => True) trivial (fun _ _ _ _ h => h) rfl (by decide) (by kernel_rfl) (by kernel_rfl) ?hend ⟨?_, ?_, ?_, ?_, ?_, ?_, ?_, ?_, ?_, trivial⟩
      case hend =>
        rintro a w3 hr rfl hall
        obtain ⟨v, hv5, rfl⟩ := hall 5 (by decide)
        obtain ⟨v, hv8, rfl⟩ := hall 8 (by decide)
        refine tail_one rfl (wp_skip _ (g_store5 rfl hv8 hv5 ((cell_of_row _ _ _ _ 79 (0, 0) hrow).trans rfl) (frozen_row hrow _)) ?_)
        refine wpList_nil ?_
        show K _ _
        refine hK _ _ ?_
        obtain ⟨us, e⟩ := frame4 hr
        rw [show (a.put none undef) = a from rfl, e, store_new wr z79 79 _ _ _ hrs.symm]
        clear hr hall e hv5 hv8 hrow c2
        go_wp2
        all_goals go_roundw
        all_goals first
          | (simp [intOf]; omega)
          | (have h0 : (sel k % 3 == 0) = true := by assumption
             exact ⟨k + 1, by omega, by go_num, RelB.step HREL.out hklt (ringC_0 (sa := w1.heap.size) (sb := w1.heap.size + 1) (r0 := w1.heap.size + 1 + 1 + 1 + 1) (id := id) (wd := wd) h0).symm⟩)
          | (have h0 : (sel k % 3 == 0) = false := by assumption
             have h1 : (sel k % 3 == 1) = true := by assumption
             exact ⟨k + 1, by omega, by go_num, RelB.step HREL.out hklt (ringC_1 (sa := w1.heap.size) (sb := w1.heap.size + 1) (r0 := w1.heap.size + 1 + 1 + 1 + 1) (id := id) (wd := wd) h0 h1).symm⟩)
          | (have h0 : (sel k % 3 == 0) = false := by assumption
             have h1 : (sel k % 3 == 1) = false := by assumption
             exact ⟨k + 1, by omega, by go_num, RelB.step HREL.out hklt (ringC_2 (sa := w1.heap.size) (sb := w1.heap.size + 1) (r0 := w1.heap.size + 1 + 1 + 1 + 1) (id := id) (wd := wd) h0 h1).symm⟩)
      · rintro a w3 hr rfl hj hd
        exact wp_val _ _ (g_move rfl (hr.other 16 rfl)) ⟨_, rfl, rfl, fun _ _ _ h => h, fun _ h => h, rfl⟩
      · rintro a w3 hr rfl hj hd
        exact wp_val _ _ (g_move rfl (hr.other 0 rfl)) ⟨_, rfl, rfl, fun _ _ _ h => h, fun _ h => h, rfl⟩
      · rintro a w3 hr rfl hj hd
        exact wp_val _ _ (g_move rfl (hr.other 15 rfl)) ⟨_, rfl, rfl, fun _ _ _ h => h, fun _ h => h, rfl⟩
      · rintro a w3 hr rfl hj hd
        obtain ⟨v, hv1, rfl⟩ := hd ⟨1, .data⟩ (by simp) rfl
        obtain ⟨v, hv2, rfl⟩ := hd ⟨2, .data⟩ (by simp) rfl
        exact wp_val _ _ (g_ixo rfl hv1 hv2 hklt) ⟨_, rfl, rfl, fun _ _ _ h => h, fun _ h => h, rfl⟩
      · rintro a w3 hr rfl hj hd
        obtain ⟨v, hv3, rfl⟩ := hd ⟨3, .data⟩ (by simp) rfl
        exact wp_val _ _ (g_fld 93 2 2 rfl hv3 (by decide)) ⟨_, rfl, rfl, fun _ _ _ h => h, fun _ h => h, rfl⟩
      · rintro a w3 hr rfl hj hd
        obtain ⟨v, hv4, rfl⟩ := hd ⟨4, .data⟩ (by simp) rfl
        exact wp_val _ _ (g_ld 5 rfl hv4 c2 (by decide)) ⟨_, rfl, rfl, fun _ _ _ h => h, fun _ h => h, rfl⟩
      · rintro a w3 hr rfl hj hd
        obtain ⟨v, hv0, rfl⟩ := hd ⟨0, .data⟩ (by simp) rfl
        exact wp_val _ _ (g_nil rfl hv0) ⟨_, rfl, rfl, fun _ _ _ h => h, fun _ h => h, rfl⟩
      · rintro a w3 hr rfl hj hd
        obtain ⟨v, hv6, rfl⟩ := hd ⟨6, .data⟩ (by simp) rfl
        exact wp_val _ _ (g_fld79 rfl hv6) ⟨_, rfl, rfl, fun _ _ _ h => h, fun _ h => h, rfl⟩
      · rintro a w3 hr rfl hj hd
        obtain ⟨v, hv7, rfl⟩ := hd ⟨7, .data⟩ (by simp) rfl
        exact wp_val _ _ (g_ixa rfl hv7) ⟨_, rfl, rfl, fun _ _ _ h => h, fun _ h => h, rfl⟩
    · obtain rfl : k = len := by omega
      have hkk : ¬ (k : Int) < (k : Int) := by omega
      have hrs := hrel.size
      have hw1 : w.heap.size < w1.heap.size := Nat.lt_of_lt_of_le (by simp) HB.out.size
      have k2 : wr.heap[w1.heap.size + 1 + 1]? = some (.cells (z64.setIfInBounds 0 (.string nid)) 64 (0, 0)) := (hrel.kept.block _ (by omega) (by omega)).trans HV.out.2.2.2
      have cf : wr.cell? ⟨w1.heap.size + 1 + 1, 24, none⟩ = some (.slice none 0 0) := (cell_of_row _ _ _ _ 64 (0, 0) k2).trans rfl
      have ff := frozen_row k2 24
      have hf1 : (w1.heap.size + 1 + 1) < wr.heap.size := by omega
      have hf2 : (w1.heap.size + 1 + 1) < (w1.heap.size + 1 + 1 + 1) + 1 + k := by omega
      have HREL : Hid _ := hrel
      have K2 : Hid _ := k2
      clear hrel HB0 k2
      go_wp2_with fail
      go_at_call 6
      refine calls_set2 wr _ _ _ _ _ _ 64 K2.out (fun W hS2 hKW w2 o1 o2 => ?_)
      rw [hrs] at hS2 o1 o2
      have hVw : ∀ i, i < w1.heap.size → W.heap[i]? = w1.heap[i]? := fun i hi => (hKW.block i (by omega) (by omega)).trans ((HREL.out.kept.block i (by omega) (by omega)).trans (HV.out.1.block i hi))
      have hW0 : ∀ i, i < w.heap.size → W.heap[i]? = w.heap[i]? := fun i hi => (hVw i (by omega)).trans ((HB.out.block i (by simp; omega)).trans (Below.heap_alloc _ _ _ hi))
      have hnb : nb < w1.heap.size := NodeAt.lt HN.out
      have hNW : NodeAt (2 + x % 8) number w.heap.size nb W := ⟨(World.cell?_of_block (w := w1) (hVw nb hnb)).trans HN.out.1, (World.cell?_of_block (w := w1) (hVw nb hnb)).trans HN.out.2.1, (World.cell?_of_block (w := w1) (hVw nb hnb)).trans HN.out.2.2⟩
      obtain ⟨arr, a1, a2, a3⟩ := HREL.out.row
      have hlt' : w.heap.size < nb := by have := hlt; simp at this; omega
      refine (call6_rings (2 + x % 8) number w.heap.size nb w1.heap.size (w1.heap.size + 1) (w1.heap.size + 1 + 1) (w1.heap.size + 1 + 1 + 1) k nid sel id wd _ _ arr W (by omega) (by omega) hS2 hNW hlt' hnb (by omega) (by omega) (by omega) ((hVw _ hw1).trans ((HB.out.block _ (by simp)).trans (heap_alloc_new w _)))
        ((hKW.block _ (by omega) (by omega)).trans ((HREL.out.kept.block _ (by omega) (by omega)).trans HV.out.2.1)) rfl ((hKW.block _ (by omega) (by omega)).trans ((HREL.out.kept.block _ (by omega) (by omega)).trans HV.out.2.2.1))
        ((cell_of_row _ _ _ _ 64 (0, 0) w2).trans rfl) ((cell_of_row _ _ _ _ 64 (0, 0) w2).trans rfl) ((hKW.block _ (by omega) (by omega)).trans a1) a3 (fun j hj => (hKW.block _ (by omega) (by omega)).trans (HREL.out.rings j hj)) ((cell_of_row _ _ _ _ 84 (0, 0) o2).trans rfl) ((cell_of_row _ _ _ _ 84 (0, 0) o2).trans rfl)).mono ?_
      rintro e w6 ⟨rfl, hA⟩
      obtain ⟨tv, mv, e1, _, ow1, ow2⟩ := hA.env
      obtain ⟨tp, tc, rfl⟩ := owns_len ow1
      obtain ⟨mp, mc, rfl⟩ := owns_len ow2
      have c0 : w6.cell? ⟨w.heap.size, 0, none⟩ = some (.slice tp (acts (actR sel wd) k).length tc) := (cell_of_row _ _ _ _ 26 (0, 0) e1).trans rfl
      have c1 : w6.cell? ⟨w.heap.size, 1, none⟩ = some (.slice mp (acts (actR sel wd) k).length mc) := (cell_of_row _ _ _ _ 26 (0, 0) e1).trans rfl
      have ctr : w6.cell? ⟨(w1.heap.size + 1 + 1 + 1) + 1 + k, 10, none⟩ = some (.bool false) := (cell_of_row _ _ _ _ 71 (0, 0) ((hA.kept.block _ (by omega) (by omega)).trans o1)).trans rfl
      have hwV : Below w.heap.size w V := (((Below.refl _ _).alloc (Nat.le_refl _) _).trans (HB.out.mono (by simp))).trans (HV.out.1.mono (by omega))
      have hlow : KeptX (fun _ => False) w.heap.size w w6 := (((KeptX.of hwV).trans (HREL.out.kept.lift (by omega) (fun x h => by omega))).trans (hKW.lift (by omega) (fun x h => by omega))).trans (hA.kept.lift (by omega) (fun x h => by omega))
      have HL : Hid _ := hlow
      clear hlow hwV
      have HA : Hid _ := hA
      have HO : Hid _ := And.intro ow1 ow2
      have HG : Hid _ := And.intro ((hKW.block _ (by omega) (by omega)).trans a1) (And.intro a2 a3)
      have HW : Hid _ := And.intro hW0 hS2
      clear hA ow1 ow2 a1 a2 a3 hW0 hS2 hNW hVw o1 o2 w2 hKW K2 cf ff e1
      go_wp2_with fail
      rename_i K hK
      refine wp_region_guard 17 (by kernel_rfl) [136, 137, 138, 139, 140, 141, 142, 143, 144, 145, 146, 147, 148, 149, 150, 151, 152] (PhiD w.heap.size ((w1.heap.size + 1 + 1 + 1) + 1 + k) (acts (actR sel wd) k).length tc mc tp mp) (fun _ b => b = w6.drew) 100 (fun _ => True) trivial (fun _ _ _ _ h => h) rfl (by decide) (by kernel_rfl) (by kernel_rfl) ?hgd ?hend ⟨?_, ?_, ?_, ?_, ?_, ?_, ?_, ?_, ?_, ?_, ?_, ?_, ?_, ?_, ?_, ?_, ?_, trivial⟩
      case hgd =>
        refine ⟨?_, ?_, ?_, ?_, ?_, ?_, ?_, ?_, ?_, ?_, ?_, ?_, ?_, ?_, ?_, ?_, ?_, trivial⟩ <;> intro g b h v w3 hp <;> first | (simp at h; done) | (simp only [Option.some.injEq, Prod.mk.injEq] at h; obtain ⟨rfl, rfl⟩ := h; exact hp)
      case hend =>
        intro a w3 hr hg hall
        subst hg
        obtain ⟨v, hv, rfl⟩ := hall 16 (by decide)
        replace hv : a.tmps[152]? = some (.bool false) := hv
        refine wpList_nil ?_
        show K _ _
        refine hK _ _ ?_
        obtain ⟨us, e⟩ := frame29 hr hv
        rw [e]
        clear hr hall e hv
        go_wp2_with fail
        go_loopw [19, 155] (fun c i wr => ∃ j : Nat, j ≤ k ∧ i = .int .i64 j ∧ c = .int .i64 (acts (actR sel wd) j).length ∧ KeptX (fun _ => False) w6.heap.size w6 wr) (fun _ i _ => k - (intOf i).toNat)
        case atStart => exact ⟨0, Nat.zero_le _, rfl, rfl, KeptX.drew _ _ w6⟩
        case round =>
          obtain ⟨j, hjk, rfl, rfl, hkp⟩ := hrel
          have hB6 : W.heap.size ≤ w6.heap.size := HA.out.kept.size
          have hSW := HW.out.2
          by_cases hjlt : j < k
          · have hk' : (j : Int) < (k : Int) := by omega
            obtain ⟨ab, ao, rfl, hab, i0, i1, i2⟩ := HIN.out.1 j hjlt
            have hs3 := HIN.out.2 j
            have hwr : ∀ i, i < w.heap.size → wr.heap[i]? = w.heap[i]? := fun i hi => (hkp.block i (by omega) (fun h => h)).trans (HL.out.block i hi (fun h => h))
            have j0 : wr.cell? ⟨ab, ao + j * 3, none⟩ = some (.int .u8 (sel j)) := (World.cell?_of_block (w := w) (hwr ab hab)).trans i0
            have j1 : wr.cell? ⟨ab, ao + j * 3 + 1, none⟩ = some (.bool (wd j)) := (World.cell?_of_block (w := w) (hwr ab hab)).trans i1
            have hg0 : wr.cell? ⟨w1.heap.size + 1 + 1 + 1, j, none⟩ = some (.pointer (some ⟨(w1.heap.size + 1 + 1 + 1) + 1 + j, 0, none⟩)) := (cell_of_row _ _ _ _ 65 (0, 0) ((hkp.block _ (by omega) (fun h => h)).trans ((HA.out.kept.block _ (by omega) (by omega)).trans HG.out.1))).trans (HG.out.2.2 j hjlt)
            have hR := (hkp.block _ (by omega) (fun h => h)).trans (HA.out.rings j hjlt)
            clear hwr i0 i1 i2
            cases h0 : (sel j % 3 == 0) with
            | false =>
              have hA : actR sel wd j = false := by simp [actR, h0]
              have hcn1 : cn (ringC w1.heap.size (w1.heap.size + 1) ((w1.heap.size + 1 + 1 + 1) + 1) sel id wd) (actR sel wd) k j = ringC w1.heap.size (w1.heap.size + 1) ((w1.heap.size + 1 + 1 + 1) + 1) sel id wd j := if_neg (fun h => by rw [hA] at h; cases h.2)
              rw [hcn1] at hR
              have ct : wr.cell? ⟨(w1.heap.size + 1 + 1 + 1) + 1 + j, 14, none⟩ = some (.bool (wd j)) := (cell_of_row _ _ _ _ 79 (0, 0) hR).trans (ringC_cells w1.heap.size (w1.heap.size + 1) ((w1.heap.size + 1 + 1 + 1) + 1) sel id wd j).2.1
              have hac : (acts (actR sel wd) (j + 1)).length = (acts (actR sel wd) j).length := by rw [acts_succ, hA]; simp
              skip
              clear hcn1 hR hA
              go_wp2_with fail
              go_quiet (fail)
              go_wp2
              all_goals go_roundw
              all_goals first
                | (simp [intOf]; omega)
                | exact ⟨j + 1, by omega, by go_num, by rw [hac], ⟨hkp.os, hkp.output, hkp.size, hkp.block⟩⟩
            | true =>
              cases hwd : wd j with
              | true =>
                have hA : actR sel wd j = false := by simp [actR, h0, hwd]
                have hcn1 : cn (ringC w1.heap.size (w1.heap.size + 1) ((w1.heap.size + 1 + 1 + 1) + 1) sel id wd) (actR sel wd) k j = ringC w1.heap.size (w1.heap.size + 1) ((w1.heap.size + 1 + 1 + 1) + 1) sel id wd j := if_neg (fun h => by rw [hA] at h; cases h.2)
                rw [hcn1] at hR
                have ct : wr.cell? ⟨(w1.heap.size + 1 + 1 + 1) + 1 + j, 14, none⟩ = some (.bool (wd j)) := (cell_of_row _ _ _ _ 79 (0, 0) hR).trans (ringC_cells w1.heap.size (w1.heap.size + 1) ((w1.heap.size + 1 + 1 + 1) + 1) sel id wd j).2.1
                have hac : (acts (actR sel wd) (j + 1)).length = (acts (actR sel wd) j).length := by rw [acts_succ, hA]; simp
                rw [hwd] at ct j1
                clear hcn1 hR hA
                go_wp2_with fail
                go_quiet (fail)
                go_wp2
                all_goals go_roundw
                all_goals first
                  | (simp [intOf]; omega)
                  | exact ⟨j + 1, by omega, by go_num, by rw [hac], ⟨hkp.os, hkp.output, hkp.size, hkp.block⟩⟩
              | false =>
                rw [hwd] at j1
                have hA : actR sel wd j = true := by simp [actR, h0, hwd]
                have hcn2 := acts_lt (actR sel wd) hA hjlt
                have hcn : ((acts (actR sel wd) j).length : Int) < ((acts (actR sel wd) k).length : Int) := by omega
                have hcl := acts_le (actR sel wd) j
                have hac : (acts (actR sel wd) (j + 1)).length = (acts (actR sel wd) j).length + 1 := by rw [acts_succ, hA]; simp
                obtain ⟨ow1, ow2⟩ := HO.out
                obtain ⟨tg, rfl⟩ := owns_some ow1 (by omega)
                obtain ⟨mg, rfl⟩ := owns_some ow2 (by omega)
                have hel6 : w.heap.size < w6.heap.size := World.block_lt_of_cell? w6 _ c0
                replace c0 : wr.cell? ⟨w.heap.size, 0, none⟩ = _ := (hkp.cell (p := ⟨w.heap.size, 0, none⟩) hel6 (fun h => h)).trans c0
                replace c1 : wr.cell? ⟨w.heap.size, 1, none⟩ = _ := (hkp.cell (p := ⟨w.heap.size, 1, none⟩) hel6 (fun h => h)).trans c1
                have hel : w.heap.size < wr.heap.size := by have := hkp.size; omega
                have ct6 : w6.cell? ⟨tg, (acts (actR sel wd) j).length * 1, none⟩ = some (.string nid) := (congrArg (fun i => w6.cell? ⟨tg, i, none⟩) (show (acts (actR sel wd) j).length * 1 = 0 + (acts (actR sel wd) j).length by omega)).trans (owns_range ow1 _ _ (tos_at (actR sel wd) hA hjlt))
                have htl6 := World.block_lt_of_cell? w6 _ ct6
                simp only at htl6
                have ct0 : wr.cell? ⟨tg, (acts (actR sel wd) j).length * 1, none⟩ = some (.string nid) := (hkp.cell (p := ⟨tg, (acts (actR sel wd) j).length * 1, none⟩) htl6 (fun h => h)).trans ct6
                have htl : tg < wr.heap.size := by have := hkp.size; omega
                have hm0 : wr.rangeAt mg ((acts (actR sel wd) j).length * 39) (msg number ⟨#[97]⟩ (by16 (idr id j))).toList := fun i v hv => by
                  have h1 := owns_range ow2 _ _ (msgs_at (actR sel wd) hA hjlt i v hv)
                  rw [Nat.zero_add] at h1
                  exact (hkp.cell (p := ⟨mg, (acts (actR sel wd) j).length * 39 + i, none⟩) (World.block_lt_of_cell? w6 _ h1) (fun h => h)).trans h1
                have hcn1 : cn (ringC w1.heap.size (w1.heap.size + 1) ((w1.heap.size + 1 + 1 + 1) + 1) sel id wd) (actR sel wd) k j = (ringC w1.heap.size (w1.heap.size + 1) ((w1.heap.size + 1 + 1 + 1) + 1) sel id wd j).setIfInBounds 14 (.bool true) := if_pos ⟨hjlt, hA⟩
                rw [hcn1] at hR
                have hrc := ringC_cells w1.heap.size (w1.heap.size + 1) ((w1.heap.size + 1 + 1 + 1) + 1) sel id wd j
                have ct : wr.cell? ⟨(w1.heap.size + 1 + 1 + 1) + 1 + j, 14, none⟩ = some (.bool true) := (cell_of_row _ _ _ _ 79 (0, 0) hR).trans (by
                  have h14 : 14 < (ringC w1.heap.size (w1.heap.size + 1) ((w1.heap.size + 1 + 1 + 1) + 1) sel id wd j).size := (Array.getElem?_eq_some_iff.1 hrc.2.1).1
                  simp [h14])
                have hi0 : wr.rangeAt ((w1.heap.size + 1 + 1 + 1) + 1 + j) (0 + 33) (ids16 (by16 (idr id j))) := fun i v hv => by
                  refine (cell_of_row _ _ _ _ 79 (0, 0) hR).trans ?_
                  rw [Array.getElem?_setIfInBounds_ne (by omega), Nat.zero_add]
                  exact hrc.2.2.2 i v hv
                have hrl : (w1.heap.size + 1 + 1 + 1) + 1 + j < wr.heap.size := World.block_lt_of_cell? wr _ ct
                have hok := msgok7 number ⟨#[97]⟩ (idr id j)
                clear ct6 hcn1 hrc hA ow1 ow2 hR
                go_wp2_with fail
                rename_i K hK
                refine wp_region_guard 42 (by kernel_rfl) [178, 179, 180, 181, 182, 183, 184, 185, 186, 187, 188, 189, 190, 191, 192, 193, 194, 195, 196, 197, 198, 199, 200, 201, 202, 203, 204, 205, 206, 207, 208, 209, 210, 211, 212, 213, 214, 215, 216, 217, 218, 219] (PhiE w.heap.size ((w1.heap.size + 1 + 1 + 1) + 1 + j) tg mg (acts (actR sel wd) k).length tc mc (acts (actR sel wd) j).length number nid (by16 (idr id j))) (fun a b => Below a.heap.size a b) 100 (fun _ => True) trivial (fun _ _ _ h k => h.trans (k.mono h.size)) ((Below.refl _ _).drew) (by decide) (by kernel_rfl) (by kernel_rfl) ?hgd ?hend ⟨?_, ?_, ?_, ?_, ?_, ?_, ?_, ?_, ?_, ?_, ?_, ?_, ?_, ?_, ?_, ?_, ?_, ?_, ?_, ?_, ?_, ?_, ?_, ?_, ?_, ?_, ?_, ?_, ?_, ?_, ?_, ?_, ?_, ?_, ?_, ?_, ?_, ?_, ?_, ?_, ?_, ?_, trivial⟩
                case hgd =>
                  refine ⟨?_, ?_, ?_, ?_, ?_, ?_, ?_, ?_, ?_, ?_, ?_, ?_, ?_, ?_, ?_, ?_, ?_, ?_, ?_, ?_, ?_, ?_, ?_, ?_, ?_, ?_, ?_, ?_, ?_, ?_, ?_, ?_, ?_, ?_, ?_, ?_, ?_, ?_, ?_, ?_, ?_, ?_, trivial⟩ <;> intro g b h v w3 hp <;> first | (simp at h; done) | (simp only [Option.some.injEq, Prod.mk.injEq] at h; obtain ⟨rfl, rfl⟩ := h; exact hp)
                case hend =>
                  intro a w3 hr hg hall
                  obtain ⟨v, hv, rfl⟩ := hall 41 (by decide)
                  replace hv : a.tmps[219]? = some (.bool false) := hv
                  refine wpList_nil ?_
                  show K _ _
                  refine hK _ _ ?_
                  obtain ⟨us, e⟩ := frame38 hr hv
                  rw [e]
                  have hF := hkp.trans (KeptX.of (X := fun _ => False) (hg.mono hkp.size))
                  clear hr hall e hv hg
                  go_wp2
                  all_goals go_roundw
                  all_goals first
                    | (simp [intOf]; omega)
                    | exact ⟨j + 1, by omega, by go_num, by rw [hac]; go_num, hF⟩
                · intro a w9 hr hg hj hd
                  exact wp_val _ _ (g_move rfl (hr.other 19 rfl)) ⟨_, rfl, rfl, fun _ _ _ h => h, fun _ h => h, Below.refl _ _⟩
                · intro a w9 hr hg hj hd
                  exact wp_val _ _ (g_move rfl (hr.other 9 rfl)) ⟨_, rfl, rfl, fun _ _ _ h => h, fun _ h => h, Below.refl _ _⟩
                · intro a w9 hr hg hj hd
                  obtain ⟨v, hv1, rfl⟩ := hd ⟨1, .data⟩ (by simp) rfl
                  exact wp_val _ _ (g_nil rfl hv1) ⟨_, rfl, rfl, fun _ _ _ h => h, fun _ h => h, Below.refl _ _⟩
                · intro a w9 hr hg hj hd
                  obtain ⟨v, hv2, rfl⟩ := hd ⟨2, .data⟩ (by simp) rfl
                  exact wp_val _ _ (g_fld 26 1 1 rfl hv2 (by decide)) ⟨_, rfl, rfl, fun _ _ _ h => h, fun _ h => h, Below.refl _ _⟩
                · intro a w9 hr hg hj hd
                  obtain ⟨v, hv3, rfl⟩ := hd ⟨3, .data⟩ (by simp) rfl
                  exact wp_val _ _ (g_ld 24 rfl hv3 ((hg.cell (p := ⟨w.heap.size, 1, none⟩) hel).trans c1) (by decide)) ⟨_, rfl, rfl, fun _ _ _ h => h, fun _ h => h, Below.refl _ _⟩
                · intro a w9 hr hg hj hd
                  obtain ⟨v, hv4, rfl⟩ := hd ⟨4, .data⟩ (by simp) rfl
                  exact wp_val _ _ (g_lenO 24 rfl hv4 (by decide)) ⟨_, rfl, rfl, fun _ _ _ h => h, fun _ h => h, Below.refl _ _⟩
                · intro a w9 hr hg hj hd
                  obtain ⟨v, hv0, rfl⟩ := hd ⟨0, .data⟩ (by simp) rfl
                  obtain ⟨v, hv5, rfl⟩ := hd ⟨5, .data⟩ (by simp) rfl
                  exact wp_val _ _ (g_geI rfl hv0 hv5 hcn) ⟨_, rfl, rfl, fun _ _ _ h => h, fun _ h => h, Below.refl _ _⟩
                · intro a w9 hr hg hj hd
                  obtain ⟨v, hv6, rfl⟩ := hd ⟨6, .data⟩ (by simp) rfl
                  exact wp_val _ _ (g_move rfl hv6) ⟨_, rfl, rfl, fun _ _ _ h => h, fun _ h => h, Below.refl _ _⟩
                · intro a w9 hr hg hj hd
                  exact wp_val _ _ (g_move rfl (hr.other 9 rfl)) ⟨_, rfl, rfl, fun _ _ _ h => h, fun _ h => h, Below.refl _ _⟩
                · intro a w9 hr hg hj hd
                  obtain ⟨v, hv8, rfl⟩ := hd ⟨8, .data⟩ (by simp) rfl
                  exact wp_val _ _ (g_nil rfl hv8) ⟨_, rfl, rfl, fun _ _ _ h => h, fun _ h => h, Below.refl _ _⟩
                · intro a w9 hr hg hj hd
                  obtain ⟨v, hv9, rfl⟩ := hd ⟨9, .data⟩ (by simp) rfl
                  exact wp_val _ _ (g_fld 26 0 0 rfl hv9 (by decide)) ⟨_, rfl, rfl, fun _ _ _ h => h, fun _ h => h, Below.refl _ _⟩
                · intro a w9 hr hg hj hd
                  obtain ⟨v, hv10, rfl⟩ := hd ⟨10, .data⟩ (by simp) rfl
                  exact wp_val _ _ (g_ld 23 rfl hv10 ((hg.cell (p := ⟨w.heap.size, 0, none⟩) hel).trans c0) (by decide)) ⟨_, rfl, rfl, fun _ _ _ h => h, fun _ h => h, Below.refl _ _⟩
                · intro a w9 hr hg hj hd
                  exact wp_val _ _ (g_move rfl (hr.other 19 rfl)) ⟨_, rfl, rfl, fun _ _ _ h => h, fun _ h => h, Below.refl _ _⟩
                · intro a w9 hr hg hj hd
                  obtain ⟨v, hv11, rfl⟩ := hd ⟨11, .data⟩ (by simp) rfl
                  obtain ⟨v, hv12, rfl⟩ := hd ⟨12, .data⟩ (by simp) rfl
                  exact wp_val _ _ (g_ix 23 1 rfl hv11 hv12 hcn2 (by decide)) ⟨_, rfl, rfl, fun _ _ _ h => h, fun _ h => h, Below.refl _ _⟩
                · intro a w9 hr hg hj hd
                  obtain ⟨v, hv13, rfl⟩ := hd ⟨13, .data⟩ (by simp) rfl
                  exact wp_val _ _ (g_ld 9 rfl hv13 ((hg.cell (p := ⟨tg, (acts (actR sel wd) j).length * 1, none⟩) htl).trans ct0) (by decide)) ⟨_, rfl, rfl, fun _ _ _ h => h, fun _ h => h, Below.refl _ _⟩
                · intro a w9 hr hg hj hd
                  exact wp_val _ _ (g_move rfl (hr.other 3 rfl)) ⟨_, rfl, rfl, fun _ _ _ h => h, fun _ h => h, Below.refl _ _⟩
                · intro a w9 hr hg hj hd
                  obtain ⟨v, hv14, rfl⟩ := hd ⟨14, .data⟩ (by simp) rfl
                  obtain ⟨v, hv15, rfl⟩ := hd ⟨15, .data⟩ (by simp) rfl
                  exact wp_val _ _ (g_neS rfl hv14 hv15) ⟨_, rfl, rfl, fun _ _ _ h => h, fun _ h => h, Below.refl _ _⟩
                · intro a w9 hr hg hj hd
                  obtain ⟨v, hv7, rfl⟩ := hd ⟨7, .data⟩ (by simp) rfl
                  obtain ⟨v, hv16, rfl⟩ := hd ⟨16, .data⟩ (by simp) rfl
                  exact wp_val _ _ (g_or rfl hv7 hv16) ⟨_, rfl, rfl, fun _ _ _ h => h, fun _ h => h, Below.refl _ _⟩
                · intro a w9 hr hg hj hd
                  obtain ⟨v, hv17, rfl⟩ := hd ⟨17, .data⟩ (by simp) rfl
                  exact wp_val _ _ (g_move rfl hv17) ⟨_, rfl, rfl, fun _ _ _ h => h, fun _ h => h, Below.refl _ _⟩
                · intro a w9 hr hg hj hd
                  exact wp_val _ _ (g_move rfl (hr.other 9 rfl)) ⟨_, rfl, rfl, fun _ _ _ h => h, fun _ h => h, Below.refl _ _⟩
                · intro a w9 hr hg hj hd
                  obtain ⟨v, hv19, rfl⟩ := hd ⟨19, .data⟩ (by simp) rfl
                  exact wp_val _ _ (g_nil rfl hv19) ⟨_, rfl, rfl, fun _ _ _ h => h, fun _ h => h, Below.refl _ _⟩
                · intro a w9 hr hg hj hd
                  obtain ⟨v, hv20, rfl⟩ := hd ⟨20, .data⟩ (by simp) rfl
                  exact wp_val _ _ (g_fld 26 1 1 rfl hv20 (by decide)) ⟨_, rfl, rfl, fun _ _ _ h => h, fun _ h => h, Below.refl _ _⟩
                · intro a w9 hr hg hj hd
                  obtain ⟨v, hv21, rfl⟩ := hd ⟨21, .data⟩ (by simp) rfl
                  exact wp_val _ _ (g_ld 24 rfl hv21 ((hg.cell (p := ⟨w.heap.size, 1, none⟩) hel).trans c1) (by decide)) ⟨_, rfl, rfl, fun _ _ _ h => h, fun _ h => h, Below.refl _ _⟩
                · intro a w9 hr hg hj hd
                  exact wp_val _ _ (g_move rfl (hr.other 19 rfl)) ⟨_, rfl, rfl, fun _ _ _ h => h, fun _ h => h, Below.refl _ _⟩
                · intro a w9 hr hg hj hd
                  obtain ⟨v, hv22, rfl⟩ := hd ⟨22, .data⟩ (by simp) rfl
                  obtain ⟨v, hv23, rfl⟩ := hd ⟨23, .data⟩ (by simp) rfl
                  exact wp_val _ _ (g_ix 24 39 rfl hv22 hv23 hcn2 (by decide)) ⟨_, rfl, rfl, fun _ _ _ h => h, fun _ h => h, Below.refl _ _⟩
                · intro a w9 hr hg hj hd
                  obtain ⟨v, hv24, rfl⟩ := hd ⟨24, .data⟩ (by simp) rfl
                  refine wp_load_mid 89 _ rfl mg ((acts (actR sel wd) j).length * 39) (ev hv24) (msg number ⟨#[97]⟩ (by16 (idr id j))).toList _ (rangeAt_below hm0 hg) Ybad.underlying89 rfl size89 ⟨_, rfl, ?_, fun _ _ _ h => h, fun _ h => h, Below.refl _ _⟩
                  exact congrArg Value.agg (Array.toArray_toList ..)
                · intro a w9 hr hg hj hd
                  exact wp_val _ _ (g_move rfl (hr.other 2 rfl)) ⟨_, rfl, rfl, fun _ _ _ h => h, fun _ h => h, Below.refl _ _⟩
                · intro a w9 hr hg hj hd
                  exact wp_val _ _ (g_move rfl (hr.other 21 rfl)) ⟨_, rfl, rfl, fun _ _ _ h => h, fun _ h => h, Below.refl _ _⟩
                · intro a w9 hr hg hj hd
                  obtain ⟨v, hv27, rfl⟩ := hd ⟨27, .data⟩ (by simp) rfl
                  exact wp_val _ _ (g_nil rfl hv27) ⟨_, rfl, rfl, fun _ _ _ h => h, fun _ h => h, Below.refl _ _⟩
                · intro a w9 hr hg hj hd
                  obtain ⟨v, hv28, rfl⟩ := hd ⟨28, .data⟩ (by simp) rfl
                  exact wp_val _ _ (g_fld79 rfl hv28) ⟨_, rfl, rfl, fun _ _ _ h => h, fun _ h => h, Below.refl _ _⟩
                · intro a w9 hr hg hj hd
                  obtain ⟨v, hv29, rfl⟩ := hd ⟨29, .data⟩ (by simp) rfl
                  exact wp_load_mid 72 _ rfl ((w1.heap.size + 1 + 1 + 1) + 1 + j) (0 + 33) (ev hv29) (ids16 (by16 (idr id j))) _ (rangeAt_below hi0 hg) Ybad.underlying72 rfl info72 ⟨_, rfl, rfl, fun _ _ _ h => h, fun _ h => h, Below.refl _ _⟩
                · intro a w9 hr hg hj hd
                  obtain ⟨v, hv25, rfl⟩ := hd ⟨25, .data⟩ (by simp) rfl
                  obtain ⟨v, hv26, rfl⟩ := hd ⟨26, .data⟩ (by simp) rfl
                  obtain ⟨v, hv30, rfl⟩ := hd ⟨30, .data⟩ (by simp) rfl
                  refine wp_ent 7 _ (g_call7c rfl hv25 hv26 hv30) ((hok w9).mono ?_)
                  rintro e w4 ⟨rfl, hb4⟩
                  exact ⟨_, rfl, _, rfl, rfl, fun _ _ _ h => h, fun _ h => h, hb4⟩
                · intro a w9 hr hg hj hd
                  obtain ⟨v, hv31, rfl⟩ := hd ⟨31, .data⟩ (by simp) rfl
                  exact wp_val _ _ (g_not rfl hv31) ⟨_, rfl, rfl, fun _ _ _ h => h, fun _ h => h, Below.refl _ _⟩
                · intro a w9 hr hg hj hd
                  obtain ⟨v, hv18, rfl⟩ := hd ⟨18, .data⟩ (by simp) rfl
                  obtain ⟨v, hv32, rfl⟩ := hd ⟨32, .data⟩ (by simp) rfl
                  exact wp_val _ _ (g_or rfl hv18 hv32) ⟨_, rfl, rfl, fun _ _ _ h => h, fun _ h => h, Below.refl _ _⟩
                · intro a w9 hr hg hj hd
                  obtain ⟨v, hv33, rfl⟩ := hd ⟨33, .data⟩ (by simp) rfl
                  exact wp_val _ _ (g_move rfl hv33) ⟨_, rfl, rfl, fun _ _ _ h => h, fun _ h => h, Below.refl _ _⟩
                · intro a w9 hr hg hj hd
                  exact wp_val _ _ (g_move rfl (hr.other 21 rfl)) ⟨_, rfl, rfl, fun _ _ _ h => h, fun _ h => h, Below.refl _ _⟩
                · intro a w9 hr hg hj hd
                  obtain ⟨v, hv35, rfl⟩ := hd ⟨35, .data⟩ (by simp) rfl
                  exact wp_val _ _ (g_nil rfl hv35) ⟨_, rfl, rfl, fun _ _ _ h => h, fun _ h => h, Below.refl _ _⟩
                · intro a w9 hr hg hj hd
                  obtain ⟨v, hv36, rfl⟩ := hd ⟨36, .data⟩ (by simp) rfl
                  exact wp_val _ _ (g_fld 79 4 4 rfl hv36 (by decide)) ⟨_, rfl, rfl, fun _ _ _ h => h, fun _ h => h, Below.refl _ _⟩
                · intro a w9 hr hg hj hd
                  obtain ⟨v, hv37, rfl⟩ := hd ⟨37, .data⟩ (by simp) rfl
                  exact wp_val _ _ (g_fld 71 8 10 rfl hv37 (by decide)) ⟨_, rfl, rfl, fun _ _ _ h => h, fun _ h => h, Below.refl _ _⟩
                · intro a w9 hr hg hj hd
                  obtain ⟨v, hv38, rfl⟩ := hd ⟨38, .data⟩ (by simp) rfl
                  exact wp_val _ _ (g_ld 4 rfl hv38 ((hg.cell (p := ⟨(w1.heap.size + 1 + 1 + 1) + 1 + j, 14, none⟩) hrl).trans ct) (by decide)) ⟨_, rfl, rfl, fun _ _ _ h => h, fun _ h => h, Below.refl _ _⟩
                · intro a w9 hr hg hj hd
                  obtain ⟨v, hv39, rfl⟩ := hd ⟨39, .data⟩ (by simp) rfl
                  exact wp_val _ _ (g_not rfl hv39) ⟨_, rfl, rfl, fun _ _ _ h => h, fun _ h => h, Below.refl _ _⟩
                · intro a w9 hr hg hj hd
                  obtain ⟨v, hv34, rfl⟩ := hd ⟨34, .data⟩ (by simp) rfl
                  obtain ⟨v, hv40, rfl⟩ := hd ⟨40, .data⟩ (by simp) rfl
                  exact wp_val _ _ (g_or rfl hv34 hv40) ⟨_, rfl, rfl, fun _ _ _ h => h, fun _ h => h, Below.refl _ _⟩
          · obtain rfl : j = k := by omega
            have hkk : ¬ (j : Int) < (j : Int) := by omega
            have hel6 : w.heap.size < w6.heap.size := World.block_lt_of_cell? w6 _ c0
            have d1 := (hkp.cell (p := ⟨w.heap.size, 1, none⟩) hel6 (fun h => h)).trans c1
            go_wp2
            go_ret
            exact ⟨rfl, HL.out.trans (hkp.lift (by omega) (fun _ h => h.elim))⟩
      · intro a w9 hr hg hj hd
        subst hg
        exact wp_val _ _ (g_move rfl (hr.other 17 rfl)) ⟨_, rfl, rfl, fun _ _ _ h => h, fun _ h => h, rfl⟩
      · intro a w9 hr hg hj hd
        subst hg
        obtain ⟨v, hv0, rfl⟩ := hd ⟨0, .data⟩ (by simp) rfl
        exact wp_val _ _ (g_nil rfl hv0) ⟨_, rfl, rfl, fun _ _ _ h => h, fun _ h => h, rfl⟩
      · intro a w9 hr hg hj hd
        subst hg
        obtain ⟨v, hv1, rfl⟩ := hd ⟨1, .data⟩ (by simp) rfl
        exact wp_val _ _ (g_fld 71 8 10 rfl hv1 (by decide)) ⟨_, rfl, rfl, fun _ _ _ h => h, fun _ h => h, rfl⟩
      · intro a w9 hr hg hj hd
        subst hg
        obtain ⟨v, hv2, rfl⟩ := hd ⟨2, .data⟩ (by simp) rfl
        exact wp_val _ _ (g_ld 4 rfl hv2 (ctr) (by decide)) ⟨_, rfl, rfl, fun _ _ _ h => h, fun _ h => h, rfl⟩
      · intro a w9 hr hg hj hd
        subst hg
        obtain ⟨v, hv3, rfl⟩ := hd ⟨3, .data⟩ (by simp) rfl
        exact wp_val _ _ (g_move rfl hv3) ⟨_, rfl, rfl, fun _ _ _ h => h, fun _ h => h, rfl⟩
      · intro a w9 hr hg hj hd
        subst hg
        exact wp_val _ _ (g_move rfl (hr.other 9 rfl)) ⟨_, rfl, rfl, fun _ _ _ h => h, fun _ h => h, rfl⟩
      · intro a w9 hr hg hj hd
        subst hg
        obtain ⟨v, hv5, rfl⟩ := hd ⟨5, .data⟩ (by simp) rfl
        exact wp_val _ _ (g_nil rfl hv5) ⟨_, rfl, rfl, fun _ _ _ h => h, fun _ h => h, rfl⟩
      · intro a w9 hr hg hj hd
        subst hg
        obtain ⟨v, hv6, rfl⟩ := hd ⟨6, .data⟩ (by simp) rfl
        exact wp_val _ _ (g_fld 26 0 0 rfl hv6 (by decide)) ⟨_, rfl, rfl, fun _ _ _ h => h, fun _ h => h, rfl⟩
      · intro a w9 hr hg hj hd
        subst hg
        obtain ⟨v, hv7, rfl⟩ := hd ⟨7, .data⟩ (by simp) rfl
        exact wp_val _ _ (g_ld 23 rfl hv7 (c0) (by decide)) ⟨_, rfl, rfl, fun _ _ _ h => h, fun _ h => h, rfl⟩
      · intro a w9 hr hg hj hd
        subst hg
        obtain ⟨v, hv8, rfl⟩ := hd ⟨8, .data⟩ (by simp) rfl
        exact wp_val _ _ (g_lenO 23 rfl hv8 (by decide)) ⟨_, rfl, rfl, fun _ _ _ h => h, fun _ h => h, rfl⟩
      · intro a w9 hr hg hj hd
        subst hg
        exact wp_val _ _ (g_move rfl (hr.other 9 rfl)) ⟨_, rfl, rfl, fun _ _ _ h => h, fun _ h => h, rfl⟩
      · intro a w9 hr hg hj hd
        subst hg
        obtain ⟨v, hv10, rfl⟩ := hd ⟨10, .data⟩ (by simp) rfl
        exact wp_val _ _ (g_nil rfl hv10) ⟨_, rfl, rfl, fun _ _ _ h => h, fun _ h => h, rfl⟩
      · intro a w9 hr hg hj hd
        subst hg
        obtain ⟨v, hv11, rfl⟩ := hd ⟨11, .data⟩ (by simp) rfl
        exact wp_val _ _ (g_fld 26 1 1 rfl hv11 (by decide)) ⟨_, rfl, rfl, fun _ _ _ h => h, fun _ h => h, rfl⟩
      · intro a w9 hr hg hj hd
        subst hg
        obtain ⟨v, hv12, rfl⟩ := hd ⟨12, .data⟩ (by simp) rfl
        exact wp_val _ _ (g_ld 24 rfl hv12 (c1) (by decide)) ⟨_, rfl, rfl, fun _ _ _ h => h, fun _ h => h, rfl⟩
      · intro a w9 hr hg hj hd
        subst hg
        obtain ⟨v, hv13, rfl⟩ := hd ⟨13, .data⟩ (by simp) rfl
        exact wp_val _ _ (g_lenO 24 rfl hv13 (by decide)) ⟨_, rfl, rfl, fun _ _ _ h => h, fun _ h => h, rfl⟩
      · intro a w9 hr hg hj hd
        subst hg
        obtain ⟨v, hv9, rfl⟩ := hd ⟨9, .data⟩ (by simp) rfl
        obtain ⟨v, hv14, rfl⟩ := hd ⟨14, .data⟩ (by simp) rfl
        exact wp_val _ _ (g_neI rfl hv9 hv14) ⟨_, rfl, rfl, fun _ _ _ h => h, fun _ h => h, rfl⟩
      · intro a w9 hr hg hj hd
        subst hg
        obtain ⟨v, hv4, rfl⟩ := hd ⟨4, .data⟩ (by simp) rfl
        obtain ⟨v, hv15, rfl⟩ := hd ⟨15, .data⟩ (by simp) rfl
        exact wp_val _ _ (g_or rfl hv4 hv15) ⟨_, rfl, rfl, fun _ _ _ h => h, fun _ h => h, rfl⟩
end Go.Proofs.YbulkbkkwDoor
