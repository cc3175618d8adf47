/-
  LawS3064BPairwise (function 3): asked, and not withdrawn before; no ring.
-/
import Derived.Test.YbulkbkkwDoorPairA
namespace Go.Proofs.YbulkbkkwDoor
open Go.RowKit
set_option linter.unusedVariables false

theorem owns_range {w : World} {B e size n g cap : Nat} {xs : List Value} (h : w.ownsRow B e size (.slice (some ⟨g, 0, none⟩) n cap) n xs) : w.rangeAt g 0 xs := by
  intro j v hv
  rcases h.2 with ⟨h0, _⟩ | ⟨g', cap', cur, he, _, hb, _, _, _, ht⟩
  · cases h0
  · cases he
    rw [cell_of_row _ _ _ _ e (0, 0) hb, Nat.zero_add]
    rw [← ht] at hv
    rw [List.getElem?_take] at hv
    split at hv
    · simpa using hv
    · cases hv
theorem ids_range {w : World} {b : Nat} {arr : Array Value} {f : Nat → Value} (h : w.heap[b]? = some (.cells arr 72 (0, 0))) (he : arr.toList = ids16 f) : w.rangeAt b 0 (ids16 f) := by
  intro j v hv
  rw [cell_of_row _ _ _ _ 72 (0, 0) h, Nat.zero_add]
  rw [← he] at hv
  simpa using hv
def idf (x : Int) : Nat → Int := fun i => if i = 0 then x else if i = 15 then bits .xor .u8 x 255 else 0

def PhiC (eb tb tg mg tc mc : Nat) (number : Int) (nid sw : ByteArray) (f : Nat → Value) (j : Nat) (v : Value) (_ : World) : Prop :=
  match j with
  | 0 => v = .pointer (some ⟨eb, 0, none⟩)
  | 1 => v = .pointer (some ⟨eb, 0, none⟩)
  | 2 => v = .pointer (some ⟨eb, 0 + 1, none⟩)
  | 3 => v = .slice (some ⟨mg, 0, none⟩) 1 mc
  | 4 => v = .int .i64 ((1 : Nat) : Int)
  | 5 => v = .bool true
  | 6 => v = .bool true
  | 7 => v = .pointer (some ⟨eb, 0, none⟩)
  | 8 => v = .pointer (some ⟨eb, 0, none⟩)
  | 9 => v = .pointer (some ⟨eb, 0 + 0, none⟩)
  | 10 => v = .slice (some ⟨tg, 0, none⟩) 1 tc
  | 11 => v = .int .i64 ((1 : Nat) : Int)
  | 12 => v = .bool true
  | 13 => v = .bool true
  | 14 => v = .bool true
  | 15 => v = .pointer (some ⟨eb, 0, none⟩)
  | 16 => v = .pointer (some ⟨eb, 0, none⟩)
  | 17 => v = .pointer (some ⟨eb, 0 + 0, none⟩)
  | 18 => v = .slice (some ⟨tg, 0, none⟩) 1 tc
  | 19 => v = .pointer (some ⟨tg, 0, none⟩)
  | 20 => v = .string nid
  | 21 => v = .string nid
  | 22 => v = .bool true
  | 23 => v = .bool true
  | 24 => v = .bool true
  | 25 => v = .pointer (some ⟨eb, 0, none⟩)
  | 26 => v = .pointer (some ⟨eb, 0, none⟩)
  | 27 => v = .pointer (some ⟨eb, 0 + 1, none⟩)
  | 28 => v = .slice (some ⟨mg, 0, none⟩) 1 mc
  | 29 => v = .pointer (some ⟨mg, 0, none⟩)
  | 30 => v = .agg (msg number sw f)
  | 31 => v = .int .i32 number
  | 32 => v = .string sw
  | 33 => v = .agg (ids16 f).toArray
  | 34 => v = .bool true
  | 35 => v = .bool true
  | 36 => v = .bool true
  | 37 => v = .pointer (some ⟨tb, 0, none⟩)
  | 38 => v = .pointer (some ⟨tb, 0, none⟩)
  | 39 => v = .pointer (some ⟨tb, 0 + 10, none⟩)
  | 40 => v = .bool true
  | 41 => v = .bool true
  | 42 => v = .bool true
  | _ => True

set_option maxHeartbeats 4000000 in
set_option maxRecDepth 100000 in
theorem pair_e (nid sw : ByteArray) (number : Int) (x : Int) (w : World) (h0 : w.rangeAt 0 0 (ids16 (by16 fun _ => 0))) :
    Calls Ybad.prog 3 #[.string nid, .string sw, .int .i32 number, .bool true, .bool false, .bool false, .int .u8 x] w fun e w' => e = .returned (.bool true) ∧ KeptX (fun _ => False) w.heap.size w w' := by
  have q64 := zv64
  have q79 := zv79
  have n64 : z64 ≠ #[] := fun h => by have := congrArg Array.size h; cases this
  have n79 : z79 ≠ #[] := fun h => by have := congrArg Array.size h; cases this
  have z1 : z79[8]? = some (.pointer none) := rfl
  have z2 : z79[9]? = some (.int .i64 0) := rfl
  have z3 : z79[13]? = some (.pointer none) := rfl
  have z4 : z79[14]? = some (.bool false) := rfl
  have z5 : z79[33]? = some (.int .u8 0) := rfl
  have z6 : z64[24]? = some (.slice none 0 0) := rfl
  have z7 : z79.size = 82 := rfl
  have z8 : z64.size = 68 := rfl
  go_enter Ybad.func3, Ybad.ntmps3
  go_wp2_with (first | (go_at_call 5; refine (new5 0 number w.heap.size _).mono ?_; rintro e w1 ⟨nb, rfl, hlt, hN, hb⟩; have HB : Hid _ := hb; have HN : Hid _ := hN; clear hb hN))
  go_at_call 6
  refine calls_chain7 w1 _ _ _ _ _ _ _ (fun V hBV hS k0 k1 k2 k3 k4 k5 k6 => ?_)
  have hN1 : NodeAt 0 number w.heap.size nb V := NodeAt.below HN.out hBV
  have hw1 : w.heap.size < w1.heap.size := Nat.lt_of_lt_of_le (by simp) HB.out.size
  have he : V.heap[w.heap.size]? = some (.cells #[.slice none 0 0, .slice none 0 0] 26 (0, 0)) := (hBV.block _ hw1).trans ((HB.out.block _ (by simp)).trans (heap_alloc_new w _))
  have hwV : Below w.heap.size w V := (((Below.refl _ _).alloc (Nat.le_refl _) _).trans (HB.out.mono (by simp))).trans (hBV.mono (by omega))
  refine (call6_act number w.heap.size nb (w1.heap.size + 1 + 1 + 1 + 1 + 1 + 1) (w1.heap.size + 1 + 1 + 1 + 1 + 1) (w1.heap.size + 1) (w1.heap.size) _ nid sw (by16 fun _ => 0) V hN1 ((cell_of_row _ _ _ _ 84 (0, 0) k6).trans rfl) ((cell_of_row _ _ _ _ 84 (0, 0) k6).trans rfl) he k5 (by omega) rfl rfl ((cell_of_row _ _ _ _ 64 (0, 0) k1).trans rfl) ((cell_of_row _ _ _ _ 48 (0, 0) k0).trans rfl) (by16_one _) (.inl ⟨rfl, rangeAt_below h0 hwV⟩)).mono ?_
  rintro e w2 ⟨rfl, g1, g2, g3⟩
  have hB0 : ∀ i b, V.heap[i]? = some b → i ≠ w.heap.size → i ≠ w1.heap.size + 1 + 1 + 1 + 1 + 1 → w2.heap[i]? = some b := fun i b h h1 h2 => (g2.block i (Array.getElem?_eq_some_iff.1 h).1 (fun hx => hx.elim h1 h2)).trans h
  have c14 : w2.cell? ⟨w1.heap.size + 1 + 1, 14, none⟩ = some (.bool false) := (cell_of_row _ _ _ _ 79 (0, 0) (hB0 _ _ k2 (by omega) (by omega))).trans rfl
  have HK : Hid _ := hB0 _ _ k4 (by omega) (by omega)
  have ct : w2.cell? ⟨w1.heap.size + 1 + 1 + 1 + 1 + 1, 10, none⟩ = some (.bool true) := (cell_of_row _ _ _ _ 71 (0, 0) g3).trans rfl
  have HF : Hid _ := KeptX.low g2 hwV (by omega) (fun k h => by rcases h with rfl | rfl <;> omega)
  have HE : Hid _ := g1
  clear hB0 g1 g2 g3 k0 k1 k2 k3 k4 k5 k6 he hwV hN1 hBV hS
  obtain ⟨tv, mv, e1, _, o1, o2⟩ := HE.out
  obtain ⟨tg, tc, rfl⟩ := owns_form o1
  obtain ⟨mg, mc, rfl⟩ := owns_form o2
  have c0 : w2.cell? ⟨w.heap.size, 0, none⟩ = some (.slice (some ⟨tg, 0, none⟩) 1 tc) := (cell_of_row _ _ _ _ 26 (0, 0) e1).trans rfl
  have c1 : w2.cell? ⟨w.heap.size, 1, none⟩ = some (.slice (some ⟨mg, 0, none⟩) 1 mc) := (cell_of_row _ _ _ _ 26 (0, 0) e1).trans rfl
  have hel : w.heap.size < w2.heap.size := World.block_lt_of_cell? w2 _ c0
  have ct0 : w2.cell? ⟨tg, 0, none⟩ = some (.string nid) := owns_range o1 0 _ rfl
  have htl : tg < w2.heap.size := World.block_lt_of_cell? w2 _ ct0
  have htbl := World.block_lt_of_cell? w2 _ ct
  simp only at htbl
  have hm0 := owns_range o2
  have hi0 : w2.rangeAt (w1.heap.size + 1 + 1 + 1 + 1) 0 (ids16 (by16 fun _ => 0)) := ids_range HK.out rfl
  have hok := msgok7 number sw (fun _ => 0)
  clear HE HK e1 o1 o2
  go_wp2_with fail
  rename_i hK
  refine wp_region_guard 43 (by kernel_rfl) [97, 98, 99, 100, 101, 102, 103, 104, 105, 106, 107, 108, 109, 110, 111, 112, 113, 114, 115, 116, 117, 118, 119, 120, 121, 122, 123, 124, 125, 126, 127, 128, 129, 130, 131, 132, 133, 134, 135, 136, 137, 138, 14] (PhiC w.heap.size (w1.heap.size + 1 + 1 + 1 + 1 + 1) tg mg tc mc number nid sw (by16 fun _ => 0)) (fun a b => Below a.heap.size a b) 100 (fun _ => True) trivial (fun _ _ _ h k => h.trans (k.mono h.size)) ((Below.refl _ _).drew) (by decide) (by kernel_rfl) (by kernel_rfl) ?hgd ?hend ⟨?_, ?_, ?_, ?_, ?_, ?_, ?_, ?_, ?_, ?_, ?_, ?_, ?_, ?_, ?_, ?_, ?_, ?_, ?_, ?_, ?_, ?_, ?_, ?_, ?_, ?_, ?_, ?_, ?_, ?_, ?_, ?_, ?_, ?_, ?_, ?_, ?_, ?_, ?_, ?_, ?_, ?_, ?_, trivial⟩
  case hgd =>
    refine ⟨?_, ?_, ?_, ?_, ?_, ?_, ?_, ?_, ?_, ?_, ?_, ?_, ?_, ?_, ?_, ?_, ?_, ?_, ?_, ?_, ?_, ?_, ?_, ?_, ?_, ?_, ?_, ?_, ?_, ?_, ?_, ?_, ?_, ?_, ?_, ?_, ?_, ?_, ?_, ?_, ?_, ?_, ?_, trivial⟩ <;> intro g b h v w3 hp <;> first | (simp at h; done) | (simp only [Option.some.injEq, Prod.mk.injEq] at h; obtain ⟨rfl, rfl⟩ := h; exact hp)
  case hend =>
    intro a w3 hr hg hall
    obtain ⟨v, hv42, rfl⟩ := hall 42 (by decide)
    replace hv42 : a.tmps[14]? = some (.bool true) := hv42
    refine wpList_nil (hK _ _ ?_)
    have hF := HF.out.trans (KeptX.of (hg.mono HF.out.size))
    clear HF
    go_wp2
    refine bodyPost_ret (v := .bool true) ?_ hr.defers ⟨rfl, hF⟩
    simp [results, Ybad.results3, hv42]
  · intro a w3 hr hg hj hd
    exact wp_val _ _ (g_move rfl (hr.other 15 rfl)) ⟨_, rfl, rfl, fun _ _ _ h => h, fun _ h => h, Below.refl _ _⟩
  · intro a w3 hr hg hj hd
    obtain ⟨v, hv0, rfl⟩ := hd ⟨0, .data⟩ (by simp) rfl
    exact wp_val _ _ (g_nil rfl hv0) ⟨_, rfl, rfl, fun _ _ _ h => h, fun _ h => h, Below.refl _ _⟩
  · intro a w3 hr hg hj hd
    obtain ⟨v, hv1, rfl⟩ := hd ⟨1, .data⟩ (by simp) rfl
    exact wp_val _ _ (g_fld 26 1 1 rfl hv1 (by decide)) ⟨_, rfl, rfl, fun _ _ _ h => h, fun _ h => h, Below.refl _ _⟩
  · intro a w3 hr hg hj hd
    obtain ⟨v, hv2, rfl⟩ := hd ⟨2, .data⟩ (by simp) rfl
    exact wp_val _ _ (g_ld 24 rfl hv2 ((hg.cell (p := ⟨w.heap.size, 1, none⟩) hel).trans c1) (by decide)) ⟨_, rfl, rfl, fun _ _ _ h => h, fun _ h => h, Below.refl _ _⟩
  · intro a w3 hr hg hj hd
    obtain ⟨v, hv3, rfl⟩ := hd ⟨3, .data⟩ (by simp) rfl
    exact wp_val _ _ (g_lenS 24 rfl hv3 (by decide)) ⟨_, rfl, rfl, fun _ _ _ h => h, fun _ h => h, Below.refl _ _⟩
  · intro a w3 hr hg hj hd
    obtain ⟨v, hv4, rfl⟩ := hd ⟨4, .data⟩ (by simp) rfl
    exact wp_val _ _ (g_eqI (n := ((1 : Nat) : Int)) rfl hv4) ⟨_, rfl, rfl, fun _ _ _ h => h, fun _ h => h, Below.refl _ _⟩
  · intro a w3 hr hg hj hd
    obtain ⟨v, hv5, rfl⟩ := hd ⟨5, .data⟩ (by simp) rfl
    exact wp_val _ _ (g_move rfl hv5) ⟨_, rfl, rfl, fun _ _ _ h => h, fun _ h => h, Below.refl _ _⟩
  · intro a w3 hr hg hj hd
    exact wp_val _ _ (g_move rfl (hr.other 15 rfl)) ⟨_, rfl, rfl, fun _ _ _ h => h, fun _ h => h, Below.refl _ _⟩
  · intro a w3 hr hg hj hd
    obtain ⟨v, hv7, rfl⟩ := hd ⟨7, .data⟩ (by simp) rfl
    exact wp_val _ _ (g_nil rfl hv7) ⟨_, rfl, rfl, fun _ _ _ h => h, fun _ h => h, Below.refl _ _⟩
  · intro a w3 hr hg hj hd
    obtain ⟨v, hv8, rfl⟩ := hd ⟨8, .data⟩ (by simp) rfl
    exact wp_val _ _ (g_fld 26 0 0 rfl hv8 (by decide)) ⟨_, rfl, rfl, fun _ _ _ h => h, fun _ h => h, Below.refl _ _⟩
  · intro a w3 hr hg hj hd
    obtain ⟨v, hv9, rfl⟩ := hd ⟨9, .data⟩ (by simp) rfl
    exact wp_val _ _ (g_ld 23 rfl hv9 ((hg.cell (p := ⟨w.heap.size, 0, none⟩) hel).trans c0) (by decide)) ⟨_, rfl, rfl, fun _ _ _ h => h, fun _ h => h, Below.refl _ _⟩
  · intro a w3 hr hg hj hd
    obtain ⟨v, hv10, rfl⟩ := hd ⟨10, .data⟩ (by simp) rfl
    exact wp_val _ _ (g_lenS 23 rfl hv10 (by decide)) ⟨_, rfl, rfl, fun _ _ _ h => h, fun _ h => h, Below.refl _ _⟩
  · intro a w3 hr hg hj hd
    obtain ⟨v, hv11, rfl⟩ := hd ⟨11, .data⟩ (by simp) rfl
    exact wp_val _ _ (g_eqI (n := ((1 : Nat) : Int)) rfl hv11) ⟨_, rfl, rfl, fun _ _ _ h => h, fun _ h => h, Below.refl _ _⟩
  · intro a w3 hr hg hj hd
    obtain ⟨v, hv6, rfl⟩ := hd ⟨6, .data⟩ (by simp) rfl
    obtain ⟨v, hv12, rfl⟩ := hd ⟨12, .data⟩ (by simp) rfl
    exact wp_val _ _ (g_and rfl hv6 hv12) ⟨_, rfl, rfl, fun _ _ _ h => h, fun _ h => h, Below.refl _ _⟩
  · intro a w3 hr hg hj hd
    obtain ⟨v, hv13, rfl⟩ := hd ⟨13, .data⟩ (by simp) rfl
    exact wp_val _ _ (g_move rfl hv13) ⟨_, rfl, rfl, fun _ _ _ h => h, fun _ h => h, Below.refl _ _⟩
  · intro a w3 hr hg hj hd
    exact wp_val _ _ (g_move rfl (hr.other 15 rfl)) ⟨_, rfl, rfl, fun _ _ _ h => h, fun _ h => h, Below.refl _ _⟩
  · intro a w3 hr hg hj hd
    obtain ⟨v, hv15, rfl⟩ := hd ⟨15, .data⟩ (by simp) rfl
    exact wp_val _ _ (g_nil rfl hv15) ⟨_, rfl, rfl, fun _ _ _ h => h, fun _ h => h, Below.refl _ _⟩
  · intro a w3 hr hg hj hd
    obtain ⟨v, hv16, rfl⟩ := hd ⟨16, .data⟩ (by simp) rfl
    exact wp_val _ _ (g_fld 26 0 0 rfl hv16 (by decide)) ⟨_, rfl, rfl, fun _ _ _ h => h, fun _ h => h, Below.refl _ _⟩
  · intro a w3 hr hg hj hd
    obtain ⟨v, hv17, rfl⟩ := hd ⟨17, .data⟩ (by simp) rfl
    exact wp_val _ _ (g_ld 23 rfl hv17 ((hg.cell (p := ⟨w.heap.size, 0, none⟩) hel).trans c0) (by decide)) ⟨_, rfl, rfl, fun _ _ _ h => h, fun _ h => h, Below.refl _ _⟩
  · intro a w3 hr hg hj hd
    obtain ⟨v, hv18, rfl⟩ := hd ⟨18, .data⟩ (by simp) rfl
    exact wp_val _ _ (g_ix0 23 1 (n := 0) rfl hv18 (by decide)) ⟨_, rfl, rfl, fun _ _ _ h => h, fun _ h => h, Below.refl _ _⟩
  · intro a w3 hr hg hj hd
    obtain ⟨v, hv19, rfl⟩ := hd ⟨19, .data⟩ (by simp) rfl
    exact wp_val _ _ (g_ld 9 rfl hv19 ((hg.cell (p := ⟨tg, 0, none⟩) htl).trans ct0) (by decide)) ⟨_, rfl, rfl, fun _ _ _ h => h, fun _ h => h, Below.refl _ _⟩
  · intro a w3 hr hg hj hd
    exact wp_val _ _ (g_move rfl (hr.other 0 rfl)) ⟨_, rfl, rfl, fun _ _ _ h => h, fun _ h => h, Below.refl _ _⟩
  · intro a w3 hr hg hj hd
    obtain ⟨v, hv20, rfl⟩ := hd ⟨20, .data⟩ (by simp) rfl
    obtain ⟨v, hv21, rfl⟩ := hd ⟨21, .data⟩ (by simp) rfl
    exact wp_val _ _ (g_eqS rfl hv20 hv21) ⟨_, rfl, rfl, fun _ _ _ h => h, fun _ h => h, Below.refl _ _⟩
  · intro a w3 hr hg hj hd
    obtain ⟨v, hv14, rfl⟩ := hd ⟨14, .data⟩ (by simp) rfl
    obtain ⟨v, hv22, rfl⟩ := hd ⟨22, .data⟩ (by simp) rfl
    exact wp_val _ _ (g_and rfl hv14 hv22) ⟨_, rfl, rfl, fun _ _ _ h => h, fun _ h => h, Below.refl _ _⟩
  · intro a w3 hr hg hj hd
    obtain ⟨v, hv23, rfl⟩ := hd ⟨23, .data⟩ (by simp) rfl
    exact wp_val _ _ (g_move rfl hv23) ⟨_, rfl, rfl, fun _ _ _ h => h, fun _ h => h, Below.refl _ _⟩
  · intro a w3 hr hg hj hd
    exact wp_val _ _ (g_move rfl (hr.other 15 rfl)) ⟨_, rfl, rfl, fun _ _ _ h => h, fun _ h => h, Below.refl _ _⟩
  · intro a w3 hr hg hj hd
    obtain ⟨v, hv25, rfl⟩ := hd ⟨25, .data⟩ (by simp) rfl
    exact wp_val _ _ (g_nil rfl hv25) ⟨_, rfl, rfl, fun _ _ _ h => h, fun _ h => h, Below.refl _ _⟩
  · intro a w3 hr hg hj hd
    obtain ⟨v, hv26, rfl⟩ := hd ⟨26, .data⟩ (by simp) rfl
    exact wp_val _ _ (g_fld 26 1 1 rfl hv26 (by decide)) ⟨_, rfl, rfl, fun _ _ _ h => h, fun _ h => h, Below.refl _ _⟩
  · intro a w3 hr hg hj hd
    obtain ⟨v, hv27, rfl⟩ := hd ⟨27, .data⟩ (by simp) rfl
    exact wp_val _ _ (g_ld 24 rfl hv27 ((hg.cell (p := ⟨w.heap.size, 1, none⟩) hel).trans c1) (by decide)) ⟨_, rfl, rfl, fun _ _ _ h => h, fun _ h => h, Below.refl _ _⟩
  · intro a w3 hr hg hj hd
    obtain ⟨v, hv28, rfl⟩ := hd ⟨28, .data⟩ (by simp) rfl
    exact wp_val _ _ (g_ix0 24 39 (n := 0) rfl hv28 (by decide)) ⟨_, rfl, rfl, fun _ _ _ h => h, fun _ h => h, Below.refl _ _⟩
  · intro a w3 hr hg hj hd
    obtain ⟨v, hv29, rfl⟩ := hd ⟨29, .data⟩ (by simp) rfl
    refine wp_load_mid 89 _ rfl mg 0 (ev hv29) (msg number sw (by16 fun _ => 0)).toList _ (rangeAt_below hm0 hg) Ybad.underlying89 rfl size89 ⟨_, rfl, ?_, fun _ _ _ h => h, fun _ h => h, Below.refl _ _⟩
    exact congrArg Value.agg (Array.toArray_toList ..)
  · intro a w3 hr hg hj hd
    exact wp_val _ _ (g_move rfl (hr.other 2 rfl)) ⟨_, rfl, rfl, fun _ _ _ h => h, fun _ h => h, Below.refl _ _⟩
  · intro a w3 hr hg hj hd
    exact wp_val _ _ (g_move rfl (hr.other 1 rfl)) ⟨_, rfl, rfl, fun _ _ _ h => h, fun _ h => h, Below.refl _ _⟩
  · intro a w3 hr hg hj hd
    exact wp_load_mid 72 _ rfl (w1.heap.size + 1 + 1 + 1 + 1) 0 (ev (hr.other 20 rfl)) (ids16 (by16 fun _ => 0)) _ (rangeAt_below hi0 hg) Ybad.underlying72 rfl info72 ⟨_, rfl, rfl, fun _ _ _ h => h, fun _ h => h, Below.refl _ _⟩
  · intro a w3 hr hg hj hd
    obtain ⟨v, hv30, rfl⟩ := hd ⟨30, .data⟩ (by simp) rfl
    obtain ⟨v, hv31, rfl⟩ := hd ⟨31, .data⟩ (by simp) rfl
    obtain ⟨v, hv32, rfl⟩ := hd ⟨32, .data⟩ (by simp) rfl
    obtain ⟨v, hv33, rfl⟩ := hd ⟨33, .data⟩ (by simp) rfl
    refine wp_ent 7 _ (g_call7 rfl hv30 hv31 hv32 hv33) ((hok w3).mono ?_)
    rintro e w4 ⟨rfl, hb4⟩
    exact ⟨_, rfl, _, rfl, rfl, fun _ _ _ h => h, fun _ h => h, hb4⟩
  · intro a w3 hr hg hj hd
    obtain ⟨v, hv24, rfl⟩ := hd ⟨24, .data⟩ (by simp) rfl
    obtain ⟨v, hv34, rfl⟩ := hd ⟨34, .data⟩ (by simp) rfl
    exact wp_val _ _ (g_and rfl hv24 hv34) ⟨_, rfl, rfl, fun _ _ _ h => h, fun _ h => h, Below.refl _ _⟩
  · intro a w3 hr hg hj hd
    obtain ⟨v, hv35, rfl⟩ := hd ⟨35, .data⟩ (by simp) rfl
    exact wp_val _ _ (g_move rfl hv35) ⟨_, rfl, rfl, fun _ _ _ h => h, fun _ h => h, Below.refl _ _⟩
  · intro a w3 hr hg hj hd
    exact wp_val _ _ (g_move rfl (hr.other 21 rfl)) ⟨_, rfl, rfl, fun _ _ _ h => h, fun _ h => h, Below.refl _ _⟩
  · intro a w3 hr hg hj hd
    obtain ⟨v, hv37, rfl⟩ := hd ⟨37, .data⟩ (by simp) rfl
    exact wp_val _ _ (g_nil rfl hv37) ⟨_, rfl, rfl, fun _ _ _ h => h, fun _ h => h, Below.refl _ _⟩
  · intro a w3 hr hg hj hd
    obtain ⟨v, hv38, rfl⟩ := hd ⟨38, .data⟩ (by simp) rfl
    exact wp_val _ _ (g_fld 71 8 10 rfl hv38 (by decide)) ⟨_, rfl, rfl, fun _ _ _ h => h, fun _ h => h, Below.refl _ _⟩
  · intro a w3 hr hg hj hd
    obtain ⟨v, hv39, rfl⟩ := hd ⟨39, .data⟩ (by simp) rfl
    exact wp_val _ _ (g_ld 4 rfl hv39 ((hg.cell (p := ⟨w1.heap.size + 1 + 1 + 1 + 1 + 1, 10, none⟩) htbl).trans ct) (by decide)) ⟨_, rfl, rfl, fun _ _ _ h => h, fun _ h => h, Below.refl _ _⟩
  · intro a w3 hr hg hj hd
    obtain ⟨v, hv36, rfl⟩ := hd ⟨36, .data⟩ (by simp) rfl
    obtain ⟨v, hv40, rfl⟩ := hd ⟨40, .data⟩ (by simp) rfl
    exact wp_val _ _ (g_and rfl hv36 hv40) ⟨_, rfl, rfl, fun _ _ _ h => h, fun _ h => h, Below.refl _ _⟩
  · intro a w3 hr hg hj hd
    obtain ⟨v, hv41, rfl⟩ := hd ⟨41, .data⟩ (by simp) rfl
    exact wp_val _ _ (g_assign rfl hv41) ⟨_, rfl, rfl, fun _ _ _ h => h, fun _ h => h, Below.refl _ _⟩
end Go.Proofs.YbulkbkkwDoor
