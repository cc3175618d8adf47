/-
  The varint writers on the road of LawS3062ARoundTrip: functions 7 (binary.AppendUvarint), 8 (binary.AppendVarint), 4 (Decimal.AppendBinary): each appends, onto a slice of which 'Came' is known, the bytes of 'Lib.uvarint'. The loop after the shelf's own text for AppendUvarint.
-/
import Derived.Test.YbulkbkjuFmtRows
import Derived.WalkKit
import Derived.Deep.Onto
import Derived.Lib.VarintMem
import Derived.Lib.Zigzag
import Derived.OwnWalk
import Derived.Below
namespace Go.Proofs.YbulkbkjuFmt
open Go.RowKit

theorem info5 : (Ybaf.prog.info? 5).map (fun i => (i.zero, i.size, i.bytes)) = some (some (.int .u8 0), 1, 1) := by kernel_rfl

set_option maxHeartbeats 8000000 in
set_option maxRecDepth 100000 in
theorem uv7 (W0 : World) (ao : Option Addr) (b off len cap : Nat) (olds : List Value) (hc : Came W0 1 ao b off len cap olds) (x : Nat) (hx : x < 18446744073709551616) (sv : Value) (m : Nat) (ks : List Value) (w : World) (honto : Onto W0 5 1 ao b off len cap olds w sv m ks) (hlim : len + m + 10 ≤ 140737488355328) :
    Calls Ybaf.prog 7 #[sv, .int .u64 x] w fun e w' => ∃ v', e = .returned v' ∧ Onto W0 5 1 ao b off len cap olds w' v' (m + (Lib.uvarint x).length) (ks ++ Lib.byteCells (Lib.uvarint x)) := by
  obtain ⟨i0, hi, hz0, hz1, hz2⟩ := info_parts info5
  have hlen := Lib.uvarint_length64 hx
  go_enter Ybaf.func7, Ybaf.ntmps7
  go_wp2
  go_loopw [0, 1] (fun vb vx wr => ∃ (y : Nat) (pre : List UInt8), vx = .int .u64 y ∧ y ≤ x ∧ Lib.uvarint x = pre ++ Lib.uvarint y ∧ Onto W0 5 1 ao b off len cap olds wr vb (m + pre.length) (ks ++ Lib.byteCells pre))
    (fun _ vx _ => (intOf vx).toNat)
  case atStart => exact ⟨x, [], rfl, Nat.le_refl _, rfl, by simpa [Lib.byteCells] using honto⟩
  case round =>
    obtain ⟨y, pre, rfl, hy, hsplit, honto1⟩ := hrel
    have hpl : pre.length + (Lib.uvarint y).length ≤ 10 := by
      have h2 := congrArg List.length hsplit
      rw [List.length_append] at h2
      omega
    have hyp := Lib.uvarint_pos y
    by_cases h128 : 128 ≤ y
    · have hor : bits .or .u8 ((y : Int) % 256) 128 = ((y % 128 + 128 : Nat) : Int) := by
        rw [Lib.u8_or128_any _ (by omega) (by omega)]
        omega
      go_wp2_with (at_builtin; refine wpList_append_onto _ rfl _ _ 22 rfl hc i0 (.int .u8 0) 1 Ybaf.underlying22 hi hz0 hz1 hz2 rfl (by decide) rfl (honto1.alloc hc _) ⟨wr.heap.size, 0, none⟩ 1 [Value.int .u8 ((y % 128 + 128 : Nat) : Int)] rfl rfl (by intro j u hj; match j, hj with | 0, hj => simp at hj; subst hj; simp [Addr.add]) (by intro u hu; simp at hu; subst hu; rfl) (by unfold maxLen; omega) (by omega) ?_)
      intro v' w1 honto'
      go_wp2
      go_roundw
      case rel =>
        refine ⟨y / 128, pre ++ [(y % 128 + 128).toUInt8], by go_num, by omega, by rw [hsplit, Lib.uvarint_big h128]; simp, ?_⟩
        have ec : ((y % 128 + 128 : Nat) : Int) = (y : Int) % 128 + 128 := by omega
        rw [Lib.byteCells_snoc pre (by omega), List.length_append, List.length_singleton, ← Nat.add_assoc]
        first | exact honto' | (rw [ec] at honto'; exact honto') | (rw [ec]; exact honto')
      case measure => simp [intOf]; omega
    · have hsm : Lib.uvarint y = [y.toUInt8] := Lib.uvarint_small (by omega)
      go_wp2_with (at_builtin; refine wpList_append_onto _ rfl _ _ 22 rfl hc i0 (.int .u8 0) 1 Ybaf.underlying22 hi hz0 hz1 hz2 rfl (by decide) rfl (honto1.alloc hc _) ⟨wr.heap.size, 0, none⟩ 1 [Value.int .u8 (y : Int)] rfl rfl (by intro j u hj; match j, hj with | 0, hj => simp at hj; subst hj; simp [Addr.add]) (by intro u hu; simp at hu; subst hu; rfl) (by unfold maxLen; omega) (by omega) ?_)
      intro v' w1 honto'
      go_wp2
      go_ret
      refine ⟨v', rfl, ?_⟩
      rw [hsplit, hsm, Lib.byteCells_snoc pre (by omega), List.length_append, List.length_singleton, ← Nat.add_assoc]
      exact honto'

set_option maxHeartbeats 8000000 in
set_option maxRecDepth 100000 in
theorem av8 (W0 : World) (ao : Option Addr) (b off len cap : Nat) (olds : List Value) (hc : Came W0 1 ao b off len cap olds) (x : Int) (h0 : -9223372036854775808 ≤ x) (h1 : x ≤ 9223372036854775807) (sv : Value) (m : Nat) (ks : List Value) (w : World) (honto : Onto W0 5 1 ao b off len cap olds w sv m ks) (hlim : len + m + 10 ≤ 140737488355328) :
    Calls Ybaf.prog 8 #[sv, .int .i64 x] w fun e w' => ∃ v', e = .returned v' ∧ Onto W0 5 1 ao b off len cap olds w' v' (m + (Lib.uvarint (Lib.zigzag x)).length) (ks ++ Lib.byteCells (Lib.uvarint (Lib.zigzag x))) := by
  have hU := uv7 W0 ao b off len cap olds hc (Lib.zigzag x) (Lib.zigzag_lt h0 h1) sv m ks w honto hlim
  by_cases hneg : x < 0
  · rw [← Lib.zigzag_neg h0 hneg] at hU
    go_enter Ybaf.func8, Ybaf.ntmps8
    go_wp2_with (go_at_call 7; refine hU.mono ?_; rintro e w1 ⟨v', rfl, ho⟩)
    go_ret
    exact ⟨v', rfl, ho⟩
  · rw [Lib.zigzag_nonneg (by omega)] at hU
    go_enter Ybaf.func8, Ybaf.ntmps8
    go_wp2_with (go_at_call 7; refine hU.mono ?_; rintro e w1 ⟨v', rfl, ho⟩)
    go_ret
    exact ⟨v', rfl, ho⟩

/-- Below block B the world is as it was ('Below' without the tape: 'Onto' does not speak of the tape). -/
structure Kept (B : Nat) (w w' : World) : Prop where
  os : w'.os = w.os
  output : w'.output = w.output
  size : w.heap.size ≤ w'.heap.size
  block : ∀ k, k < B → w'.heap[k]? = w.heap[k]?

theorem Kept.refl (B : Nat) (w : World) : Kept B w w := ⟨rfl, rfl, Nat.le_refl _, fun _ _ => rfl⟩
theorem Kept.trans {B : Nat} {a b c : World} (h : Kept B a b) (k : Kept B b c) : Kept B a c :=
  ⟨k.os.trans h.os, k.output.trans h.output, Nat.le_trans h.size k.size, fun i hi => (k.block i hi).trans (h.block i hi)⟩
theorem Kept.mono {B B' : Nat} {w w' : World} (h : Kept B w w') (hB : B' ≤ B) : Kept B' w w' := ⟨h.os, h.output, h.size, fun k hk => h.block k (Nat.lt_of_lt_of_le hk hB)⟩
theorem Kept.of {B : Nat} {w w' : World} (h : Below B w w') : Kept B w w' := ⟨h.os, h.output, h.size, h.block⟩
theorem Kept.cell {B : Nat} {w w' : World} (h : Kept B w w') {p : Addr} (hp : p.block < B) : w'.cell? p = w.cell? p := World.cell?_of_block (w := w) (h.block p.block hp)
theorem Kept.frozen {B : Nat} {w w' : World} (h : Kept B w w') {p : Addr} (hp : p.block < B) : w'.frozen? p = w.frozen? p := World.frozen?_of_block (w := w) (h.block p.block hp)
theorem Kept.frame {W w' : World} (h : Kept W.heap.size W w') (may : MemPlace → Prop) : W.keptBut w' may := by
  refine ⟨h.os, h.output, fun i hi => ?_⟩
  rw [h.block i hi]
  split <;> simp_all
theorem Kept.same {W w' : World} (h : Kept W.heap.size W w') {p : MemPlace} (hp : p.block < W.heap.size) : W.sameAt w' p := by
  cases p with
  | cell b o => exact World.cell?_of_block (w := W) (h.block b hp)
  | map b => exact h.block b hp
theorem Kept.grown {B : Nat} {w w' : World} (hg : w.grownBy w' none) (hB : B ≤ w.heap.size) : Kept B w w' :=
  ⟨hg.os, hg.output, hg.size, fun k hk => hg.block k (Nat.lt_of_lt_of_le hk hB) (by simp)⟩

/-- What was there and is none of the slice's own spare is as it was. -/
theorem Kept.onto {W : World} {e : TypeId} {size : Nat} {ao : Option Addr} {b off len cap : Nat} {olds : List Value} {w : World} {v : Value} {m : Nat} {ks : List Value} (h : Onto W e size ao b off len cap olds w v m ks) {B : Nat} (hB : B ≤ W.heap.size) (hb : 0 < cap → B ≤ b) : Kept B W w :=
  ⟨h.kept.1, h.kept.2.1, h.kept.size, fun k hk => h.kept.block (by omega) (fun p ⟨j, _, h2, e⟩ => by
    subst e
    have hcap : 0 < cap := by
      rcases Nat.eq_zero_or_pos cap with h0 | h0
      · subst h0; simp at h2
      · exact h0
    have := hb hcap
    show b ≠ k
    omega)⟩

theorem Came.below {W W' : World} {size : Nat} {ao : Option Addr} {b off len cap : Nat} {olds : List Value} (h : Came W size ao b off len cap olds) (hk : Kept W.heap.size W W') : Came W' size ao b off len cap olds := by
  refine ⟨h.le, h.addr, fun hc => Nat.lt_of_lt_of_le (h.lt hc) hk.size, h.oldsLen, fun j u hu => ?_, fun j hj => ?_⟩
  · have := h.olds j u hu
    rw [hk.cell (World.block_lt_of_cell? W _ this)]
    exact this
  · have := h.spare j hj
    obtain ⟨x, hx⟩ := Option.isSome_iff_exists.1 this.1
    have hl := World.block_lt_of_cell? W _ hx
    rw [hk.cell hl, hk.frozen hl]
    exact this

set_option maxHeartbeats 8000000 in
set_option maxRecDepth 100000 in
theorem ab4 (ao : Option Addr) (b off len cap : Nat) (olds : List Value) (x s : Int) (h0 : -9223372036854775808 ≤ x) (h1 : x ≤ 9223372036854775807) (sn : Nat) (hs : IntKind.u64.wrap s = (sn : Int)) (hsn : sn < 18446744073709551616) (w : World) (hc : Came w 1 ao b off len cap olds) (hlim : len + 20 ≤ 140737488355328) :
    Calls Ybaf.prog 4 #[.agg #[.int .i64 x, .int .i64 s], .slice ao len cap] w fun e w' => ∃ v' W1, e = .returned (.tuple #[v', .nilIface]) ∧ Kept w.heap.size w W1 ∧ Onto W1 5 1 ao b off len cap olds w' v' ((Lib.uvarint sn).length + (Lib.uvarint (Lib.zigzag x)).length) (Lib.byteCells (Lib.uvarint sn) ++ Lib.byteCells (Lib.uvarint (Lib.zigzag x))) := by
  have hlen := Lib.uvarint_length64 hsn
  have k1 : Kept w.heap.size w (w.alloc (.cells #[.int .i64 x, .int .i64 s] 24)) := Kept.of ((Below.refl _ _).alloc (Nat.le_refl _) _)
  have hc1 := Came.below hc k1
  have hU := uv7 _ ao b off len cap olds hc1 sn hsn _ 0 [] _ (Onto.start hc1) (by omega)

  have hbox : ∀ w1 v' k ks, Onto (w.alloc (.cells #[.int .i64 x, .int .i64 s] 24)) 5 1 ao b off len cap olds w1 v' k ks → w1.cell? ⟨w.heap.size, 0, none⟩ = some (.int .i64 x) := by
    intro w1 v' k ks ho
    refine (ho.old (by simp) (fun j _ h2 ⟨e, _⟩ => ?_)).trans (by simp)
    · have hcap : 0 < cap := by
        rcases Nat.eq_zero_or_pos cap with h0 | h0
        · subst h0; simp at h2
        · exact h0
      have := hc.lt hcap
      omega
  simp only [Nat.zero_add, List.nil_append] at hU
  go_enter Ybaf.func4, Ybaf.ntmps4
  go_wp2_with (first | (go_at_call 7; refine hU.mono ?_; clear hU; rintro e w1 ⟨v', rfl, ho⟩; have hbx := hbox _ _ _ _ ho) | (go_at_call 8; refine (av8 _ ao b off len cap olds hc1 x h0 h1 _ _ _ _ ho (by omega)).mono ?_; rintro e w2 ⟨v2, rfl, ho2⟩))
  go_ret2
  exact ⟨v2, _, rfl, k1, ho2⟩

end Go.Proofs.YbulkbkjuFmt
