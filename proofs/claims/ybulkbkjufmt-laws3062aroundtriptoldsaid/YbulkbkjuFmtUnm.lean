/-
  UnmarshalBinary (function 6) of what AppendBinary wrote.
-/
import Derived.Test.YbulkbkjuFmtDec
import Derived.Test.YbulkbkjuFmtEq
namespace Go.Proofs.YbulkbkjuFmt
open Go.RowKit

set_option maxHeartbeats 4000000 in
set_option maxRecDepth 100000 in
theorem unm6 (g o cp pb : Nat) (s : Nat) (c : Int) (l : List UInt8) (n m : Nat) (w : World)
    (hl : l = Lib.uvarint s ++ Lib.uvarint (Lib.zigzag c)) (hn : (Lib.uvarint s).length = n) (hm : (Lib.uvarint (Lib.zigzag c)).length = m) (hcp : n + m ≤ cp) (hcm : cp ≤ maxLen)
    (hcell : ∀ j (hj : j < l.length), w.cell? ⟨g, o + j, none⟩ = some (.int .u8 (l[j]).toNat))
    (hs : s ≤ 18) (hc1 : -1000000000000000000 < c) (hc2 : c < 1000000000000000000) (hsh : s = 0 ∨ (c.tmod 10 == 0) = false)
    (z0 z1 : Value) (hp0 : w.cell? ⟨pb, 0, none⟩ = some z0) (hp1 : w.cell? ⟨pb, 1, none⟩ = some z1) (hf0 : w.frozen? ⟨pb, 0, none⟩ = false) (hf1 : w.frozen? ⟨pb, 1, none⟩ = false) :
    Calls Ybaf.prog 6 #[.pointer (some ⟨pb, 0, none⟩), .slice (some ⟨g, o, none⟩) (n + m) cp] w fun e w' => e = .returned .nilIface ∧ w' = (w.setCell ⟨pb, 0, none⟩ (.int .i64 c)).setCell ⟨pb, 1, none⟩ (.int .i64 s) := by
  have hn1 := Lib.uvarint_pos s
  have hn10 := Lib.uvarint_length64 (x := s) (by omega)
  have hm1 := Lib.uvarint_pos (Lib.zigzag c)
  have hm10 := Lib.uvarint_length64 (Lib.zigzag_lt (x := c) (by omega) (by omega))
  rw [hn] at hn1 hn10
  rw [hm] at hm1 hm10
  have hU := uvarint9 g o (n + m) cp l w (by rw [hl, List.length_append, hn, hm]) hcell
  rw [hl, uvarintDec_enc s _ (by omega), hn] at hU
  have hV := varint10 g (o + n) m (cp - n) (Lib.uvarint (Lib.zigzag c)) w hm (fun j hj => by
    have h1 : n + j < l.length := by rw [hl, List.length_append]; omega
    have := hcell (n + j) h1
    rw [Nat.add_assoc, this]
    subst hl
    simp [List.getElem_append_right, hn])
  rw [varintDec_enc c (by omega) (by omega), hm] at hV
  unfold maxLen at hcm
  clear hcell hl hn hm
  have hpos : 0 < s ∨ ¬ 0 < s := by omega
  rcases hpos with h0 | h0
  · have ht : (c.tmod 10 == 0) = false := by
      rcases hsh with h | h
      · omega
      · exact h
    clear hsh
    go_enter Ybaf.func6, Ybaf.ntmps6
    go_wp2_with (first | (go_at_call 9; refine hU.mono ?_; clear hU; rintro e w1 ⟨rfl, rfl⟩) | (go_at_call 10; refine hV.mono ?_; clear hV; rintro e w1 ⟨rfl, rfl⟩))
    go_ret
    exact ⟨rfl, rfl⟩
  · clear hsh
    go_enter Ybaf.func6, Ybaf.ntmps6
    go_wp2_with (first | (go_at_call 9; refine hU.mono ?_; clear hU; rintro e w1 ⟨rfl, rfl⟩) | (go_at_call 10; refine hV.mono ?_; clear hV; rintro e w1 ⟨rfl, rfl⟩))
    go_ret
    exact ⟨rfl, rfl⟩

end Go.Proofs.YbulkbkjuFmt
