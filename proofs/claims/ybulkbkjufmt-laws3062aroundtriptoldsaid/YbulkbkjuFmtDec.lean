/-
  binary.Uvarint (function 9) and binary.Varint (function 10) at this dump: 'Lib.uvarintDec', 'Lib.varintDec' of the bytes. The two walks are the shelf's own text, turned to this program's numbers; and, plainly: what was encoded is what is decoded.
-/
import Derived.Test.YbulkbkjuFmtRows
import Derived.Lib.Varint
import Derived.Lib.VarintMem
import Derived.Lib.VarintDec
import Derived.Lib.VarintBits
import Derived.Lib.Zigzag
import Derived.Laws.Closers25b
import Derived.WalkKit
namespace Go.Proofs.YbulkbkjuFmt
open Go.RowKit

/-! ### PLAIN -/
theorem uvarintFrom_enc : ∀ (f x i acc : Nat) (rest : List UInt8), x < f → (i = 0 ∨ 0 < x) → acc + x * 2 ^ (7 * i) < 18446744073709551616 →
    Lib.uvarintFrom i acc (Lib.uvarint x ++ rest) = (acc + x * 2 ^ (7 * i), (i : Int) + ((Lib.uvarint x).length : Int))
  | 0, x, i, acc, rest, hf, _, _ => by omega
  | f + 1, x, i, acc, rest, hf, hi, hlt => by
    have hi10 : i < 10 := by
      rcases hi with rfl | hx
      · omega
      · rcases Nat.lt_or_ge i 10 with h | h
        · exact h
        · have h1 : 2 ^ 70 ≤ 2 ^ (7 * i) := Nat.pow_le_pow_right (by decide) (by omega)
          have h2 : 1 * 2 ^ (7 * i) ≤ x * 2 ^ (7 * i) := Nat.mul_le_mul_right _ hx
          have h3 : (2 : Nat) ^ 70 = 1180591620717411303424 := by decide
          omega
    by_cases hs : x < 128
    · rw [Lib.uvarint_small hs]
      have hb : (x.toUInt8).toNat = x := Lib.toUInt8_toNat (by omega)
      have h9 : ¬ (i = 9 ∧ 1 < x) := by
        rintro ⟨rfl, h1⟩
        have h2 : 2 * 2 ^ (7 * 9) ≤ x * 2 ^ (7 * 9) := Nat.mul_le_mul_right _ h1
        have h3 : 2 * (2 : Nat) ^ (7 * 9) = 18446744073709551616 := by decide
        omega
      simp only [List.cons_append, List.nil_append, Lib.uvarintFrom, hb]
      rw [if_neg (by omega), if_pos hs, if_neg h9]
      simp
    · rw [Lib.uvarint_big (by omega)]
      have hb : ((x % 128 + 128).toUInt8).toNat = x % 128 + 128 := Lib.toUInt8_toNat (by omega)
      simp only [List.cons_append, Lib.uvarintFrom, hb]
      rw [if_neg (by omega), if_neg (by omega)]
      have e1 : (x % 128 + 128) % 128 = x % 128 := by omega
      have e2 : acc + x % 128 * 2 ^ (7 * i) + x / 128 * 2 ^ (7 * (i + 1)) = acc + x * 2 ^ (7 * i) := by
        have : (2 : Nat) ^ (7 * (i + 1)) = 128 * 2 ^ (7 * i) := by
          rw [show 7 * (i + 1) = 7 + 7 * i by omega, Nat.pow_add]
        rw [this, Nat.add_assoc, ← Nat.mul_assoc, ← Nat.add_mul]
        have : x % 128 + x / 128 * 128 = x := by omega
        rw [this]
      rw [e1, uvarintFrom_enc f (x / 128) (i + 1) _ rest (by omega) (.inr (by omega)) (by rw [e2]; exact hlt), e2]
      simp only [List.length_cons]
      congr 1
      omega

theorem uvarintDec_enc (x : Nat) (rest : List UInt8) (hx : x < 18446744073709551616) : Lib.uvarintDec (Lib.uvarint x ++ rest) = (x, ((Lib.uvarint x).length : Int)) := by
  have := uvarintFrom_enc (x + 1) x 0 0 rest (by omega) (.inl rfl) (by simpa using hx)
  simpa [Lib.uvarintDec] using this

theorem unzigzag_zigzag (x : Int) : Lib.unzigzag (Lib.zigzag x) = x := by
  unfold Lib.unzigzag Lib.zigzag
  split <;> split <;> omega

theorem varintDec_enc (x : Int) (h0 : -9223372036854775808 ≤ x) (h1 : x ≤ 9223372036854775807) : Lib.varintDec (Lib.uvarint (Lib.zigzag x)) = (x, ((Lib.uvarint (Lib.zigzag x)).length : Int)) := by
  have := uvarintDec_enc (Lib.zigzag x) [] (Lib.zigzag_lt h0 h1)
  rw [List.append_nil] at this
  simp [Lib.varintDec, this, unzigzag_zigzag]

/-! ### THE WALKS -/
set_option maxHeartbeats 32000000 in
set_option maxRecDepth 100000 in
theorem uvarint9 (g o n c : Nat) (l : List UInt8) (w : World) (hl : l.length = n) (hcell : ∀ j (hj : j < l.length), w.cell? ⟨g, o + j, none⟩ = some (.int .u8 (l[j]).toNat)) :
    Calls Ybaf.prog 9 #[.slice (some ⟨g, o, none⟩) n c] w fun e w' => e = .returned (.tuple #[.int .u64 (Lib.uvarintDec l).1, .int .i64 (Lib.uvarintDec l).2]) ∧ w' = w := by
  go_enter Ybaf.func9, Ybaf.ntmps9
  go_wp2
  go_loop [4, 5, 10] (fun vx vs vi => ∃ k acc : Nat, vi = .int .i64 k ∧ vs = .int .u64 ((7 * k : Nat) : Int) ∧ vx = .int .u64 acc ∧ k ≤ 10 ∧ k ≤ n ∧ acc < 2 ^ (7 * k) ∧ Lib.uvarintDec l = Lib.uvarintFrom k acc (l.drop k))
    (fun _ _ vi => n - (intOf vi).toNat)
  case atStart => exact ⟨0, 0, rfl, rfl, rfl, by omega, by omega, by decide, rfl⟩
  case round =>
    obtain ⟨k, acc, rfl, rfl, rfl, hk10, hkn, hacc, hdec⟩ := hrel
    by_cases hk : k < n
    · have hc := hcell k (by omega)
      have hdrop : l.drop k = l[k]'(by omega) :: l.drop (k + 1) := List.drop_eq_getElem_cons (by omega)
      rw [hdrop] at hdec
      generalize l[k]'(by omega) = b at hc hdec
      have hb256 : b.toNat < 256 := b.toNat_lt
      clear hcell hdrop
      have hks : k = 0 ∨ k = 1 ∨ k = 2 ∨ k = 3 ∨ k = 4 ∨ k = 5 ∨ k = 6 ∨ k = 7 ∨ k = 8 ∨ k = 9 ∨ k = 10 := by omega
      rcases hks with rfl | rfl | rfl | rfl | rfl | rfl | rfl | rfl | rfl | rfl | rfl
      · obtain rfl : acc = 0 := by simpa using hacc
        have hc0 : w.cell? ⟨g, o, none⟩ = some (.int .u8 b.toNat) := hc
        by_cases hb : b.toNat < 128
        · have hor : bits .or .u64 0 (b.toNat : Int) = (b.toNat : Int) := by
            rw [u64_orv0 _ _ (by omega) (by omega) (by omega) (by omega) (by omega)]
            omega
          have hF : Lib.uvarintFrom 0 0 (b :: l.drop (0 + 1)) = (b.toNat, 1) := by simp [Lib.uvarintFrom, hb]
          rw [hF] at hdec
          go_wp2
          go_ret2
          exact ⟨rfl, rfl⟩
        · have hv : bits .or .u64 0 (IntKind.u64.wrap (IntKind.u64.wrap (bits .and .u8 (b.toNat : Int) 127))) = ((b.toNat % 128 : Nat) : Int) := by
            simp (disch := omega) only [u8_and127, u64_wrap_id, u64_orv0]
            omega
          have hF : Lib.uvarintFrom 0 0 (b :: l.drop (0 + 1)) = Lib.uvarintFrom 1 (b.toNat % 128) (l.drop (0 + 1)) := by simp [Lib.uvarintFrom, hb]
          go_wp2
          refine ⟨⟨1, b.toNat % 128, rfl, rfl, (by first | rfl | (congr 1; omega)), by omega, by omega, ?_, hdec.trans hF⟩, by simp [intOf]; omega⟩
          show b.toNat % 128 < 2 ^ 7
          omega
      · have hacc' : acc < 128 := by simpa using hacc
        by_cases hb : b.toNat < 128
        · have hor : bits .or .u64 (acc : Int) ((b.toNat : Int) * 128) = ((acc + b.toNat * 128 : Nat) : Int) := by
            rw [u64_orv7 _ _ (by omega) (by omega) (by omega) (by omega) (by omega)]
            omega
          have hF : Lib.uvarintFrom 1 acc (b :: l.drop (1 + 1)) = (acc + b.toNat * 128, 2) := by simp [Lib.uvarintFrom, hb]
          rw [hF] at hdec
          go_wp2
          go_ret2
          exact ⟨rfl, rfl⟩
        · have hv : bits .or .u64 (acc : Int) (IntKind.u64.wrap (IntKind.u64.wrap (bits .and .u8 (b.toNat : Int) 127) * 128)) = ((acc + b.toNat % 128 * 128 : Nat) : Int) := by
            simp (disch := omega) only [u8_and127, u64_wrap_id, u64_orv7]
            omega
          have hF : Lib.uvarintFrom 1 acc (b :: l.drop (1 + 1)) = Lib.uvarintFrom 2 (acc + b.toNat % 128 * 128) (l.drop (1 + 1)) := by simp [Lib.uvarintFrom, hb]
          go_wp2
          refine ⟨⟨2, acc + b.toNat % 128 * 128, rfl, rfl, (by first | rfl | (congr 1; omega)), by omega, by omega, ?_, hdec.trans hF⟩, by simp [intOf]; omega⟩
          show acc + b.toNat % 128 * 128 < 2 ^ 14
          have e2 : (2 : Nat) ^ 14 = 16384 := by decide
          omega
      · have hacc' : acc < 16384 := by simpa using hacc
        by_cases hb : b.toNat < 128
        · have hor : bits .or .u64 (acc : Int) ((b.toNat : Int) * 16384) = ((acc + b.toNat * 16384 : Nat) : Int) := by
            rw [u64_orv14 _ _ (by omega) (by omega) (by omega) (by omega) (by omega)]
            omega
          have hF : Lib.uvarintFrom 2 acc (b :: l.drop (2 + 1)) = (acc + b.toNat * 16384, 3) := by simp [Lib.uvarintFrom, hb]
          rw [hF] at hdec
          go_wp2
          go_ret2
          exact ⟨rfl, rfl⟩
        · have hv : bits .or .u64 (acc : Int) (IntKind.u64.wrap (IntKind.u64.wrap (bits .and .u8 (b.toNat : Int) 127) * 16384)) = ((acc + b.toNat % 128 * 16384 : Nat) : Int) := by
            simp (disch := omega) only [u8_and127, u64_wrap_id, u64_orv14]
            omega
          have hF : Lib.uvarintFrom 2 acc (b :: l.drop (2 + 1)) = Lib.uvarintFrom 3 (acc + b.toNat % 128 * 16384) (l.drop (2 + 1)) := by simp [Lib.uvarintFrom, hb]
          go_wp2
          refine ⟨⟨3, acc + b.toNat % 128 * 16384, rfl, rfl, (by first | rfl | (congr 1; omega)), by omega, by omega, ?_, hdec.trans hF⟩, by simp [intOf]; omega⟩
          show acc + b.toNat % 128 * 16384 < 2 ^ 21
          have e2 : (2 : Nat) ^ 21 = 2097152 := by decide
          omega
      · have hacc' : acc < 2097152 := by simpa using hacc
        by_cases hb : b.toNat < 128
        · have hor : bits .or .u64 (acc : Int) ((b.toNat : Int) * 2097152) = ((acc + b.toNat * 2097152 : Nat) : Int) := by
            rw [u64_orv21 _ _ (by omega) (by omega) (by omega) (by omega) (by omega)]
            omega
          have hF : Lib.uvarintFrom 3 acc (b :: l.drop (3 + 1)) = (acc + b.toNat * 2097152, 4) := by simp [Lib.uvarintFrom, hb]
          rw [hF] at hdec
          go_wp2
          go_ret2
          exact ⟨rfl, rfl⟩
        · have hv : bits .or .u64 (acc : Int) (IntKind.u64.wrap (IntKind.u64.wrap (bits .and .u8 (b.toNat : Int) 127) * 2097152)) = ((acc + b.toNat % 128 * 2097152 : Nat) : Int) := by
            simp (disch := omega) only [u8_and127, u64_wrap_id, u64_orv21]
            omega
          have hF : Lib.uvarintFrom 3 acc (b :: l.drop (3 + 1)) = Lib.uvarintFrom 4 (acc + b.toNat % 128 * 2097152) (l.drop (3 + 1)) := by simp [Lib.uvarintFrom, hb]
          go_wp2
          refine ⟨⟨4, acc + b.toNat % 128 * 2097152, rfl, rfl, (by first | rfl | (congr 1; omega)), by omega, by omega, ?_, hdec.trans hF⟩, by simp [intOf]; omega⟩
          show acc + b.toNat % 128 * 2097152 < 2 ^ 28
          have e2 : (2 : Nat) ^ 28 = 268435456 := by decide
          omega
      · have hacc' : acc < 268435456 := by simpa using hacc
        by_cases hb : b.toNat < 128
        · have hor : bits .or .u64 (acc : Int) ((b.toNat : Int) * 268435456) = ((acc + b.toNat * 268435456 : Nat) : Int) := by
            rw [u64_orv28 _ _ (by omega) (by omega) (by omega) (by omega) (by omega)]
            omega
          have hF : Lib.uvarintFrom 4 acc (b :: l.drop (4 + 1)) = (acc + b.toNat * 268435456, 5) := by simp [Lib.uvarintFrom, hb]
          rw [hF] at hdec
          go_wp2
          go_ret2
          exact ⟨rfl, rfl⟩
        · have hv : bits .or .u64 (acc : Int) (IntKind.u64.wrap (IntKind.u64.wrap (bits .and .u8 (b.toNat : Int) 127) * 268435456)) = ((acc + b.toNat % 128 * 268435456 : Nat) : Int) := by
            simp (disch := omega) only [u8_and127, u64_wrap_id, u64_orv28]
            omega
          have hF : Lib.uvarintFrom 4 acc (b :: l.drop (4 + 1)) = Lib.uvarintFrom 5 (acc + b.toNat % 128 * 268435456) (l.drop (4 + 1)) := by simp [Lib.uvarintFrom, hb]
          go_wp2
          refine ⟨⟨5, acc + b.toNat % 128 * 268435456, rfl, rfl, (by first | rfl | (congr 1; omega)), by omega, by omega, ?_, hdec.trans hF⟩, by simp [intOf]; omega⟩
          show acc + b.toNat % 128 * 268435456 < 2 ^ 35
          have e2 : (2 : Nat) ^ 35 = 34359738368 := by decide
          omega
      · have hacc' : acc < 34359738368 := by simpa using hacc
        by_cases hb : b.toNat < 128
        · have hor : bits .or .u64 (acc : Int) ((b.toNat : Int) * 34359738368) = ((acc + b.toNat * 34359738368 : Nat) : Int) := by
            rw [u64_orv35 _ _ (by omega) (by omega) (by omega) (by omega) (by omega)]
            omega
          have hF : Lib.uvarintFrom 5 acc (b :: l.drop (5 + 1)) = (acc + b.toNat * 34359738368, 6) := by simp [Lib.uvarintFrom, hb]
          rw [hF] at hdec
          go_wp2
          go_ret2
          exact ⟨rfl, rfl⟩
        · have hv : bits .or .u64 (acc : Int) (IntKind.u64.wrap (IntKind.u64.wrap (bits .and .u8 (b.toNat : Int) 127) * 34359738368)) = ((acc + b.toNat % 128 * 34359738368 : Nat) : Int) := by
            simp (disch := omega) only [u8_and127, u64_wrap_id, u64_orv35]
            omega
          have hF : Lib.uvarintFrom 5 acc (b :: l.drop (5 + 1)) = Lib.uvarintFrom 6 (acc + b.toNat % 128 * 34359738368) (l.drop (5 + 1)) := by simp [Lib.uvarintFrom, hb]
          go_wp2
          refine ⟨⟨6, acc + b.toNat % 128 * 34359738368, rfl, rfl, (by first | rfl | (congr 1; omega)), by omega, by omega, ?_, hdec.trans hF⟩, by simp [intOf]; omega⟩
          show acc + b.toNat % 128 * 34359738368 < 2 ^ 42
          have e2 : (2 : Nat) ^ 42 = 4398046511104 := by decide
          omega
      · have hacc' : acc < 4398046511104 := by simpa using hacc
        by_cases hb : b.toNat < 128
        · have hor : bits .or .u64 (acc : Int) ((b.toNat : Int) * 4398046511104) = ((acc + b.toNat * 4398046511104 : Nat) : Int) := by
            rw [u64_orv42 _ _ (by omega) (by omega) (by omega) (by omega) (by omega)]
            omega
          have hF : Lib.uvarintFrom 6 acc (b :: l.drop (6 + 1)) = (acc + b.toNat * 4398046511104, 7) := by simp [Lib.uvarintFrom, hb]
          rw [hF] at hdec
          go_wp2
          go_ret2
          exact ⟨rfl, rfl⟩
        · have hv : bits .or .u64 (acc : Int) (IntKind.u64.wrap (IntKind.u64.wrap (bits .and .u8 (b.toNat : Int) 127) * 4398046511104)) = ((acc + b.toNat % 128 * 4398046511104 : Nat) : Int) := by
            simp (disch := omega) only [u8_and127, u64_wrap_id, u64_orv42]
            omega
          have hF : Lib.uvarintFrom 6 acc (b :: l.drop (6 + 1)) = Lib.uvarintFrom 7 (acc + b.toNat % 128 * 4398046511104) (l.drop (6 + 1)) := by simp [Lib.uvarintFrom, hb]
          go_wp2
          refine ⟨⟨7, acc + b.toNat % 128 * 4398046511104, rfl, rfl, (by first | rfl | (congr 1; omega)), by omega, by omega, ?_, hdec.trans hF⟩, by simp [intOf]; omega⟩
          show acc + b.toNat % 128 * 4398046511104 < 2 ^ 49
          have e2 : (2 : Nat) ^ 49 = 562949953421312 := by decide
          omega
      · have hacc' : acc < 562949953421312 := by simpa using hacc
        by_cases hb : b.toNat < 128
        · have hor : bits .or .u64 (acc : Int) ((b.toNat : Int) * 562949953421312) = ((acc + b.toNat * 562949953421312 : Nat) : Int) := by
            rw [u64_orv49 _ _ (by omega) (by omega) (by omega) (by omega) (by omega)]
            omega
          have hF : Lib.uvarintFrom 7 acc (b :: l.drop (7 + 1)) = (acc + b.toNat * 562949953421312, 8) := by simp [Lib.uvarintFrom, hb]
          rw [hF] at hdec
          go_wp2
          go_ret2
          exact ⟨rfl, rfl⟩
        · have hv : bits .or .u64 (acc : Int) (IntKind.u64.wrap (IntKind.u64.wrap (bits .and .u8 (b.toNat : Int) 127) * 562949953421312)) = ((acc + b.toNat % 128 * 562949953421312 : Nat) : Int) := by
            simp (disch := omega) only [u8_and127, u64_wrap_id, u64_orv49]
            omega
          have hF : Lib.uvarintFrom 7 acc (b :: l.drop (7 + 1)) = Lib.uvarintFrom 8 (acc + b.toNat % 128 * 562949953421312) (l.drop (7 + 1)) := by simp [Lib.uvarintFrom, hb]
          go_wp2
          refine ⟨⟨8, acc + b.toNat % 128 * 562949953421312, rfl, rfl, (by first | rfl | (congr 1; omega)), by omega, by omega, ?_, hdec.trans hF⟩, by simp [intOf]; omega⟩
          show acc + b.toNat % 128 * 562949953421312 < 2 ^ 56
          have e2 : (2 : Nat) ^ 56 = 72057594037927936 := by decide
          omega
      · have hacc' : acc < 72057594037927936 := by simpa using hacc
        by_cases hb : b.toNat < 128
        · have hor : bits .or .u64 (acc : Int) ((b.toNat : Int) * 72057594037927936) = ((acc + b.toNat * 72057594037927936 : Nat) : Int) := by
            rw [u64_orv56 _ _ (by omega) (by omega) (by omega) (by omega) (by omega)]
            omega
          have hF : Lib.uvarintFrom 8 acc (b :: l.drop (8 + 1)) = (acc + b.toNat * 72057594037927936, 9) := by simp [Lib.uvarintFrom, hb]
          rw [hF] at hdec
          go_wp2
          go_ret2
          exact ⟨rfl, rfl⟩
        · have hv : bits .or .u64 (acc : Int) (IntKind.u64.wrap (IntKind.u64.wrap (bits .and .u8 (b.toNat : Int) 127) * 72057594037927936)) = ((acc + b.toNat % 128 * 72057594037927936 : Nat) : Int) := by
            simp (disch := omega) only [u8_and127, u64_wrap_id, u64_orv56]
            omega
          have hF : Lib.uvarintFrom 8 acc (b :: l.drop (8 + 1)) = Lib.uvarintFrom 9 (acc + b.toNat % 128 * 72057594037927936) (l.drop (8 + 1)) := by simp [Lib.uvarintFrom, hb]
          go_wp2
          refine ⟨⟨9, acc + b.toNat % 128 * 72057594037927936, rfl, rfl, (by first | rfl | (congr 1; omega)), by omega, by omega, ?_, hdec.trans hF⟩, by simp [intOf]; omega⟩
          show acc + b.toNat % 128 * 72057594037927936 < 2 ^ 63
          have e2 : (2 : Nat) ^ 63 = 9223372036854775808 := by decide
          omega
      · have hacc' : acc < 9223372036854775808 := by simpa using hacc
        by_cases hb : b.toNat < 128
        · by_cases hb1 : 1 < b.toNat
          · -- THE TENTH BYTE MAY BEAR ONE BIT: OVERFLOW
            have hF : Lib.uvarintFrom 9 acc (b :: l.drop (9 + 1)) = (0, -10) := by simp [Lib.uvarintFrom, hb, hb1]
            rw [hF] at hdec
            go_wp2
            go_ret2
            exact ⟨rfl, rfl⟩
          · have hor : bits .or .u64 (acc : Int) ((b.toNat : Int) * 9223372036854775808) = ((acc + b.toNat * 9223372036854775808 : Nat) : Int) := by
              rw [u64_orv63 _ _ (by omega) (by omega) (by omega) (by omega) (by omega)]
              omega
            have hF : Lib.uvarintFrom 9 acc (b :: l.drop (9 + 1)) = (acc + b.toNat * 9223372036854775808, 10) := by simp [Lib.uvarintFrom, hb, hb1]
            rw [hF] at hdec
            go_wp2
            go_ret2
            exact ⟨rfl, rfl⟩
        · -- THE TENTH BYTE BEARS THE BIT 128: '<< 63' WRAPS: what is gathered counts no more
          obtain ⟨a2, ha2⟩ : ∃ a2 : Nat, bits .or .u64 (acc : Int) (IntKind.u64.wrap (IntKind.u64.wrap (bits .and .u8 (b.toNat : Int) 127) * 9223372036854775808)) = (a2 : Int) := ⟨_, (Int.toNat_of_nonneg (bits_lo_u64 _ _ _)).symm⟩
          have hhi := bits_hi_u64 .or (acc : Int) (IntKind.u64.wrap (IntKind.u64.wrap (bits .and .u8 (b.toNat : Int) 127) * 9223372036854775808))
          have hF : Lib.uvarintFrom 9 acc (b :: l.drop (9 + 1)) = Lib.uvarintFrom 10 a2 (l.drop (9 + 1)) := by
            rw [Lib.uvarintFrom_ten a2 (acc + b.toNat % 128 * 9223372036854775808)]
            simp [Lib.uvarintFrom, hb]
          go_wp2
          refine ⟨⟨10, a2, rfl, rfl, (by first | rfl | (congr 1; omega)), by omega, by omega, ?_, hdec.trans hF⟩, by simp [intOf]; omega⟩
          show a2 < 2 ^ 70
          have e2 : (2 : Nat) ^ 70 = 1180591620717411303424 := by decide
          omega
      · -- AN ELEVENTH BYTE: OVERFLOW
        have hF : Lib.uvarintFrom 10 acc (b :: l.drop (10 + 1)) = (0, -11) := by simp [Lib.uvarintFrom]
        rw [hF] at hdec
        go_wp2
        go_ret2
        exact ⟨rfl, rfl⟩
    · -- THE BYTES ARE AT AN END: buf too small
      have hkn2 : k = n := by omega
      subst hkn2
      have hF : Lib.uvarintFrom k acc (l.drop k) = (0, 0) := by rw [List.drop_eq_nil_of_le (by omega)]; rfl
      rw [hF] at hdec
      go_wp2
      go_ret2
      exact ⟨rfl, rfl⟩

set_option maxHeartbeats 8000000 in
set_option maxRecDepth 100000 in
theorem varint10 (g o n c : Nat) (l : List UInt8) (w : World) (hl : l.length = n) (hcell : ∀ j (hj : j < l.length), w.cell? ⟨g, o + j, none⟩ = some (.int .u8 (l[j]).toNat)) :
    Calls Ybaf.prog 10 #[.slice (some ⟨g, o, none⟩) n c] w fun e w' => e = .returned (.tuple #[.int .i64 (Lib.varintDec l).1, .int .i64 (Lib.varintDec l).2]) ∧ w' = w := by
  have hU := uvarint9 g o n c l w hl hcell
  have hu := Lib.uvarintDec_lt l
  obtain ⟨u, m, hd⟩ : ∃ u m, Lib.uvarintDec l = (u, m) := ⟨_, _, rfl⟩
  have hvd : Lib.varintDec l = (Lib.unzigzag u, m) := by simp [Lib.varintDec, hd]
  rw [hd] at hU hu
  rw [hvd]
  have hu' : u < 18446744073709551616 := hu
  have hand := Lib.u64_and1 (u : Int) (by omega) (by omega)
  by_cases hodd : u % 2 = 0
  · have hand0 : bits .and .u64 (u : Int) 1 = 0 := by rw [hand]; omega
    have hz : Lib.unzigzag u = (u : Int) / 2 := by simp [Lib.unzigzag, hodd]
    rw [hz]
    clear hand
    go_enter Ybaf.func10, Ybaf.ntmps10
    go_wp2_with (go_at_call 9; refine hU.mono ?_; rintro e w1 ⟨rfl, rfl⟩)
    go_ret2
    exact ⟨rfl, rfl⟩
  · have hand1 : bits .and .u64 (u : Int) 1 = 1 := by rw [hand]; omega
    have hnot : bits .xor .i64 (-1) ((u : Int) / 2) = -((u : Int) / 2) - 1 := by
      have h3 := Lib.i64_not (u / 2) (by omega)
      rw [show (((u / 2 : Nat) : Int)) = (u : Int) / 2 by omega] at h3
      exact h3
    have hz : Lib.unzigzag u = -((u : Int) / 2) - 1 := by simp [Lib.unzigzag, hodd]
    rw [hz]
    clear hand
    go_enter Ybaf.func10, Ybaf.ntmps10
    go_wp2_with (go_at_call 9; refine hU.mono ?_; rintro e w1 ⟨rfl, rfl⟩)
    go_ret2
    exact ⟨rfl, rfl⟩

end Go.Proofs.YbulkbkjuFmt
