/-
  Pointers compared; the two closures (12, 7); IndexFunc (19, 10); ContainsFunc (6).
-/
import Derived.Test.YbulkbkkwGreatDoorFnA
namespace Go.Proofs.YbulkbkkwGreatDoor
open Go.RowKit
set_option linter.unusedVariables false

theorem info54 : (Ybaz.prog.info? 54).map (·.size) = some 14 := by kernel_rfl
theorem info50 : (Ybaz.prog.info? 50).map (·.size) = some 11 := by kernel_rfl
theorem sameP_eq (t e k : Nat) (ht : Ybaz.prog.underlying t = some (.pointer e)) (he : (Ybaz.prog.info? e).map (·.size) = some (k + 1)) (sa : Nat) (w : World) : ∀ d, (Op.equalIn (d + 1) t (.pointer (some ⟨sa, 0, none⟩)) (.pointer (some ⟨sa, 0, none⟩))).run Ybaz.prog w = .ok true w := fun d => by
  obtain ⟨j, hj, _⟩ : ∃ j, Ybaz.prog.info? e = some j ∧ j.size = k + 1 := by simpa using he
  simp [Op.equalIn, run_underlying ht, typeInfo, sizeOf, hj, run_sameAddr_same]
theorem otherP_eq (t e k : Nat) (ht : Ybaz.prog.underlying t = some (.pointer e)) (he : (Ybaz.prog.info? e).map (·.size) = some (k + 1)) (sa sb : Nat) (w : World) {ca cb : Array Value} {ta tb : TypeId} (hne : sb ≠ sa) (ha : w.heap[sa]? = some (.cells ca ta (0, 0))) (hb : w.heap[sb]? = some (.cells cb tb (0, 0))) : ∀ d, (Op.equalIn (d + 1) t (.pointer (some ⟨sb, 0, none⟩)) (.pointer (some ⟨sa, 0, none⟩))).run Ybaz.prog w = .ok false w := fun d => by
  obtain ⟨j, hj, hs⟩ : ∃ j, Ybaz.prog.info? e = some j ∧ j.size = k + 1 := by simpa using he
  simp [Op.equalIn, run_underlying ht, typeInfo, sizeOf, hj, hs, run_sameAddr_other w (a := ⟨sb, 0, none⟩) (b := ⟨sa, 0, none⟩) (fun e => hne (congrArg Addr.block e)) hb ha]

theorem eq51_same (sa : Nat) (w : World) : (binOp .eql 51 (.pointer (some ⟨sa, 0, none⟩)) (.pointer (some ⟨sa, 0, none⟩))).run Ybaz.prog w = .ok (.bool true) w := by
  simp only [binOp]
  simp [Op.equal, Op.maxDepth, sameP_eq 51 54 13 Ybaz.underlying51 info54 sa w 9999]
theorem eq51_other (sa sb : Nat) (w : World) {ca cb : Array Value} {ta tb : TypeId} (hne : sb ≠ sa) (ha : w.heap[sa]? = some (.cells ca ta (0, 0))) (hb : w.heap[sb]? = some (.cells cb tb (0, 0))) : (binOp .eql 51 (.pointer (some ⟨sb, 0, none⟩)) (.pointer (some ⟨sa, 0, none⟩))).run Ybaz.prog w = .ok (.bool false) w := by
  simp only [binOp]
  simp [Op.equal, Op.maxDepth, otherP_eq 51 54 13 Ybaz.underlying51 info54 sa sb w hne ha hb 9999]
theorem ne51_same (sa : Nat) (w : World) : (binOp .neq 51 (.pointer (some ⟨sa, 0, none⟩)) (.pointer (some ⟨sa, 0, none⟩))).run Ybaz.prog w = .ok (.bool false) w := by
  simp only [binOp]
  simp [Op.equal, Op.maxDepth, sameP_eq 51 54 13 Ybaz.underlying51 info54 sa w 9999]
theorem ne51_other (sa sb : Nat) (w : World) {ca cb : Array Value} {ta tb : TypeId} (hne : sb ≠ sa) (ha : w.heap[sa]? = some (.cells ca ta (0, 0))) (hb : w.heap[sb]? = some (.cells cb tb (0, 0))) : (binOp .neq 51 (.pointer (some ⟨sb, 0, none⟩)) (.pointer (some ⟨sa, 0, none⟩))).run Ybaz.prog w = .ok (.bool true) w := by
  simp only [binOp]
  simp [Op.equal, Op.maxDepth, otherP_eq 51 54 13 Ybaz.underlying51 info54 sa sb w hne ha hb 9999]
theorem eq46_same (sa : Nat) (w : World) : (binOp .eql 46 (.pointer (some ⟨sa, 0, none⟩)) (.pointer (some ⟨sa, 0, none⟩))).run Ybaz.prog w = .ok (.bool true) w := by
  simp only [binOp]
  simp [Op.equal, Op.maxDepth, sameP_eq 46 50 10 Ybaz.underlying46 info50 sa w 9999]
theorem eq46_other (sa sb : Nat) (w : World) {ca cb : Array Value} {ta tb : TypeId} (hne : sb ≠ sa) (ha : w.heap[sa]? = some (.cells ca ta (0, 0))) (hb : w.heap[sb]? = some (.cells cb tb (0, 0))) : (binOp .eql 46 (.pointer (some ⟨sb, 0, none⟩)) (.pointer (some ⟨sa, 0, none⟩))).run Ybaz.prog w = .ok (.bool false) w := by
  simp only [binOp]
  simp [Op.equal, Op.maxDepth, otherP_eq 46 50 10 Ybaz.underlying46 info50 sa sb w hne ha hb 9999]
theorem eq46_none (sa : Nat) (w : World) : (binOp .eql 46 (.pointer none) (.pointer (some ⟨sa, 0, none⟩))).run Ybaz.prog w = .ok (.bool false) w := by kernel_rfl

def Is54 (w : World) (x : Nat) : Prop := ∃ C, w.heap[x]? = some (.cells C 54 (0, 0))
theorem eq51 (x m : Nat) (w : World) (hx : Is54 w x) (hm : Is54 w m) : (binOp .eql 51 (.pointer (some ⟨x, 0, none⟩)) (.pointer (some ⟨m, 0, none⟩))).run Ybaz.prog w = .ok (.bool (decide (x = m))) w := by
  obtain ⟨C, hx⟩ := hx
  obtain ⟨D, hm⟩ := hm
  by_cases h : x = m
  · subst h; rw [eq51_same]; simp
  · rw [eq51_other m x w h hm hx]; simp [h]
theorem ne51 (x m : Nat) (w : World) (hx : Is54 w x) (hm : Is54 w m) : (binOp .neq 51 (.pointer (some ⟨x, 0, none⟩)) (.pointer (some ⟨m, 0, none⟩))).run Ybaz.prog w = .ok (.bool (!decide (x = m))) w := by
  obtain ⟨C, hx⟩ := hx
  obtain ⟨D, hm⟩ := hm
  by_cases h : x = m
  · subst h; rw [ne51_same]; simp
  · rw [ne51_other m x w h hm hx]; simp [h]

/-- x == m -/
theorem is12 (cb x : Nat) (m : Nat) (w : World) (hc : w.cell? ⟨cb, 0, none⟩ = some (.pointer (some ⟨m, 0, none⟩))) (hx : Is54 w x) (hm : Is54 w m) :
    Calls Ybaz.prog 12 #[.pointer (some ⟨x, 0, none⟩), .pointer (some ⟨cb, 0, none⟩)] w fun e w' => e = .returned (.bool (decide (x = m))) ∧ w' = w := by
  have he := eq51 x m w hx hm
  go_enter Ybaz.func12, Ybaz.ntmps12
  go_wp2
  go_ret
  exact ⟨rfl, rfl⟩

/-- The first place where f holds, or -1. -/
def Found (f : Nat → Bool) (n : Nat) (k : Int) : Prop := (k = -1 ∧ ∀ i, i < n → f i = false) ∨ ∃ i, i < n ∧ k = i ∧ f i = true ∧ ∀ j, j < i → f j = false

theorem find19 (pb n c cb m : Nat) (xb : Nat → Nat) (w : World) (hn : n ≤ 1024) (hc : w.cell? ⟨cb, 0, none⟩ = some (.pointer (some ⟨m, 0, none⟩))) (hm : Is54 w m)
    (hp : ∀ i, i < n → w.cell? ⟨pb, i, none⟩ = some (.pointer (some ⟨xb i, 0, none⟩))) (hx : ∀ i, i < n → Is54 w (xb i)) :
    Calls Ybaz.prog 19 #[.slice (some ⟨pb, 0, none⟩) n c, .func (.func 12) #[] #[.pointer (some ⟨cb, 0, none⟩)]] w fun e w' => ∃ k, e = .returned (.int .i64 k) ∧ Found (fun i => decide (xb i = m)) n k ∧ w' = w := by
  have HP : Hid _ := And.intro hp hx
  clear hp hx
  go_enter Ybaz.func19, Ybaz.ntmps19
  go_wp2_with fail
  go_loopw [8] (fun i wr => ∃ j : Nat, j ≤ n ∧ i = .int .i64 j ∧ (∀ l, l < j → decide (xb l = m) = false) ∧ wr = w) (fun i _ => n - (intOf i).toNat)
  case atStart => exact ⟨0, Nat.zero_le _, rfl, fun l hl => by omega, rfl⟩
  case round =>
    obtain ⟨j, hj, rfl, hf, rfl⟩ := hrel
    have HF : Hid _ := hf
    clear hf
    by_cases hlt : j < n
    · have hk' : (j : Int) < n := by omega
      have hpj := HP.out.1 j hlt
      cases hb : decide (xb j = m) with
      | true =>
        go_wp2_with (go_at_call 12; refine (is12 cb (xb j) m _ hc (HP.out.2 j hlt) hm).mono ?_; rintro e w1 ⟨rfl, rfl⟩; rw [hb])
        go_ret
        exact ⟨_, rfl, .inr ⟨j, hlt, rfl, hb, HF.out⟩, rfl⟩
      | false =>
        go_wp2_with (go_at_call 12; refine (is12 cb (xb j) m _ hc (HP.out.2 j hlt) hm).mono ?_; rintro e w1 ⟨rfl, rfl⟩; rw [hb])
        go_roundw
        · exact ⟨j + 1, by omega, by go_num, fun l hl => by
            by_cases h : l = j
            · subst h; exact hb
            · exact HF.out l (by omega), trivial⟩
        · simp [intOf]; omega
    · obtain rfl : j = n := by omega
      have hkk : ¬ (j : Int) < j := by omega
      go_wp2
      go_ret
      exact ⟨_, rfl, .inl ⟨rfl, HF.out⟩, rfl⟩
end Go.Proofs.YbulkbkkwGreatDoor
