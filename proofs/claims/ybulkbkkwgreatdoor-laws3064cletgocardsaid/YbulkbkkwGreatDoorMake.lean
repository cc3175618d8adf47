/-
  What the law makes: rows, and a row that is appended to in place.
-/
import Derived.Test.YbulkbkkwGreatDoorFnF
import Derived.Laws.MakeOwn
namespace Go.Proofs.YbulkbkkwGreatDoor
open Go.RowKit
set_option linter.unusedVariables false

theorem run_append_in {P : Program} (w : World) (t ty e : TypeId) (i : TypeInfo) (ht : P.underlying t = some (.slice e)) (hi : P.info? e = some i) (hs : i.size = 1) (g s k cap : Nat) (v : Value) (hk : k < cap) (hv : w.cell? ⟨s, 0, none⟩ = some v) (hc : (w.cell? ⟨g, k, none⟩).isSome = true) (hfz : w.frozen? ⟨g, k, none⟩ = false) (h1 : v.oneCell' = true) :
    (Builtin.append_ #[t, t] ty #[.slice (some ⟨g, 0, none⟩) k cap, .slice (some ⟨s, 0, none⟩) 1 1]).run P w = .ok (.slice (some ⟨g, 0, none⟩) (k + 1) cap) (w.setCell ⟨g, k, none⟩ v) := by
  have hf := run_firstCells_some (P := P) w i.size 1 ⟨s, 0, none⟩ 1 1 [v] (by simp [hs]) (fun j u hu => by
    cases j with
    | zero => simp at hu; subst hu; exact hv
    | succ j => simp at hu)
  have hst := run_storeCells_cells (P := P) g k [v] 0 w (fun j hj => by
    obtain rfl : j = 0 := by simpa using hj
    exact hc) (fun j hj => by
    obtain rfl : j = 0 := by simpa using hj
    exact hfz) (by simpa using h1)
  simp only [Nat.add_zero] at hst
  have hroom : k + 1 ≤ cap := hk
  rw [hs] at hf
  simp [Builtin.append_, run_underlying ht, sizeOf, typeInfo, hi, hs, Builtin.lenOf, hroom, hf, Addr.add_lit, hst]
  rfl
theorem info_parts {P : Program} {e : TypeId} {z : Value} {s b : Nat} (h : (P.info? e).map (fun i => (i.zero, i.size, i.bytes)) = some (some z, s, b)) : ∃ i, P.info? e = some i ∧ i.zero = some z ∧ i.size = s ∧ i.bytes = b := by
  cases hq : P.info? e with
  | none => rw [hq] at h; cases h
  | some i =>
    rw [hq] at h
    have h2 := Option.some.inj h
    exact ⟨i, rfl, congrArg (·.1) h2, congrArg (·.2.1) h2, congrArg (·.2.2) h2⟩
theorem inf51 : (Ybaz.prog.info? 51).map (fun i => (i.zero, i.size, i.bytes)) = some (some (.pointer none), 1, 8) := by kernel_rfl
theorem inf52 : (Ybaz.prog.info? 52).map (fun i => (i.zero, i.size, i.bytes)) = some (some (.pointer none), 1, 8) := by kernel_rfl

theorem make31 (l n : Nat) (hln : l ≤ n) (hl : n ≤ 1024) : ∃ arr : Array Value, arr.size = n ∧ ∀ w, (Instr.makeSlice 31 (.int .i64 l) (.int .i64 n)).run Ybaz.prog w = .ok (.slice (some ⟨w.heap.size, 0, none⟩) l n) (w.alloc (.cells arr 51)) := by
  obtain ⟨i, hi, hz, hs, hb⟩ := info_parts inf51
  refine ⟨madeCells (Value.pointer none).cells (n * i.size), ?_, fun w => ?_⟩
  · rw [hs]; simp [madeCells]
  · have := run_make (P := Ybaz.prog) w 31 51 i _ Ybaz.underlying31 hi hz .i64 .i64 l n (by omega) (by omega) (by rw [hb]; omega) (by omega)
    simpa using this
theorem make25 (l n : Nat) (hln : l ≤ n) (hl : n ≤ 1024) : ∃ arr : Array Value, arr.size = n ∧ ∀ w, (Instr.makeSlice 25 (.int .i64 l) (.int .i64 n)).run Ybaz.prog w = .ok (.slice (some ⟨w.heap.size, 0, none⟩) l n) (w.alloc (.cells arr 52)) := by
  obtain ⟨i, hi, hz, hs, hb⟩ := info_parts inf52
  refine ⟨madeCells (Value.pointer none).cells (n * i.size), ?_, fun w => ?_⟩
  · rw [hs]; simp [madeCells]
  · have := run_make (P := Ybaz.prog) w 25 52 i _ Ybaz.underlying25 hi hz .i64 .i64 l n (by omega) (by omega) (by rw [hb]; omega) (by omega)
    simpa using this
theorem app31 (w : World) (ty : TypeId) (g s k cap : Nat) (p : Option Addr) (hk : k < cap) (hv : w.cell? ⟨s, 0, none⟩ = some (.pointer p)) (hc : (w.cell? ⟨g, k, none⟩).isSome = true) (hfz : w.frozen? ⟨g, k, none⟩ = false) :
    (Builtin.append_ #[31, 31] ty #[.slice (some ⟨g, 0, none⟩) k cap, .slice (some ⟨s, 0, none⟩) 1 1]).run Ybaz.prog w = .ok (.slice (some ⟨g, 0, none⟩) (k + 1) cap) (w.setCell ⟨g, k, none⟩ (.pointer p)) := by
  obtain ⟨i, hi, hz, hs, hb⟩ := info_parts inf51
  exact run_append_in w 31 ty 51 i Ybaz.underlying31 hi hs g s k cap _ hk hv hc hfz rfl
theorem app25 (w : World) (ty : TypeId) (g s k cap : Nat) (p : Option Addr) (hk : k < cap) (hv : w.cell? ⟨s, 0, none⟩ = some (.pointer p)) (hc : (w.cell? ⟨g, k, none⟩).isSome = true) (hfz : w.frozen? ⟨g, k, none⟩ = false) :
    (Builtin.append_ #[25, 25] ty #[.slice (some ⟨g, 0, none⟩) k cap, .slice (some ⟨s, 0, none⟩) 1 1]).run Ybaz.prog w = .ok (.slice (some ⟨g, 0, none⟩) (k + 1) cap) (w.setCell ⟨g, k, none⟩ (.pointer p)) := by
  obtain ⟨i, hi, hz, hs, hb⟩ := info_parts inf52
  exact run_append_in w 25 ty 52 i Ybaz.underlying25 hi hs g s k cap _ hk hv hc hfz rfl
end Go.Proofs.YbulkbkkwGreatDoor
