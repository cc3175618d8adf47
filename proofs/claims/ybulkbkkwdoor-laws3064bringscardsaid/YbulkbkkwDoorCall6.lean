/-
  withdrawAll (function 6) as LawS3064BPairwise calls it.
-/
import Derived.Test.YbulkbkkwDoorAll
import Derived.Test.YbulkbkkwDoorMsgok
import Derived.Test.YbulkbkkwDoorTable3
namespace Go.Proofs.YbulkbkkwDoor
open Go.RowKit
set_option linter.unusedVariables false

theorem call6_idle (number : Int) (eb nb mb tb fb : Nat) (w : World) (hN : NodeAt 0 number eb nb w) (h6 : w.cell? ⟨mb, 6, none⟩ = some (.pointer (some ⟨tb, 0, none⟩))) (h0 : w.cell? ⟨mb, 0, none⟩ = some (.pointer (some ⟨fb, 0, none⟩)))
    (hi : w.cell? ⟨tb, 4, none⟩ = some (.pointer none) ∨ ∃ sb, w.cell? ⟨tb, 4, none⟩ = some (.pointer (some ⟨sb, 0, none⟩)) ∧ w.cell? ⟨tb, 10, none⟩ = some (.bool true)) :
    Calls Ybad.prog 6 #[.pointer (some ⟨nb, 0, none⟩), .pointer (some ⟨mb, 0, none⟩)] w fun e w' => e = .returned (.tuple #[]) ∧ w' = w.drew := by
  refine all_pair number eb nb mb tb fb w (fun w' => w' = w.drew) hN h6 h0 ?_
  rcases hi with h | ⟨sb, h1, h2⟩
  · exact withdraw_none nb tb 0 _ w.drew h
  · exact withdraw_done nb tb 0 sb _ w.drew h1 h2

theorem env_start {B eb : Nat} {w : World} (h : w.heap[eb]? = some (.cells #[.slice none 0 0, .slice none 0 0] 26 (0, 0))) (hB : eb < B) : EnvAt B eb w 0 [] [] :=
  ⟨_, _, h, hB, ⟨by simp, .inl ⟨rfl, rfl⟩⟩, ⟨by simp, .inl ⟨rfl, rfl⟩⟩⟩

theorem call6_act (number : Int) (eb nb mb tb fb sb : Nat) (arr : Array Value) (nid sw : ByteArray) (f : Nat → Value) (w : World) (hN : NodeAt 0 number eb nb w) (h6 : w.cell? ⟨mb, 6, none⟩ = some (.pointer (some ⟨tb, 0, none⟩))) (h0 : w.cell? ⟨mb, 0, none⟩ = some (.pointer (some ⟨fb, 0, none⟩)))
    (he : w.heap[eb]? = some (.cells #[.slice none 0 0, .slice none 0 0] 26 (0, 0))) (htb : w.heap[tb]? = some (.cells arr 71 (0, 0))) (hte : tb ≠ eb) (h4 : arr[4]? = some (.pointer (some ⟨sb, 0, none⟩))) (h10 : arr[10]? = some (.bool false))
    (hf : w.cell? ⟨fb, 0, none⟩ = some (.string nid)) (hs : w.cell? ⟨sb, 0, none⟩ = some (.string sw)) (hf1 : ∀ i, (f i).oneCell' = true)
    (hring : arr[9]? = some (.pointer none) ∧ w.rangeAt 0 0 (ids16 f) ∨ ∃ rb, arr[9]? = some (.pointer (some ⟨rb, 0, none⟩)) ∧ w.rangeAt rb 33 (ids16 f)) :
    Calls Ybad.prog 6 #[.pointer (some ⟨nb, 0, none⟩), .pointer (some ⟨mb, 0, none⟩)] w fun e w' => e = .returned (.tuple #[]) ∧ EnvAt w.heap.size eb w' 1 [.string nid] (msg number sw f).toList ∧ KeptX (fun x => x = eb ∨ x = tb) w.heap.size w w' ∧ w'.heap[tb]? = some (.cells (arr.setIfInBounds 10 (.bool true)) 71 (0, 0)) := by
  have heB : eb < w.heap.size := (Array.getElem?_eq_some_iff.1 he).1
  have htB : tb < w.heap.size := (Array.getElem?_eq_some_iff.1 htb).1
  have c9 : ∀ v, arr[9]? = some v → w.cell? ⟨tb, 0 + 9, none⟩ = some v := fun v h => by rw [cell_of_row _ _ _ _ 71 (0, 0) htb]; exact h
  refine all_pair number eb nb mb tb fb w (fun w' => EnvAt w.heap.size eb w' 1 [.string nid] (msg number sw f).toList ∧ KeptX (fun x => x = eb ∨ x = tb) w.heap.size w w' ∧ w'.heap[tb]? = some (.cells (arr.setIfInBounds 10 (.bool true)) 71 (0, 0))) hN h6 h0 ?_
  refine (withdraw_act 0 number w.heap.size eb nb fb sb tb 0 0 71 arr nid sw f [] [] w.drew (by omega) (Nat.le_refl _) (env_start he heB) hN htb htB hte h4 h10 hf hs ?_ hf1).mono ?_
  · intro w1 hb
    have hb' : Below w.heap.size w w1 := ((Below.refl w.heap.size w).drew).trans hb
    rcases hring with ⟨h1, h2⟩ | ⟨rb, h1, h2⟩
    · exact ringID_none tb 0 (ids16 f) w1 rfl (ids16_one f hf1) ((hb'.cell (p := ⟨tb, 0 + 9, none⟩) htB).trans (c9 _ h1)) (rangeAt_below h2 hb')
    · exact ringID_some tb 0 rb (ids16 f) w1 rfl (ids16_one f hf1) ((hb'.cell (p := ⟨tb, 0 + 9, none⟩) htB).trans (c9 _ h1)) (rangeAt_below h2 hb')
  · rintro e w' ⟨rfl, g1, g2, g3⟩
    exact ⟨rfl, g1, (KeptX.drew _ _ w).trans g2, g3⟩
end Go.Proofs.YbulkbkkwDoor
