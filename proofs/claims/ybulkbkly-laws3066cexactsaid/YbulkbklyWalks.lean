/-
  printable (function 5) and the table zzs3066cmodel (function 6): each computes 'prt'.
-/
import Derived.Test.YbulkbklyRows
import Derived.WalkKit
import Derived.OpenShut
namespace Go.Proofs.Ybulkbkly
open Go.RowKit

/-- A printable ASCII character stays; all else is a period. -/
def prt (r : Int) : Int := if 32 ≤ r ∧ r ≤ 126 then r else 46
theorem prt_in {r : Int} (h1 : 32 ≤ r) (h2 : r ≤ 126) : prt r = r := if_pos ⟨h1, h2⟩
theorem prt_lo {r : Int} (h : r < 32) : prt r = 46 := if_neg (by omega)
theorem prt_hi {r : Int} (h : 126 < r) : prt r = 46 := if_neg (by omega)

theorem pr5 (r : Int) (w : World) : Calls Yba.prog 5 #[.int .i32 r] w fun e w' => e = .returned (.int .u8 (prt r)) ∧ w' = w := by
  by_cases h1 : 32 ≤ r
  · by_cases h2 : r ≤ 126
    · rw [prt_in h1 h2]
      go_enter Yba.func5, Yba.ntmps5
      go_wp2
      go_ret
      exact ⟨rfl, rfl⟩
    · rw [prt_hi (by omega)]
      go_enter Yba.func5, Yba.ntmps5
      go_wp2
      go_ret
      exact ⟨rfl, rfl⟩
  · rw [prt_lo (by omega)]
    go_enter Yba.func5, Yba.ntmps5
    go_wp2
    go_ret
    exact ⟨rfl, rfl⟩

set_option maxHeartbeats 800000 in
theorem model6 (r : Int) (w : World) : Calls Yba.prog 6 #[.int .i32 r] w fun e w' => e = .returned (.int .u8 (prt r)) ∧ w' = w := by
  by_cases h1 : r < 0
  · rw [prt_lo (by omega)]
    go_enter Yba.func6, Yba.ntmps6
    go_wp2
    go_ret
    exact ⟨rfl, rfl⟩
  by_cases h2 : 127 < r
  · rw [prt_hi (by omega)]
    go_enter Yba.func6, Yba.ntmps6
    go_wp2
    go_ret
    exact ⟨rfl, rfl⟩
  have g1 : 0 ≤ r := by omega
  have g2 : r ≤ 127 := by omega
  go_enter Yba.func6, Yba.ntmps6
  go_wp2
  go_loop [3, 4] (fun c i => ∃ k : Nat, k ≤ 95 ∧ i = .int .i64 k ∧ c = .int .u8 (32 + (k : Int)) ∧ (r < 32 ∨ 32 + (k : Int) ≤ r)) (fun _ i => 95 - (intOf i).toNat)
  case atStart => exact ⟨0, by omega, rfl, rfl, by omega⟩
  case round =>
    obtain ⟨k, hk, rfl, rfl, hr⟩ := hrel
    have HR : Hid _ := hr
    clear hr
    by_cases hlt : k < 95
    · by_cases he : 32 + (k : Int) = r
      · have hp : prt r = r := prt_in (by omega) (by omega)
        have he' : ((32 + (k : Int)) == r) = true := by simpa using he
        have HE : Hid _ := he
        have HP : Hid _ := hp
        clear he hp
        go_wp2
        go_ret
        exact ⟨by rw [HP.out, HE.out]; rfl, rfl⟩
      · have he' : ((32 + (k : Int)) == r) = false := by simpa using he
        clear he
        go_wp2
        go_round
        case rel =>
          have h := HR.out
          have : ¬ (32 + (k : Int)) = r := by simpa using he'
          exact ⟨k + 1, by omega, by go_num, by go_num, by omega⟩
        case measure => simp [intOf]; omega
    · have hp : prt r = 46 := by
        have h := HR.out
        rcases h with h | h
        · exact prt_lo h
        · exact prt_hi (by omega)
      have HP : Hid _ := hp
      clear hp
      go_wp2
      go_ret
      exact ⟨by rw [HP.out]; rfl, rfl⟩

end Go.Proofs.Ybulkbkly
