/-
  withdrawAll (function 6) with rings: one message for each ring that asks of the member's swarm and was not withdrawn, in the rings' order; each such ring is marked; nothing else turns.
-/
import Derived.Test.YbulkbkkwDoorAll
import Derived.Test.YbulkbkkwDoorOps3
import Derived.LaidEql
import Derived.BigQuiet
namespace Go.Proofs.YbulkbkkwDoor
open Go.RowKit
set_option linter.unusedVariables false

theorem info48 : (Ybad.prog.info? 48).map (·.size) = some 11 := by kernel_rfl
theorem eqP_none (sa : Nat) (w : World) : (binOp .eql 41 (.pointer none) (.pointer (some ⟨sa, 0, none⟩))).run Ybad.prog w = .ok (.bool false) w := by kernel_rfl
theorem eqP_same (sa : Nat) (w : World) : (binOp .eql 41 (.pointer (some ⟨sa, 0, none⟩)) (.pointer (some ⟨sa, 0, none⟩))).run Ybad.prog w = .ok (.bool true) w := by
  obtain ⟨j, hj, _⟩ : ∃ j, Ybad.prog.info? 48 = some j ∧ j.size = 11 := by simpa using info48
  have h : ∀ d, (Op.equalIn (d + 1) 41 (.pointer (some ⟨sa, 0, none⟩)) (.pointer (some ⟨sa, 0, none⟩))).run Ybad.prog w = .ok true w := fun d => by
    simp [Op.equalIn, run_underlying Ybad.underlying41, typeInfo, sizeOf, hj, run_sameAddr_same]
  simp only [binOp]
  simp [Op.equal, Op.maxDepth, h 9999]
theorem eqP_other (sa sb : Nat) (w : World) {ca cb : Array Value} {ta tb : TypeId} (hne : sb ≠ sa) (ha : w.heap[sa]? = some (.cells ca ta (0, 0))) (hb : w.heap[sb]? = some (.cells cb tb (0, 0))) : (binOp .eql 41 (.pointer (some ⟨sb, 0, none⟩)) (.pointer (some ⟨sa, 0, none⟩))).run Ybad.prog w = .ok (.bool false) w := by
  obtain ⟨j, hj, hs⟩ : ∃ j, Ybad.prog.info? 48 = some j ∧ j.size = 11 := by simpa using info48
  have h : ∀ d, (Op.equalIn (d + 1) 41 (.pointer (some ⟨sb, 0, none⟩)) (.pointer (some ⟨sa, 0, none⟩))).run Ybad.prog w = .ok false w := fun d => by
    simp [Op.equalIn, run_underlying Ybad.underlying41, typeInfo, sizeOf, hj, hs, run_sameAddr_other w (a := ⟨sb, 0, none⟩) (b := ⟨sa, 0, none⟩) (fun e => hne (congrArg Addr.block e)) hb ha]
  simp only [binOp]
  simp [Op.equal, Op.maxDepth, h 9999]

theorem KeptX.cell {X : Nat → Prop} {B : Nat} {w w' : World} (h : KeptX X B w w') {p : Addr} (hp : p.block < B) (hx : ¬ X p.block) : w'.cell? p = w.cell? p := World.cell?_of_block (w := w) (h.block p.block hp hx)

/-- The rounds that send. -/
def acts (A : Nat → Bool) (i : Nat) : List Nat := (List.range i).filter A
theorem acts_succ (A : Nat → Bool) (i : Nat) : acts A (i + 1) = acts A i ++ (if A i = true then [i] else []) := by
  unfold acts
  rw [List.range_succ, List.filter_append]
  congr 1
  by_cases h : A i = true <;> simp [h]
theorem acts_le (A : Nat → Bool) (i : Nat) : (acts A i).length ≤ i := by
  unfold acts
  exact Nat.le_trans (List.length_filter_le _ _) (by simp)
def tsOf (nid : ByteArray) (A : Nat → Bool) (i : Nat) : List Value := (acts A i).map fun _ => .string nid
def msOf (number : Int) (sw : ByteArray) (f : Nat → Nat → Value) (A : Nat → Bool) (i : Nat) : List Value := (acts A i).flatMap fun j => (msg number sw (f j)).toList
/-- Ring j's cells when k rounds are done. -/
def cn (C : Nat → Array Value) (A : Nat → Bool) (k j : Nat) : Array Value := if j < k ∧ A j = true then (C j).setIfInBounds 14 (.bool true) else C j
theorem cn_self (C : Nat → Array Value) (A : Nat → Bool) (k : Nat) : cn C A k k = C k := if_neg (fun h => by omega)
theorem cn_ne (C : Nat → Array Value) (A : Nat → Bool) {k j : Nat} (h : j ≠ k) : cn C A (k + 1) j = cn C A k j := by
  unfold cn
  by_cases hA : A j = true
  · by_cases hj : j < k
    · rw [if_pos ⟨by omega, hA⟩, if_pos ⟨hj, hA⟩]
    · rw [if_neg (fun h => by omega), if_neg (fun h => by omega)]
  · rw [if_neg (fun h => hA h.2), if_neg (fun h => hA h.2)]
theorem cn_hit (C : Nat → Array Value) (A : Nat → Bool) (k : Nat) (h : A k = true) : cn C A (k + 1) k = (C k).setIfInBounds 14 (.bool true) := if_pos ⟨by omega, h⟩
theorem cn_idle (C : Nat → Array Value) (A : Nat → Bool) (k : Nat) (h : A k = false) : cn C A (k + 1) k = C k := if_neg (fun h' => by rw [h] at h'; cases h'.2)

/-- What holds behind k rounds. -/
structure RelA (B eb r0 n : Nat) (number : Int) (nid sw : ByteArray) (f : Nat → Nat → Value) (A : Nat → Bool) (C : Nat → Array Value) (w : World) (k : Nat) (wr : World) : Prop where
  env : EnvAt B eb wr (acts A k).length (tsOf nid A k) (msOf number sw f A k)
  kept : KeptX (fun x => x = eb ∨ (r0 ≤ x ∧ x < r0 + n)) B w wr
  rings : ∀ j, j < n → wr.heap[r0 + j]? = some (.cells (cn C A k j) 79 (0, 0))

theorem RelA.drewN {B eb r0 n : Nat} {number : Int} {nid sw : ByteArray} {f : Nat → Nat → Value} {A : Nat → Bool} {C : Nat → Array Value} {w : World} {k : Nat} {wr : World} (h : RelA B eb r0 n number nid sw f A C w k wr) (m : Nat) : RelA B eb r0 n number nid sw f A C w k (wr.drewN m) :=
  ⟨h.env, ⟨h.kept.os, h.kept.output, h.kept.size, h.kept.block⟩, h.rings⟩
theorem RelA.idle {B eb r0 n : Nat} {number : Int} {nid sw : ByteArray} {f : Nat → Nat → Value} {A : Nat → Bool} {C : Nat → Array Value} {w : World} {k : Nat} {wr : World} (h : RelA B eb r0 n number nid sw f A C w k wr) (hA : A k = false) : RelA B eb r0 n number nid sw f A C w (k + 1) wr := by
  have e : acts A (k + 1) = acts A k := by rw [acts_succ, hA]; simp
  refine ⟨by unfold tsOf msOf; rw [e]; exact h.env, h.kept, fun j hj => ?_⟩
  by_cases hjk : j = k
  · subst hjk; rw [cn_idle C A j hA, h.rings j hj, cn_self]
  · rw [cn_ne C A hjk]; exact h.rings j hj
theorem RelA.hit {B eb r0 n : Nat} {number : Int} {nid sw : ByteArray} {f : Nat → Nat → Value} {A : Nat → Bool} {C : Nat → Array Value} {w : World} {k : Nat} {wr w2 : World} (h : RelA B eb r0 n number nid sw f A C w k wr) (hk : k < n) (hrB : r0 + n ≤ B) (hre : ∀ j, j < n → r0 + j ≠ eb) (hA : A k = true)
    (g1 : EnvAt B eb w2 ((acts A k).length + 1) (tsOf nid A k ++ [.string nid]) (msOf number sw f A k ++ (msg number sw (f k)).toList)) (g2 : KeptX (fun x => x = eb ∨ x = r0 + k) B wr w2) (g3 : w2.heap[r0 + k]? = some (.cells ((C k).setIfInBounds 14 (.bool true)) 79 (0, 0))) : RelA B eb r0 n number nid sw f A C w (k + 1) w2 := by
  have e : acts A (k + 1) = acts A k ++ [k] := by rw [acts_succ, hA]; simp
  refine ⟨?_, h.kept.trans (g2.weak (fun x hx => ?_)), fun j hj => ?_⟩
  · unfold tsOf msOf at g1 ⊢
    rw [e]
    simpa using g1
  · rcases hx with rfl | rfl
    · exact .inl rfl
    · exact .inr ⟨by omega, by omega⟩
  · by_cases hjk : j = k
    · subst hjk; rw [cn_hit C A j hA]; exact g3
    · rw [cn_ne C A hjk, g2.block (r0 + j) (by omega) (fun hx => by
        rcases hx with h1 | h1
        · exact hre j hj h1
        · omega)]
      exact h.rings j hj

theorem frame6 (x0 x1 x2 x3 x4 x5 x6 x7 x8 x9 x10 x11 x12 x13 x14 x15 x16 x17 x18 x19 x20 x21 x22 x23 x24 x25 x26 x27 x28 x29 x30 x31 x32 x33 x34 x35 x36 x37 x38 x39 x40 x41 x42 x43 x44 x45 x46 x47 x48 x49 x50 x51 x52 x53 x54 : Value) (a : Act) (h : Rest [45, 46, 47, 48, 49, 50, 51, 52] ⟨#[x0, x1, x2, x3, x4, x5, x6, x7, x8, x9, x10, x11, x12, x13, x14, x15, x16, x17, x18, x19, x20, x21, x22, x23, x24, x25, x26, x27, x28, x29, x30, x31, x32, x33, x34, x35, x36, x37, x38, x39, x40, x41, x42, x43, x44, x45, x46, x47, x48, x49, x50, x51, x52, x53, x54], []⟩ a) : ∃ us : Nat → Value, a.put (some 53) (.tuple #[]) = ⟨#[x0, x1, x2, x3, x4, x5, x6, x7, x8, x9, x10, x11, x12, x13, x14, x15, x16, x17, x18, x19, x20, x21, x22, x23, x24, x25, x26, x27, x28, x29, x30, x31, x32, x33, x34, x35, x36, x37, x38, x39, x40, x41, x42, x43, x44, us 45, us 46, us 47, us 48, us 49, us 50, us 51, us 52, .tuple #[], x54], []⟩ := by
  obtain ⟨us, rfl⟩ := frame_of h
  exact ⟨us, by kernel_rfl⟩

def PhiR (nb rb mb fb : Nat) (j : Nat) (v : Value) (_ : World) : Prop :=
  match j with
  | 0 => v = .pointer (some ⟨nb, 0, none⟩)
  | 1 => v = .pointer (some ⟨rb, 0, none⟩)
  | 2 => v = .pointer (some ⟨rb, 0, none⟩)
  | 3 => v = .pointer (some ⟨rb, 0 + 4, none⟩)
  | 4 => v = .pointer (some ⟨mb, 0, none⟩)
  | 5 => v = .pointer (some ⟨mb, 0, none⟩)
  | 6 => v = .pointer (some ⟨mb, 0 + 0, none⟩)
  | 7 => v = .pointer (some ⟨fb, 0, none⟩)
  | _ => True

set_option maxHeartbeats 4000000 in
set_option maxRecDepth 100000 in
theorem all_rings (mr number : Int) (B eb nb mb fb gb sa r0 n cap : Nat) (nid sw : ByteArray) (C : Nat → Array Value) (p : Nat → Option Addr) (hit wd : Nat → Bool) (f : Nat → Nat → Value) (w : World) (hmr : mr ≠ 0) (hn : n ≤ 1024) (hB : B ≤ w.heap.size)
    (hN : NodeAt mr number eb nb w) (hnB : nb < B) (hnX : nb ≠ eb ∧ ¬ (r0 ≤ nb ∧ nb < r0 + n)) (hE : EnvAt B eb w 0 [] []) (hrB : r0 + n ≤ B) (hre : ∀ j, j < n → r0 + j ≠ eb)
    (h0 : w.cell? ⟨mb, 0, none⟩ = some (.pointer (some ⟨fb, 0, none⟩))) (h1 : w.cell? ⟨mb, 1, none⟩ = some (.pointer (some ⟨sa, 0, none⟩))) (hmX : mb < B ∧ mb ≠ eb ∧ ¬ (r0 ≤ mb ∧ mb < r0 + n))
    (hf0 : w.cell? ⟨fb, 0, none⟩ = some (.string nid)) (hf : w.cell? ⟨fb, 24, none⟩ = some (.slice (some ⟨gb, 0, none⟩) n cap)) (hfX : fb < B ∧ fb ≠ eb ∧ ¬ (r0 ≤ fb ∧ fb < r0 + n))
    (hg : ∀ j, j < n → w.cell? ⟨gb, j, none⟩ = some (.pointer (some ⟨r0 + j, 0, none⟩))) (hgX : gb < B ∧ gb ≠ eb ∧ ¬ (r0 ≤ gb ∧ gb < r0 + n))
    (hs0 : w.cell? ⟨sa, 0, none⟩ = some (.string sw)) (hsX : sa < B ∧ sa ≠ eb ∧ ¬ (r0 ≤ sa ∧ sa < r0 + n))
    (hR : ∀ j, j < n → w.heap[r0 + j]? = some (.cells (C j) 79 (0, 0))) (hC8 : ∀ j, j < n → (C j)[8]? = some (.pointer (p j))) (hC14 : ∀ j, j < n → (C j)[14]? = some (.bool (wd j))) (hC13 : ∀ j, j < n → (C j)[13]? = some (.pointer (some ⟨r0 + j, 0, none⟩)))
    (hCi : ∀ j, j < n → ∀ i v, (ids16 (f j))[i]? = some v → (C j)[33 + i]? = some v) (hf1 : ∀ j i, (f j i).oneCell' = true)
    (hp : ∀ j, j < n → hit j = true → p j = some ⟨sa, 0, none⟩) (hpe : ∀ j, j < n → ∀ wr, KeptX (fun x => x = eb ∨ (r0 ≤ x ∧ x < r0 + n)) B w wr → (binOp .eql 41 (.pointer (p j)) (.pointer (some ⟨sa, 0, none⟩))).run Ybad.prog wr = .ok (.bool (hit j)) wr) :
    Calls Ybad.prog 6 #[.pointer (some ⟨nb, 0, none⟩), .pointer (some ⟨mb, 0, none⟩)] w fun e w' => e = .returned (.tuple #[]) ∧ RelA B eb r0 n number nid sw f (fun j => hit j && !wd j) C w n w' := by
  have c9 := hN.2.2
  have HR0 : Hid (RelA B eb r0 n number nid sw f (fun j => hit j && !wd j) C w 0 w) := (⟨hE, KeptX.refl _ _ _, fun j hj => by rw [hR j hj, show cn C (fun j => hit j && !wd j) 0 j = C j from if_neg (fun h => by omega)]⟩ : RelA B eb r0 n number nid sw f (fun j => hit j && !wd j) C w 0 w)
  have HP : Hid _ := hp
  have hmf : (mr == 0) = false := by simpa using hmr
  clear hp hmr
  go_enter Ybad.func6, Ybad.ntmps6
  go_wp2_with fail
  go_loopw [30] (fun i wr => ∃ k : Nat, k ≤ n ∧ i = .int .i64 k ∧ RelA B eb r0 n number nid sw f (fun j => hit j && !wd j) C w k wr) (fun i _ => n - (intOf i).toNat)
  case atStart => exact ⟨0, Nat.zero_le _, rfl, HR0.out⟩
  case round =>
    obtain ⟨k, hkn, rfl, hrel⟩ := hrel
    by_cases hlt : k < n
    · have hX : ∀ x, x ≠ eb ∧ ¬ (r0 ≤ x ∧ x < r0 + n) → ¬ (x = eb ∨ (r0 ≤ x ∧ x < r0 + n)) := fun x h h' => h'.elim h.1 h.2
      have hgk : wr.cell? ⟨gb, k, none⟩ = some (.pointer (some ⟨r0 + k, 0, none⟩)) := (hrel.kept.cell (p := ⟨gb, k, none⟩) hgX.1 (hX _ hgX.2)).trans (hg k hlt)
      have hm0 : wr.cell? ⟨mb, 0, none⟩ = some (.pointer (some ⟨fb, 0, none⟩)) := (hrel.kept.cell (p := ⟨mb, 0, none⟩) hmX.1 (hX _ hmX.2)).trans h0
      have hm1 : wr.cell? ⟨mb, 1, none⟩ = some (.pointer (some ⟨sa, 0, none⟩)) := (hrel.kept.cell (p := ⟨mb, 1, none⟩) hmX.1 (hX _ hmX.2)).trans h1
      have hrk : wr.heap[r0 + k]? = some (.cells (C k) 79 (0, 0)) := by rw [hrel.rings k hlt, cn_self]
      have hr8 : wr.cell? ⟨r0 + k, 8, none⟩ = some (.pointer (p k)) := (cell_of_row _ _ _ _ 79 (0, 0) hrk).trans (hC8 k hlt)
      have hpk : ∀ m, (binOp .eql 41 (.pointer (p k)) (.pointer (some ⟨sa, 0, none⟩))).run Ybad.prog (wr.drewN m) = .ok (.bool (hit k)) (wr.drewN m) := fun m => hpe k hlt _ (hrel.drewN m).kept
      have hlt' : (k : Int) < (n : Int) := by omega
      have HREL : Hid _ := hrel
      have HRK : Hid _ := hrk
      have H : Hid _ := And.intro hpe (And.intro hR (And.intro hC8 (And.intro hC14 (And.intro hC13 (And.intro hCi (And.intro hg hre))))))
      clear hrel hrk hpe hR hC8 hC14 hC13 hCi hg hre HR0
      cases hh : hit k with
      | false =>
        rw [hh] at hpk
        go_wp2_with fail
        go_quiet (fail)
        go_wp2
        go_roundw
        case rel => exact ⟨k + 1, by omega, by go_num, (HREL.out.drewN _).idle (by simp [hh])⟩
        case measure => simp [intOf]; omega
      | true =>
        rw [hh] at hpk
        go_wp2_with fail
        go_quiet (fail)
        go_wp2_with fail
        rename_i nq K hK
        obtain ⟨_, hR, hC8, hC14, hC13, hCi, hg, hre⟩ := H.out
        have hcall : Calls Ybad.prog 10 #[.pointer (some ⟨nb, 0, none⟩), .pointer (some ⟨r0 + k, 0 + 4, none⟩), .pointer (some ⟨fb, 0, none⟩)] (wr.drewN nq).drew fun e w' => e = .returned (.tuple #[]) ∧ RelA B eb r0 n number nid sw f (fun j => hit j && !wd j) C w (k + 1) w' := by
          have hrl : RelA B eb r0 n number nid sw f (fun j => hit j && !wd j) C w k (wr.drewN nq).drew := by
            have h := HREL.out
            exact ⟨h.env, ⟨h.kept.os, h.kept.output, h.kept.size, h.kept.block⟩, h.rings⟩
          have hrw : (wr.drewN nq).drew.heap[r0 + k]? = some (.cells (C k) 79 (0, 0)) := HRK.out
          have h8 : (C k)[4 + 4]? = some (.pointer (some ⟨sa, 0, none⟩)) := by rw [← HP.out k hlt hh]; exact hC8 k hlt
          generalize (wr.drewN nq).drew = w0 at *
          cases hw : wd k with
          | true =>
            refine (withdraw_done nb (r0 + k) (0 + 4) sa _ w0 ((cell_of_row _ _ _ _ 79 (0, 0) hrw).trans h8) ((cell_of_row _ _ _ _ 79 (0, 0) hrw).trans ((hC14 k hlt).trans (by rw [hw])))).mono ?_
            rintro e w' ⟨rfl, rfl⟩
            exact ⟨rfl, hrl.idle (by simp [hw])⟩
          | false =>
            refine (withdraw_act mr number B eb nb fb sa (r0 + k) (0 + 4) (acts (fun j => hit j && !wd j) k).length 79 (C k) nid sw (f k) _ _ w0 (Nat.le_trans (acts_le _ _) (by omega)) (Nat.le_trans hB hrl.kept.size) hrl.env ?_ hrw (by omega) (hre k hlt) h8 ((hC14 k hlt).trans (by rw [hw])) ?_ ?_ ?_ (hf1 k)).mono ?_
            · exact ⟨(hrl.kept.cell (p := ⟨nb, 1, none⟩) hnB (hX _ hnX)).trans hN.1, (hrl.kept.cell (p := ⟨nb, 3, none⟩) hnB (hX _ hnX)).trans hN.2.1, (hrl.kept.cell (p := ⟨nb, 9, none⟩) hnB (hX _ hnX)).trans hN.2.2⟩
            · exact (hrl.kept.cell (p := ⟨fb, 0, none⟩) hfX.1 (hX _ hfX.2)).trans hf0
            · exact (hrl.kept.cell (p := ⟨sa, 0, none⟩) hsX.1 (hX _ hsX.2)).trans hs0
            · intro w1 hb1
              have hrl' : r0 + k < w0.heap.size := (Array.getElem?_eq_some_iff.1 hrw).1
              have hrw1 : w1.heap[r0 + k]? = some (.cells (C k) 79 (0, 0)) := (hb1.block _ hrl').trans hrw
              exact ringID_some (r0 + k) (0 + 4) (r0 + k) (ids16 (f k)) w1 rfl (ids16_one _ (hf1 k)) ((cell_of_row _ _ _ _ 79 (0, 0) hrw1).trans (hC13 k hlt)) (fun j v hv => (cell_of_row _ _ _ _ 79 (0, 0) hrw1).trans (hCi k hlt j v hv))
            · rintro e w' ⟨rfl, g1, g2, g3⟩
              exact ⟨rfl, hrl.hit hlt hrB hre (by simp [hh, hw]) g1 g2 g3⟩
        clear hR hC8 hC14 hC13 hCi hg hre H
        refine wp_region_tail 8 (by kernel_rfl) [45, 46, 47, 48, 49, 50, 51, 52] (PhiR nb (r0 + k) mb fb) (fun _ b => b = (wr.drewN nq).drew) 100 (fun _ => True) trivial (fun _ _ _ _ h => h) rfl (by decide) (by kernel_rfl) (by kernel_rfl) ?hend ⟨?_, ?_, ?_, ?_, ?_, ?_, ?_, ?_, trivial⟩
        case hend =>
          rintro a w1 hr rfl hall
          obtain ⟨v, hv0, rfl⟩ := hall 0 (by decide)
          obtain ⟨v, hv3, rfl⟩ := hall 3 (by decide)
          obtain ⟨v, hv7, rfl⟩ := hall 7 (by decide)
          refine tail_one rfl (wp_ent 10 _ (g_call10 rfl hv0 hv3 hv7) (hcall.mono ?_))
          rintro e w2 ⟨rfl, g1⟩
          refine ⟨_, rfl, wpList_nil ?_⟩
          show K _ _
          refine hK _ _ ?_
          obtain ⟨us, e⟩ := frame6 _ _ _ _ _ _ _ _ _ _ _ _ _ _ _ _ _ _ _ _ _ _ _ _ _ _ _ _ _ _ _ _ _ _ _ _ _ _ _ _ _ _ _ _ _ _ _ _ _ _ _ _ _ _ _ a hr
          rw [show (a.put (some 53) (.tuple #[])) = _ from e]
          have HG : Hid _ := g1
          clear g1 hcall HREL HRK HP hall hr e
          go_wp2
          go_roundw
          case rel => exact ⟨k + 1, by omega, by go_num, HG.out⟩
          case measure => simp [intOf]; omega
        · rintro a w1 hr rfl hj hd
          exact wp_val _ _ (g_move rfl (hr.other 0 rfl)) ⟨_, rfl, rfl, fun _ _ _ h => h, fun _ h => h, rfl⟩
        · rintro a w1 hr rfl hj hd
          exact wp_val _ _ (g_move rfl (hr.other 5 rfl)) ⟨_, rfl, rfl, fun _ _ _ h => h, fun _ h => h, rfl⟩
        · rintro a w1 hr rfl hj hd
          obtain ⟨v, hv, rfl⟩ := hd ⟨1, .data⟩ (by simp) rfl
          exact wp_val _ _ (g_nil rfl hv) ⟨_, rfl, rfl, fun _ _ _ h => h, fun _ h => h, rfl⟩
        · rintro a w1 hr rfl hj hd
          obtain ⟨v, hv, rfl⟩ := hd ⟨2, .data⟩ (by simp) rfl
          exact wp_val _ _ (g_fld 79 4 4 rfl hv (by decide)) ⟨_, rfl, rfl, fun _ _ _ h => h, fun _ h => h, rfl⟩
        · rintro a w1 hr rfl hj hd
          exact wp_val _ _ (g_move rfl (hr.other 1 rfl)) ⟨_, rfl, rfl, fun _ _ _ h => h, fun _ h => h, rfl⟩
        · rintro a w1 hr rfl hj hd
          obtain ⟨v, hv, rfl⟩ := hd ⟨4, .data⟩ (by simp) rfl
          exact wp_val _ _ (g_nil rfl hv) ⟨_, rfl, rfl, fun _ _ _ h => h, fun _ h => h, rfl⟩
        · rintro a w1 hr rfl hj hd
          obtain ⟨v, hv, rfl⟩ := hd ⟨5, .data⟩ (by simp) rfl
          exact wp_val _ _ (g_fld 84 0 0 rfl hv (by decide)) ⟨_, rfl, rfl, fun _ _ _ h => h, fun _ h => h, rfl⟩
        · rintro a w1 hr rfl hj hd
          obtain ⟨v, hv, rfl⟩ := hd ⟨6, .data⟩ (by simp) rfl
          exact wp_val _ _ (g_ld 49 rfl hv hm0 (by decide)) ⟨_, rfl, rfl, fun _ _ _ h => h, fun _ h => h, rfl⟩
    · obtain rfl : k = n := by omega
      have HREL : Hid _ := hrel
      clear hrel hpe hR hC8 hC14 hC13 hCi hg hre HR0
      go_wp2
      exact Go.Great.bodyPost_end0 rfl rfl ⟨rfl, HREL.out⟩
end Go.Proofs.YbulkbkkwDoor
