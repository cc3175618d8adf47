/-
  Function 5 (zzs3062aeq) on two slices that read the same bytes: true. And 'append([]byte(nil), b...)'.
-/
import Derived.Test.YbulkbkjuFmtVarint
import Derived.Deep.QuietTactic
import Derived.BigQuiet
namespace Go.Proofs.YbulkbkjuFmt
open Go.RowKit

/-- The slice value v reads, in w, as the numbers xs (bytes). -/
def Reads (w : World) (v : Value) (xs : List Int) : Prop :=
  ∃ ao c, v = .slice ao xs.length c ∧ (xs.length = 0 ∨ ∃ g o, ao = some ⟨g, o, none⟩ ∧ ∀ i, i < xs.length → w.cell? ⟨g, o + i, none⟩ = some (.int .u8 (xs.getD i 0)))

set_option maxHeartbeats 800000 in
set_option maxRecDepth 100000 in
theorem eq5_none (a b : Option Addr) (c d : Nat) (w : World) :
    Calls Ybaf.prog 5 #[.slice a 0 c, .slice b 0 d] w fun e w' => e = .returned (.bool true) ∧ w' = w := by
  go_enter Ybaf.func5, Ybaf.ntmps5
  go_wp2
  go_loop [5] (fun i => i = .int .i64 0) (fun _ => 0)
  case atStart => rfl
  case round =>
    subst hrel
    go_wp2
    go_ret
    exact ⟨rfl, rfl⟩

set_option maxHeartbeats 800000 in
set_option maxRecDepth 100000 in
theorem eq5_some (g o g' o' c d : Nat) (xs : List Int) (w : World) (hm : xs.length ≤ maxLen) (hx : ∀ i, i < xs.length → w.cell? ⟨g, o + i, none⟩ = some (.int .u8 (xs.getD i 0))) (hy : ∀ i, i < xs.length → w.cell? ⟨g', o' + i, none⟩ = some (.int .u8 (xs.getD i 0))) :
    Calls Ybaf.prog 5 #[.slice (some ⟨g, o, none⟩) xs.length c, .slice (some ⟨g', o', none⟩) xs.length d] w fun e w' => e = .returned (.bool true) ∧ ∃ n, w' = w.drewN n := by
  unfold maxLen at hm
  go_enter Ybaf.func5, Ybaf.ntmps5
  go_wp2
  go_loopw [5] (fun i wr => ∃ k n : Nat, k ≤ xs.length ∧ i = .int .i64 k ∧ wr = w.drewN n) (fun i _ => xs.length - (intOf i).toNat)
  case atStart => exact ⟨0, 0, Nat.zero_le _, rfl, rfl⟩
  case round =>
    obtain ⟨k, n, hk, rfl, rfl⟩ := hrel
    by_cases hlt : k < xs.length
    · have e1 := hx k hlt
      have e2 := hy k hlt
      clear hx hy
      go_wp2
      go_quiet (fail)
      go_wp2
      go_roundw
      case rel => exact ⟨k + 1, n + nq, by omega, by go_num, rfl⟩
      case measure => simp [intOf]; omega
    · go_wp2
      go_ret
      exact ⟨rfl, n, rfl⟩

/-- zzs3062aeq at two slices that read the same bytes: true; nothing turns. -/
theorem eq5 (va vb : Value) (xs : List Int) (w : World) (hm : xs.length ≤ maxLen) (hx : Reads w va xs) (hy : Reads w vb xs) :
    Calls Ybaf.prog 5 #[va, vb] w fun e w' => e = .returned (.bool true) ∧ ∃ n, w' = w.drewN n := by
  obtain ⟨ao, c, rfl, hx⟩ := hx
  obtain ⟨bo, d, rfl, hy⟩ := hy
  by_cases h0 : xs.length = 0
  · rw [h0]
    exact (eq5_none ao bo c d w).mono fun e w' ⟨he, hw⟩ => ⟨he, 0, by rw [hw]; rfl⟩
  · rcases hx with hx | ⟨g, o, rfl, hx⟩
    · exact absurd hx h0
    rcases hy with hy | ⟨g', o', rfl, hy⟩
    · exact absurd hy h0
    exact eq5_some g o g' o' c d xs w hm hx hy

theorem Reads.congr {w w' : World} {v : Value} {xs : List Int} (h : Reads w v xs) (hc : ∀ g o, v.ownBlock = some g → w'.cell? ⟨g, o, none⟩ = w.cell? ⟨g, o, none⟩) : Reads w' v xs := by
  obtain ⟨ao, c, rfl, h⟩ := h
  rcases h with h | ⟨g, o, rfl, hx⟩
  · exact ⟨ao, c, rfl, .inl h⟩
  · exact ⟨_, c, rfl, .inr ⟨g, o, rfl, fun i hi => (hc g _ rfl).trans (hx i hi)⟩⟩

section
variable {P : Program}
/-- 'append([]T(nil), src...)', T of one cell and one byte: the value owns a row of its own (or is nil), a copy of src's elements. -/
theorem run_append_clone (w : World) (t ty e : TypeId) (i : TypeInfo) (z : Value) (bytes : Nat) (ht : P.underlying t = some (.slice e)) (hi : P.info? e = some i) (hz : i.zero = some z) (hsize : i.size = 1) (hby : i.bytes = bytes) (hzs : z.cells.size = 1)
    (so : Option Addr) (n c : Nat) (news : List Value) (hl : news.length = n) (hnews : n = 0 ∨ ∃ ad, so = some ad ∧ ∀ j u, news[j]? = some u → w.cell? (ad.add j) = some u) (h1 : ∀ u ∈ news, u.oneCell' = true) (h63 : n ≤ maxLen) (hbytes : n * bytes ≤ 140737488355328) :
    ∃ v' w', (Builtin.append_ #[t, t] ty #[.slice none 0 0, .slice so n c]).run P w = .ok v' w' ∧ w'.ownsRow w.heap.size e 1 v' n news ∧ w.grownBy w' none := by
  by_cases hn : n = 0 ∧ so = none
  · obtain ⟨rfl, rfl⟩ := hn
    have : news = [] := List.eq_nil_of_length_eq_zero hl
    subst this
    refine ⟨.slice none 0 0, w, ?_, World.ownsRow_nil w _ e 1, ⟨rfl, rfl, rfl, Nat.le_refl _, fun _ _ _ => rfl⟩⟩
    simp [Builtin.append_, run_underlying ht, sizeOf, typeInfo, hi, Builtin.lenOf, Builtin.firstCells]
  · obtain ⟨ad, rfl, hnw⟩ : ∃ ad, so = some ad ∧ ∀ j u, news[j]? = some u → w.cell? (ad.add j) = some u := by
      rcases hnews with h0 | h
      · cases so with
        | none => exact absurd ⟨h0, rfl⟩ hn
        | some ad => exact ⟨ad, rfl, fun j u hu => by
            have : news = [] := List.eq_nil_of_length_eq_zero (by omega)
            subst this; simp at hu⟩
      · exact h
    obtain ⟨v', w', hr, h2, h3, _⟩ := run_append_own (P := P) w w.heap.size t ty e i z 1 bytes ht hi hz hsize hby hzs (by decide) (.slice none 0 0) 0 [] (World.ownsRow_nil w _ e 1) ad n c news (by omega) hnw h1 (by omega) (by simpa using hbytes) (Nat.le_refl _)
    exact ⟨v', w', hr, by simpa using h2, h3⟩

theorem wpList_append_clone (w : World) {ops : Array Oper} {rest : List Oper} {o : Oper} {a : Act} {Q : Exit → Act → World → Prop} (hgd : o.guard = none) (s x : Operand) (t : TypeId)
    (ho : o.op = .call { callee := .builtin .append, args := #[s, x], argTypes := #[t, t] }) (e : TypeId) (i : TypeInfo) (z : Value) (bytes : Nat) (ht : P.underlying t = some (.slice e)) (hi : P.info? e = some i) (hz : i.zero = some z) (hsize : i.size = 1) (hby : i.bytes = bytes) (hzs : z.cells.size = 1)
    (so : Option Addr) (n c : Nat) (news : List Value) (hs : a.eval s = .slice none 0 0) (hx : a.eval x = .slice so n c) (hl : news.length = n) (hnews : n = 0 ∨ ∃ ad, so = some ad ∧ ∀ j u, news[j]? = some u → w.cell? (ad.add j) = some u) (h1 : ∀ u ∈ news, u.oneCell' = true) (h63 : n ≤ maxLen) (hbytes : n * bytes ≤ 140737488355328)
    (hK : ∀ v' w', w'.ownsRow w.heap.size e 1 v' n news → w.grownBy w' none → wpList P ops Q rest (a.put o.dst v') w') : wpList P ops Q (o :: rest) a w := by
  refine wpList_plain hgd fun K hK' => ?_
  obtain ⟨v', w', hrun, r1, r2⟩ := run_append_clone (P := P) w t o.type e i z bytes ht hi hz hsize hby hzs so n c news hl hnews h1 h63 hbytes
  unfold Oper.wp
  simp [execOp, ho, resolve, invoke, builtin, hs, hx, hrun, Result.andThen]
  exact hK' _ _ (hK v' w' r1 r2)
end

/-- A row of the call's own, as a slice that is appended to. -/
theorem came_of_owns {w : World} {base : Nat} {e : TypeId} {v : Value} {n : Nat} {xs : List Value} (h : w.ownsRow base e 1 v n xs) :
    ∃ ao b cap, v = .slice ao n cap ∧ cap ≤ maxLen ∧ (0 < cap → base ≤ b) ∧ Came w 1 ao b 0 n cap xs := by
  have hl := h.1
  rcases h.2 with ⟨rfl, rfl⟩ | ⟨g, cap, cur, rfl, hb, hg, hle, hcm, hcs, ht⟩
  · exact ⟨none, 0, 0, rfl, Nat.zero_le _, fun h => by omega, Nat.le_refl _, fun h => by omega, fun h => by omega, by omega, fun j u hu => by
      have : xs = [] := List.eq_nil_of_length_eq_zero (by omega)
      subst this; simp at hu, fun j hj => by simp at hj⟩
  · have hlt : g < w.heap.size := (Array.getElem?_eq_some_iff.1 hg).1
    refine ⟨_, g, cap, rfl, hcm, fun _ => hb, hle, fun _ => rfl, fun _ => hlt, hl, fun j u hu => ?_, fun j hj => ?_⟩
    · have hj : j < xs.length := (List.getElem?_eq_some_iff.1 hu).1
      rw [Nat.zero_add, cell_of_row w g j cur e (0, 0) hg]
      rw [← ht, List.getElem?_take] at hu
      split at hu
      · simpa using hu
      · cases hu
    · rw [cell_of_row w g _ cur e (0, 0) hg]
      refine ⟨?_, ?_⟩
      · rw [Array.getElem?_eq_getElem (by omega)]; rfl
      · simp [World.frozen?, hg]

/-- The bytes 'zs' as cells. -/
def u8s (zs : List Int) : List Value := zs.map (Value.int .u8 ·)
theorem u8s_one (zs : List Int) : ∀ u ∈ u8s zs, u.oneCell' = true := by
  intro u hu
  obtain ⟨_, _, rfl⟩ := List.mem_map.1 hu
  rfl
theorem u8s_length (zs : List Int) : (u8s zs).length = zs.length := by simp [u8s]

/-- The source's elements, in a world that keeps what was there. -/
theorem src_kept {w w' : World} {a0 : Option Addr} {len0 : Nat} {zs : List Int} (hz : zs.length = len0)
    (hb : len0 = 0 ∨ ∃ g o, a0 = some ⟨g, o, none⟩ ∧ g < w.heap.size ∧ ∀ i, i < len0 → w.cell? ⟨g, o + i, none⟩ = some (.int .u8 (zs.getD i 0))) (hk : Kept w.heap.size w w') :
    len0 = 0 ∨ ∃ ad, a0 = some ad ∧ ∀ j u, (u8s zs)[j]? = some u → w'.cell? (ad.add j) = some u := by
  rcases hb with h0 | ⟨g, o, rfl, hg, hx⟩
  · exact .inl h0
  refine .inr ⟨_, rfl, fun j u hu => ?_⟩
  have hj : j < zs.length := by have := (List.getElem?_eq_some_iff.1 hu).1; simpa [u8s] using this
  rw [Addr.add_lit, hk.cell (p := ⟨g, o + j, none⟩) hg, hx j (by omega)]
  simp [u8s, hj] at hu
  simp [List.getD_eq_getElem?_getD, hj, hu]

theorem u8s_append (a b : List Int) : u8s a ++ u8s b = u8s (a ++ b) := by simp [u8s]
def bytesOf (l : List UInt8) : List Int := l.map fun b => (b.toNat : Int)
theorem byteCells_u8s (l : List UInt8) : Lib.byteCells l = u8s (bytesOf l) := by simp [u8s, bytesOf, Lib.byteCells]
theorem u8s_at {zs : List Int} {i : Nat} (h : i < zs.length) : (u8s zs)[i]? = some (.int .u8 (zs.getD i 0)) := by simp [u8s, h, List.getD_eq_getElem?_getD]

theorem Reads.kept {w w' : World} {v : Value} {xs : List Int} (h : Reads w v xs) (hk : Kept w.heap.size w w') : Reads w' v xs := by
  obtain ⟨ao, c, rfl, h⟩ := h
  rcases h with h | ⟨g, o, rfl, hx⟩
  · exact ⟨ao, c, rfl, .inl h⟩
  · exact ⟨_, c, rfl, .inr ⟨g, o, rfl, fun i hi => (hk.cell (p := ⟨g, o + i, none⟩) (World.block_lt_of_cell? w _ (hx i hi))).trans (hx i hi)⟩⟩
theorem Kept.drewN (B : Nat) (w : World) (n : Nat) : Kept B w (w.drewN n) := ⟨rfl, rfl, Nat.le_refl _, fun _ _ => rfl⟩

theorem reads_onto {W : World} {e : TypeId} {ao : Option Addr} {b off len cap : Nat} {zs ys : List Int} {w : World} {v : Value} {m : Nat} {ks : List Value} (h : Onto W e 1 ao b off len cap (u8s zs) w v m ks) (hc : Came W 1 ao b off len cap (u8s zs)) (hm : cap ≤ maxLen) (hp : 0 < m) (hz : zs.length = len) (hk : ks = u8s ys) :
    Reads w v (zs ++ ys) := by
  subst hk
  have hl := h.ksLen
  rw [u8s_length] at hl
  obtain ⟨g, o', cap', rfl, _, _, hx⟩ := h.value hc hm (.inr hp)
  refine ⟨_, cap', by rw [List.length_append, hz, hl, Nat.mul_one], .inr ⟨g, o', rfl, fun i hi => ?_⟩⟩
  rw [hx i (by rw [List.length_append] at hi; omega), u8s_append, u8s_at hi]

theorem reads_came_onto {W : World} {e : TypeId} {ao : Option Addr} {b off len cap : Nat} {zs : List Int} {w : World} {v : Value} {m : Nat} {ks : List Value} (h : Onto W e 1 ao b off len cap (u8s zs) w v m ks) (hc : Came W 1 ao b off len cap (u8s zs)) (hz : zs.length = len) :
    Reads w (.slice ao len cap) zs := by
  have hle := hc.le
  refine ⟨ao, cap, by rw [hz], ?_⟩
  by_cases h0 : zs.length = 0
  · exact .inl h0
  · refine .inr ⟨b, off, hc.addr (by omega), fun i hi => ?_⟩
    rw [h.old (hc.lt (by omega)) (fun j _ _ ⟨_, e2⟩ => by omega)]
    exact hc.olds i _ (u8s_at hi)

end Go.Proofs.YbulkbkjuFmt
