/-
  (*zzs3064benv).Send (function 32): one target and one message more.
-/
import Derived.Test.YbulkbkkwDoorRing
import Derived.Test.YbulkbkkwDoorOps2
import Derived.Deep.RegionLaw
import Derived.Laws.Pointers
import Derived.Great.Walk
namespace Go.Proofs.YbulkbkkwDoor
open Go.RowKit
set_option linter.unusedVariables false

/-- Below block B all is as it was, but for the blocks X. -/
structure KeptX (X : Nat → Prop) (B : Nat) (w w' : World) : Prop where
  os : w'.os = w.os
  output : w'.output = w.output
  size : w.heap.size ≤ w'.heap.size
  block : ∀ k, k < B → ¬ X k → w'.heap[k]? = w.heap[k]?
theorem KeptX.refl (X : Nat → Prop) (B : Nat) (w : World) : KeptX X B w w := ⟨rfl, rfl, Nat.le_refl _, fun _ _ _ => rfl⟩
theorem KeptX.trans {X : Nat → Prop} {B : Nat} {a b c : World} (h : KeptX X B a b) (k : KeptX X B b c) : KeptX X B a c :=
  ⟨k.os.trans h.os, k.output.trans h.output, Nat.le_trans h.size k.size, fun i hi hx => (k.block i hi hx).trans (h.block i hi hx)⟩
theorem KeptX.of {X : Nat → Prop} {B : Nat} {w w' : World} (h : Below B w w') : KeptX X B w w' := ⟨h.os, h.output, h.size, fun k hk _ => h.block k hk⟩
theorem KeptX.weak {X Y : Nat → Prop} {B : Nat} {w w' : World} (h : KeptX X B w w') (hxy : ∀ k, X k → Y k) : KeptX Y B w w' := ⟨h.os, h.output, h.size, fun k hk hn => h.block k hk (fun hx => hn (hxy k hx))⟩
theorem KeptX.mono {X : Nat → Prop} {B B' : Nat} {w w' : World} (h : KeptX X B w w') (hB : B' ≤ B) : KeptX X B' w w' := ⟨h.os, h.output, h.size, fun k hk => h.block k (Nat.lt_of_lt_of_le hk hB)⟩
theorem KeptX.setCell {X : Nat → Prop} {B : Nat} (w : World) (p : Addr) (v : Value) (hp : X p.block) : KeptX X B w (w.setCell p v) :=
  ⟨rfl, rfl, Nat.le_of_eq Array.size_modify.symm, fun k _ hn => Below.heap_setCell w p v k (fun e => hn (by rw [e]; exact hp))⟩
theorem KeptX.grown {X : Nat → Prop} {B : Nat} {w w' : World} {row : Option Nat} (hg : w.grownBy w' row) (hB : B ≤ w.heap.size) (hr : ∀ k, row = some k → B ≤ k) : KeptX X B w w' :=
  ⟨hg.os, hg.output, hg.size, fun k hk _ => hg.block k (by omega) (fun e => by have := hr k e.symm; omega)⟩

/-- The heap has grown, and of the old blocks only 'row' may have changed. -/
structure Grew (row : Option Nat) (w w' : World) : Prop where
  os : w'.os = w.os
  output : w'.output = w.output
  size : w.heap.size ≤ w'.heap.size
  block : ∀ k, k < w.heap.size → some k ≠ row → w'.heap[k]? = w.heap[k]?
theorem Grew.refl (row : Option Nat) (w : World) : Grew row w w := ⟨rfl, rfl, Nat.le_refl _, fun _ _ _ => rfl⟩
theorem Grew.drew (row : Option Nat) (w : World) : Grew row w w.drew := ⟨rfl, rfl, Nat.le_refl _, fun _ _ _ => rfl⟩
theorem Grew.trans {row : Option Nat} {a b c : World} (h : Grew row a b) (k : Grew row b c) : Grew row a c :=
  ⟨k.os.trans h.os, k.output.trans h.output, Nat.le_trans h.size k.size, fun i hi hr => (k.block i (Nat.lt_of_lt_of_le hi h.size) hr).trans (h.block i hi hr)⟩
theorem Grew.alloc (row : Option Nat) (w : World) (b : Obj) : Grew row w (w.alloc b) := ⟨rfl, rfl, by simp, fun k hk _ => Below.heap_alloc _ _ _ hk⟩
theorem Grew.of {row : Option Nat} {w w' : World} (h : w.grownBy w' row) : Grew row w w' := ⟨h.os, h.output, h.size, h.block⟩

/-- The environment's two fields, and the rows that they own from block B on: k targets, k messages. -/
def EnvAt (B eb : Nat) (w : World) (k : Nat) (ts ms : List Value) : Prop :=
  ∃ tv mv, w.heap[eb]? = some (.cells #[tv, mv] 26 (0, 0)) ∧ eb < B ∧ w.ownsRow B 9 1 tv k ts ∧ w.ownsRow B 89 39 mv k ms

theorem info9 : (Ybad.prog.info? 9).map (fun i => (i.zero, i.size, i.bytes)) = some (some (.string ⟨#[]⟩), 1, 16) := by kernel_rfl
theorem info89 : (Ybad.prog.info? 89).map (fun i => (i.zero, i.size, i.bytes)) = some (some (.agg z89), 39, 120) := by kernel_rfl
theorem size89 : (Ybad.prog.info? 89).map (·.size) = some 39 := by kernel_rfl

theorem heap_setCell_at {w : World} {b i : Nat} {arr : Array Value} {t : TypeId} {fr : Nat × Nat} (h : w.heap[b]? = some (.cells arr t fr)) (v : Value) : (w.setCell ⟨b, i, none⟩ v).heap[b]? = some (.cells (arr.setIfInBounds i v) t fr) := by
  simp only [World.setCell, Array.getElem?_modify, if_true, h, Option.map_some]
  simp
theorem frozen_row {w : World} {b : Nat} {arr : Array Value} {t : TypeId} (h : w.heap[b]? = some (.cells arr t (0, 0))) (i : Nat) : w.frozen? ⟨b, i, none⟩ = false := by
  unfold World.frozen?
  rw [h]
  simp
theorem ownsRow_block {w w' : World} {B : Nat} {e : TypeId} {size : Nat} {v : Value} {n : Nat} {xs : List Value} (h : w.ownsRow B e size v n xs) (hb : ∀ k, v.ownBlock = some k → w'.heap[k]? = w.heap[k]?) : w'.ownsRow B e size v n xs := by
  refine ⟨h.1, ?_⟩
  rcases h.2 with h0 | ⟨g, cap, cur, rfl, h1, h2, h3⟩
  · exact .inl h0
  · exact .inr ⟨g, cap, cur, rfl, h1, by rw [hb g rfl]; exact h2, h3⟩
/-- Rows of different element types lie in different blocks. -/
theorem rows_apart {w : World} {B e e' size size' n n' : Nat} {v v' : Value} {xs xs' : List Value} (h : w.ownsRow B e size v n xs) (h' : w.ownsRow B e' size' v' n' xs') (he : e ≠ e') (k : Nat) (hk : v.ownBlock = some k) : v'.ownBlock ≠ some k := by
  intro hk'
  rcases h.2 with ⟨rfl, _⟩ | ⟨g, cap, cur, rfl, h1, h2, h3⟩
  · cases hk
  rcases h'.2 with ⟨rfl, _⟩ | ⟨g', cap', cur', rfl, h1', h2', h3'⟩
  · cases hk'
  simp [Value.ownBlock] at hk hk'
  subst hk; subst hk'
  rw [h2] at h2'
  simp at h2'
  exact he h2'.2

/-- Between the two appends. -/
theorem send_mid {B eb k : Nat} {w w1 : World} {tv mv tv' : Value} {ts mss : List Value} {ms : Array Value} {to : ByteArray} (he : w.heap[eb]? = some (.cells #[tv, mv] 26 (0, 0))) (heB : eb < B) (hB : B ≤ w.heap.size) (ht : w.ownsRow B 9 1 tv k ts) (hm : w.ownsRow B 89 39 mv k mss)
    (hown : w1.ownsRow B 9 1 tv' (k + 1) (ts ++ [.string to])) (hg : ((w.alloc (.cells ms 89)).alloc (.cells #[.string to] 9)).grownBy w1 tv.ownBlock) :
    (w1.setCell ⟨eb, 0, none⟩ tv').heap[eb]? = some (.cells #[tv', mv] 26 (0, 0)) ∧ (w1.setCell ⟨eb, 0, none⟩ tv').heap[w.heap.size]? = some (.cells ms 89 (0, 0)) ∧
    (w1.setCell ⟨eb, 0, none⟩ tv').ownsRow B 9 1 tv' (k + 1) (ts ++ [.string to]) ∧ (w1.setCell ⟨eb, 0, none⟩ tv').ownsRow B 89 39 mv k mss ∧ KeptX (· = eb) B w (w1.setCell ⟨eb, 0, none⟩ tv') ∧ w1.heap[eb]? = some (.cells #[tv, mv] 26 (0, 0)) := by
  have hrow : ∀ k, tv.ownBlock = some k → B ≤ k ∧ k < w.heap.size := ht.lt
  have hold : ∀ j, j < w.heap.size → some j ≠ tv.ownBlock → w1.heap[j]? = w.heap[j]? := by
    intro j hj hne
    rw [hg.block j (by simp; omega) hne, Below.heap_alloc _ _ _ (by simp; omega), Below.heap_alloc _ _ _ hj]
  have he1 : w1.heap[eb]? = some (.cells #[tv, mv] 26 (0, 0)) := by
    rw [hold eb (by omega) (fun e => by have := hrow eb e.symm; omega)]
    exact he
  have hne : ∀ j, j ≠ eb → (w1.setCell ⟨eb, 0, none⟩ tv').heap[j]? = w1.heap[j]? := fun j hj => Below.heap_setCell w1 ⟨eb, 0, none⟩ tv' j hj
  refine ⟨heap_setCell_at he1 tv', ?_, ?_, ?_, ?_, he1⟩
  · rw [hne _ (by omega), hg.block _ (by simp; omega) (fun e => by have := hrow _ e.symm; omega), Below.heap_alloc _ _ _ (by simp)]
    exact heap_alloc_new w _
  · exact ownsRow_block hown (fun j hj => hne j (by have := hown.lt j hj; omega))
  · refine ownsRow_block hm (fun j hj => ?_)
    have h1 := hm.lt j hj
    rw [hne j (by omega), hold j h1.2 (fun e => rows_apart ht hm (by decide) j e.symm hj)]
  · refine (KeptX.of (((Below.refl _ _).alloc hB _).alloc (by simp; omega) _)).trans ((KeptX.grown hg (by simp; omega) (fun j hj => (hrow j hj).1)).trans (KeptX.setCell w1 _ _ rfl))

/-- Behind both. -/
theorem send_end {B eb k : Nat} {w w3 : World} {tv mv mv' : Value} {ts mss : List Value} {ms : Array Value} (he : w.heap[eb]? = some (.cells #[tv, mv] 26 (0, 0))) (heB : eb < B) (hB : B ≤ w.heap.size) (ht : w.ownsRow B 9 1 tv k ts) (k' : Nat) (hm : w.ownsRow B 89 39 mv k' mss)
    (hown : w3.ownsRow B 89 39 mv' k (mss ++ ms.toList)) (hg : Grew mv.ownBlock w w3) :
    EnvAt B eb (w3.setCell ⟨eb, 1, none⟩ mv') k ts (mss ++ ms.toList) ∧ KeptX (· = eb) B w (w3.setCell ⟨eb, 1, none⟩ mv') ∧ w3.heap[eb]? = some (.cells #[tv, mv] 26 (0, 0)) := by
  have hrow : ∀ k, mv.ownBlock = some k → B ≤ k ∧ k < w.heap.size := hm.lt
  have he1 : w3.heap[eb]? = some (.cells #[tv, mv] 26 (0, 0)) := by
    rw [hg.block eb (by omega) (fun e => by have := hrow eb e.symm; omega)]
    exact he
  have hne : ∀ j, j ≠ eb → (w3.setCell ⟨eb, 1, none⟩ mv').heap[j]? = w3.heap[j]? := fun j hj => Below.heap_setCell w3 ⟨eb, 1, none⟩ mv' j hj
  refine ⟨⟨tv, mv', heap_setCell_at he1 mv', heB, ?_, ?_⟩, ?_, he1⟩
  · refine ownsRow_block ht (fun j hj => ?_)
    have h1 := ht.lt j hj
    rw [hne j (by omega), hg.block j h1.2 (fun e => rows_apart ht hm (by decide) j hj e.symm)]
  · exact ownsRow_block hown (fun j hj => hne j (by have := hown.lt j hj; omega))
  · refine KeptX.trans ⟨hg.os, hg.output, hg.size, fun j hj _ => hg.block j (by omega) (fun e => by have := (hrow j e.symm).1; omega)⟩ (KeptX.setCell w3 _ _ rfl)

theorem owns_form {w : World} {B e size n : Nat} {v : Value} {xs : List Value} (h : w.ownsRow B e size v (n + 1) xs) : ∃ g cap, v = .slice (some ⟨g, 0, none⟩) (n + 1) cap := by
  rcases h.2 with ⟨_, h0⟩ | ⟨g, cap, _, rfl, _⟩
  · omega
  · exact ⟨g, cap, rfl⟩

/-- The second region's table. -/
def PhiS (B eb k : Nat) (mv : Value) (ms : Array Value) (mss : List Value) (s0 : Nat) (j : Nat) (v : Value) (w : World) : Prop :=
  match j with
  | 0 => v = .pointer (some ⟨eb, 0, none⟩)
  | 1 => v = .pointer (some ⟨eb, 0, none⟩)
  | 2 => v = .pointer (some ⟨eb, 0, none⟩)
  | 3 => v = .pointer (some ⟨eb, 1, none⟩)
  | 4 => v = mv
  | 5 => v = .agg ms
  | 6 => ∃ b, v = .slice (some ⟨b, 0, none⟩) 1 1 ∧ s0 ≤ b ∧ w.heap[b]? = some (.cells ms 89 (0, 0))
  | 7 => ∃ g c, v = .slice (some ⟨g, 0, none⟩) (k + 1) c ∧ w.ownsRow B 89 39 v (k + 1) (mss ++ ms.toList)
  | 8 => v = .pointer (some ⟨eb, 0, none⟩)
  | 9 => v = .pointer (some ⟨eb, 1, none⟩)
  | _ => True
theorem PhiS_six (B eb k : Nat) (mv : Value) (ms : Array Value) (mss : List Value) (s0 : Nat) (i : Nat) (v : Value) (w : World) (b : Obj) (h : PhiS B eb k mv ms mss s0 i v w) : PhiS B eb k mv ms mss s0 i v (w.alloc b) := by
  unfold PhiS at h ⊢
  split at h
  case h_7 =>
    obtain ⟨b', h1, h2, h3⟩ := h
    exact ⟨b', h1, h2, by rw [Below.heap_alloc _ _ _ (Array.getElem?_eq_some_iff.1 h3).1]; exact h3⟩
  case h_8 =>
    obtain ⟨g, c, h1, h2⟩ := h
    exact ⟨g, c, h1, World.ownsRow.alloc h2 _⟩
  all_goals exact h
theorem PhiS_seven (B eb k : Nat) (mv : Value) (ms : Array Value) (mss : List Value) (s0 : Nat) (i : Nat) (v : Value) (w w' : World) (hi : i ≠ 7) (h : PhiS B eb k mv ms mss s0 i v w) (hg : w.grownBy w' mv.ownBlock) (hr : ∀ k, mv.ownBlock = some k → k < s0) : PhiS B eb k mv ms mss s0 i v w' := by
  unfold PhiS at h ⊢
  split at h
  case h_7 =>
    obtain ⟨b', h1, h2, h3⟩ := h
    exact ⟨b', h1, h2, by rw [hg.block _ (Array.getElem?_eq_some_iff.1 h3).1 (fun e => by have := hr _ e.symm; omega)]; exact h3⟩
  case h_8 => exact absurd rfl hi
  all_goals exact h

set_option maxHeartbeats 4000000 in
set_option maxRecDepth 100000 in
theorem send32 (B eb k : Nat) (to : ByteArray) (ms : Array Value) (ts mss : List Value) (w : World) (hk : k ≤ 1024) (hB : B ≤ w.heap.size) (hs : ms.size = 39) (h1 : ∀ v ∈ ms.toList, v.oneCell' = true) (hE : EnvAt B eb w k ts mss) :
    Calls Ybad.prog 32 #[.pointer (some ⟨eb, 0, none⟩), .string to, .agg ms] w fun e w' => e = .returned (.tuple #[]) ∧ EnvAt B eb w' (k + 1) (ts ++ [.string to]) (mss ++ ms.toList) ∧ KeptX (· = eb) B w w' := by
  obtain ⟨tv, mv, he, heB, ht, hm⟩ := hE
  obtain ⟨i9, hi9, hz9, hs9, hb9⟩ := info_parts info9
  obtain ⟨i89, hi89, hz89, hs89, hb89⟩ := info_parts info89
  have c0 : w.cell? ⟨eb, 0, none⟩ = some tv := by rw [cell_of_row _ _ _ _ 26 (0, 0) he]; rfl
  have heb : eb < w.heap.size := by omega
  have HE : Hid _ := he
  have HT : Hid (w.ownsRow B 9 1 tv k ts) := ht
  have HM : Hid (w.ownsRow B 89 39 mv k mss) := hm
  clear he ht hm
  go_enter Ybad.func32, Ybad.ntmps32
  go_wp2_with (at_builtin; refine wpList_append_own _ rfl _ _ 23 rfl B 9 i9 (.string ⟨#[]⟩) 1 16 Ybad.underlying23 hi9 hz9 hs9 hb9 rfl (by decide) tv k ts rfl (World.ownsRow.alloc (World.ownsRow.alloc HT.out _) _) ⟨w.heap.size + 1, 0, none⟩ 1 1 [.string to] rfl rfl ?c1 ?c2 ?c3 ?c4 ?c5 ?_)
  case c1 =>
    intro j u hj
    match j, hj with
    | 0, hj => simp at hj; subst hj; simp [Addr.add]
  case c2 => intro u hu; simp at hu; subst hu; rfl
  case c3 => unfold maxLen; omega
  case c4 => omega
  case c5 => simp; omega
  intro tv' w1 hown hg _
  obtain ⟨tg, tc, rfl⟩ := owns_form hown
  obtain ⟨e1, e2, o1, o2, k1, e0⟩ := send_mid HE.out heB hB HT.out HM.out hown hg
  have f0 : w1.cell? ⟨eb, 0, none⟩ = some tv := by rw [cell_of_row _ _ _ _ 26 (0, 0) e0]; rfl
  have f1 : w1.cell? ⟨eb, 1, none⟩ = some mv := by rw [cell_of_row _ _ _ _ 26 (0, 0) e0]; rfl
  have g0 := frozen_row e0 0
  have g1 := frozen_row e0 1
  have hmb : ∀ j, mv.ownBlock = some j → B ≤ j ∧ j < w.heap.size := fun j hj => HM.out.lt j hj
  have E1 : Hid _ := e1
  have E2 : Hid _ := e2
  have O1 : Hid (World.ownsRow (w1.setCell ⟨eb, 0, none⟩ (.slice (some ⟨tg, 0, none⟩) (k + 1) tc)) B 9 1 (.slice (some ⟨tg, 0, none⟩) (k + 1) tc) (k + 1) (ts ++ [.string to])) := o1
  have O2 : Hid (World.ownsRow (w1.setCell ⟨eb, 0, none⟩ (.slice (some ⟨tg, 0, none⟩) (k + 1) tc)) B 89 39 mv k mss) := o2
  have K1 : Hid _ := k1
  have hs1 : w.heap.size ≤ (w1.setCell ⟨eb, 0, none⟩ (.slice (some ⟨tg, 0, none⟩) (k + 1) tc)).heap.size := k1.size
  have HS1 : Hid _ := hs1
  clear e1 o1 o2 k1 hown hg HE HT HM e0 e2 hs1
  go_wp2_with fail
  have e1 := E1.out
  have e2 := E2.out
  have hs1 := HS1.out
  have o1 := O1.out
  have o2 := O2.out
  have k1 := K1.out
  clear E1 E2 HS1 O1 O2 K1
  generalize (w1.setCell ⟨eb, 0, none⟩ (.slice (some ⟨tg, 0, none⟩) (k + 1) tc)) = w0 at *
  have hlt2 : w.heap.size < w0.heap.size := (Array.getElem?_eq_some_iff.1 e2).1
  have hne : some eb ≠ mv.ownBlock := fun e => by have := (hmb eb e.symm).1; omega
  have hnb : some w.heap.size ≠ mv.ownBlock := fun e => by have := (hmb _ e.symm).2; omega
  have hcell : ∀ w2, Grew mv.ownBlock w0 w2 → w2.cell? ⟨eb, 1, none⟩ = some mv := fun w2 hg => by
    rw [cell_of_row _ _ _ _ 26 (0, 0) ((hg.block eb (by omega) hne).trans e1)]
    rfl
  refine wp_region_tail 10 (by kernel_rfl) [16, 17, 18, 19, 20, 21, 22, 23, 24, 25] (PhiS B eb k mv ms mss w0.heap.size) (Grew mv.ownBlock) 7 (fun w2 => w2.ownsRow B 89 39 mv k mss) o2 (fun _ _ _ => Grew.trans) (Grew.drew _ _) (by decide) (by kernel_rfl) (by kernel_rfl) ?hend ⟨?_, ?_, ?_, ?_, ?_, ?_, ?_, ?_, ?_, ?_, trivial⟩
  case hend =>
    intro a w3 hr hg hall
    obtain ⟨v, hv, mg, mc, rfl, hown⟩ := hall 7 (by decide)
    obtain ⟨v, hv9, rfl⟩ := hall 9 (by decide)
    obtain ⟨f1, f2, f3⟩ := send_end e1 heB (Nat.le_trans hB hs1) o1 k o2 hown hg
    refine tail_one rfl (wp_skip _ (g_store24 rfl hv9 hv (hcell w3 hg) (frozen_row f3 1)) ?_)
    refine wpList_nil ?_
    exact Go.Great.bodyPost_end0 rfl hr.defers ⟨rfl, f1, k1.trans f2⟩
  · exact fun a w2 hr hg hj hd => wp_val _ _ (g_move rfl (hr.other 0 rfl)) ⟨_, rfl, rfl, fun _ _ _ h => h, fun _ h => h, Grew.refl _ _⟩
  · exact fun a w2 hr hg hj hd => wp_val _ _ (g_move rfl (hr.other 0 rfl)) ⟨_, rfl, rfl, fun _ _ _ h => h, fun _ h => h, Grew.refl _ _⟩
  · exact fun a w2 hr hg hj hd => by
      obtain ⟨v, hv, rfl⟩ := hd ⟨1, .data⟩ (by simp) rfl
      exact wp_val _ _ (g_nil rfl hv) ⟨_, rfl, rfl, fun _ _ _ h => h, fun _ h => h, Grew.refl _ _⟩
  · exact fun a w2 hr hg hj hd => by
      obtain ⟨v, hv, rfl⟩ := hd ⟨2, .data⟩ (by simp) rfl
      exact wp_val _ _ (g_fld 26 1 1 rfl hv (by decide)) ⟨_, rfl, rfl, fun _ _ _ h => h, fun _ h => h, Grew.refl _ _⟩
  · exact fun a w2 hr hg hj hd => by
      obtain ⟨v, hv, rfl⟩ := hd ⟨3, .data⟩ (by simp) rfl
      exact wp_val _ _ (g_ld 24 rfl hv (hcell w2 hg) (by decide)) ⟨_, rfl, rfl, fun _ _ _ h => h, fun _ h => h, Grew.refl _ _⟩
  · exact fun a w2 hr hg hj hd => by
      refine wp_load_mid 89 _ rfl w.heap.size 0 (ev (hr.other 5 rfl)) ms.toList _ (fun j v hv => ?_) Ybad.underlying89 rfl (by rw [Array.length_toList, hs]; exact size89) ⟨_, rfl, ?_, fun _ _ _ h => h, fun _ h => h, Grew.refl _ _⟩
      · rw [cell_of_row _ _ _ _ 89 (0, 0) ((hg.block _ (by omega) hnb).trans e2), Nat.zero_add]
        simpa using hv
      · exact congrArg Value.agg (Array.toArray_toList ..)
  · exact fun a w2 hr hg hj hd => by
      obtain ⟨v, hv, rfl⟩ := hd ⟨5, .data⟩ (by simp) rfl
      exact wp_val _ _ (g_bsl24 rfl hv hs) ⟨_, rfl, ⟨_, rfl, hg.size, heap_alloc_new _ _⟩, fun i u _ h => PhiS_six _ _ _ _ _ _ _ _ _ _ _ h, fun _ h => World.ownsRow.alloc h _, Grew.alloc _ _ _⟩
  · exact fun a w2 hr hg hj hd => by
      obtain ⟨v, hv, rfl⟩ := hd ⟨4, .data⟩ (by simp) rfl
      obtain ⟨v, hv6, b, rfl, hb0, hb⟩ := hd ⟨6, .data⟩ (by simp) rfl
      have hgs := hg.size
      refine wp_append_own w2 _ _ 24 rfl B 89 i89 (.agg z89) 39 120 Ybad.underlying24 hi89 hz89 hs89 hb89 rfl (by decide) _ k mss (ev hv) (hj rfl) ⟨b, 0, none⟩ 1 1 ms.toList (ev hv6) (by simp [hs]) (fun j u hu => ?_) h1 (by unfold maxLen; omega) (by omega) (by omega) (fun v' w' ho2 hg2 _ => ?_)
      · rw [Addr.add_lit, cell_of_row _ _ _ _ 89 (0, 0) hb, Nat.zero_add]
        simpa using hu
      · obtain ⟨g, c, rfl⟩ := owns_form ho2
        exact ⟨_, rfl, ⟨g, c, rfl, ho2⟩, fun i u hi h => PhiS_seven _ _ _ _ _ _ _ _ _ _ _ hi h hg2 (fun j hj => by have := (hmb j hj).2; omega), fun h => absurd rfl h, Grew.of hg2⟩
  · exact fun a w2 hr hg hj hd => by
      obtain ⟨v, hv, rfl⟩ := hd ⟨0, .data⟩ (by simp) rfl
      exact wp_val _ _ (g_nil rfl hv) ⟨_, rfl, rfl, fun _ _ _ h => h, fun _ h => h, Grew.refl _ _⟩
  · exact fun a w2 hr hg hj hd => by
      obtain ⟨v, hv, rfl⟩ := hd ⟨8, .data⟩ (by simp) rfl
      exact wp_val _ _ (g_fld 26 1 1 rfl hv (by decide)) ⟨_, rfl, rfl, fun _ _ _ h => h, fun _ h => h, Grew.refl _ _⟩
end Go.Proofs.YbulkbkkwDoor
