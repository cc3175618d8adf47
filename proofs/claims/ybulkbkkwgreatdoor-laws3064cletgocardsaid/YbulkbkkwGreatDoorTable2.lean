/-
  THE TABLE LAW, WHOLE: a region that draws its order whose first n operations come up in whatever order (by the table 'Phi'), and whose other operations each wait for all that stand ahead of them (the append, the last checks, the store): those are walked in the text's order ('wpList'). 'G': what the first n may do to the world.
-/
import Derived.Test.YbulkbkkwGreatDoorTable
import Derived.Tactics
namespace Go.Proofs.YbulkbkkwGreatDoor
open Go.RowKit

section
variable {P : Program} {Q : Exit → Act → World → Prop}

/-- Operation i waits for j: by an edge, or by way of one that it waits for. -/
def reachB (ops : List Oper) : Nat → Nat → Nat → Bool
  | 0, _, _ => false
  | f + 1, i, j => match ops[i]? with
    | some o => o.after.any fun e => Region.binds .any e && (e.on == j || reachB ops f e.on j)
    | none => false

/-- From the n-th on each operation waits for all ahead of it, and for none behind it. -/
def tailB (ops : List Oper) (n : Nat) : Bool :=
  (List.range ops.length).all fun i => decide (i < n) || match ops[i]? with
    | some o => (List.range i).all (fun j => reachB ops 16 i j) && o.after.all (fun e => !Region.binds .any e || decide (e.on < i))
    | none => true

/-- What has come up is closed under waiting. -/
def Closed (ops : List Oper) (listed : Array Bool) : Prop :=
  ∀ (j : Nat) o, ops[j]? = some o → listed.getD j false = true → ∀ e ∈ o.after, Region.binds .any e = true → listed.getD e.on false = true

theorem reachB_spec {ops : List Oper} {listed : Array Bool} (hc : Closed ops listed) : ∀ (f i j : Nat) (o : Oper), ops[i]? = some o → (∀ e ∈ o.after, Region.binds .any e = true → listed.getD e.on false = true) → reachB ops f i j = true → listed.getD j false = true
  | 0, _, _, _, _, _, h => by simp [reachB] at h
  | f + 1, i, j, o, ho, hd, h => by
    simp only [reachB, ho] at h
    rw [← Array.any_toList] at h
    obtain ⟨e, he, hb⟩ := List.any_eq_true.1 h
    rw [Array.mem_toList_iff] at he
    simp only [Bool.and_eq_true, Bool.or_eq_true, beq_iff_eq] at hb
    obtain ⟨hb1, hb2⟩ := hb
    have hl := hd e he hb1
    rcases hb2 with rfl | hr
    · exact hl
    · cases hoe : ops[e.on]? with
      | none => cases f <;> simp [reachB, hoe] at hr
      | some oe => exact reachB_spec hc f e.on j oe hoe (hc e.on oe hoe hl) hr

theorem tailB_spec {ops : List Oper} {n : Nat} (h : tailB ops n = true) (i : Nat) (o : Oper) (ho : ops[i]? = some o) (hi : n ≤ i) :
    (∀ listed, Closed ops listed → (∀ e ∈ o.after, Region.binds .any e = true → listed.getD e.on false = true) → ∀ j, j < i → listed.getD j false = true) ∧ ∀ e ∈ o.after, Region.binds .any e = true → e.on < i := by
  have hl : i < ops.length := (List.getElem?_eq_some_iff.1 ho).1
  have h1 := List.all_eq_true.1 h i (List.mem_range.2 hl)
  simp only [ho, show ¬ i < n by omega, decide_false, Bool.false_or, Bool.and_eq_true] at h1
  refine ⟨fun listed hc hd j hj => reachB_spec hc 16 i j o ho hd (List.all_eq_true.1 h1.1 j (List.mem_range.2 hj)), fun e he hb => ?_⟩
  have h2 := Array.all_eq_true_iff_forall_mem.1 h1.2 e he
  simpa [hb] using h2

theorem closed_set {ops : List Oper} {listed : Array Bool} {i : Nat} {o : Oper} (hc : Closed ops listed) (ho : ops[i]? = some o) (hd : ∀ e ∈ o.after, Region.binds .any e = true → listed.getD e.on false = true) : Closed ops (listed.setIfInBounds i true) := by
  intro j oj hoj hl e he hb
  by_cases hij : i = j
  · subst hij
    obtain rfl : oj = o := Option.some.inj (hoj.symm.trans ho)
    exact getD_set_true (hd e he hb)
  · rw [getD_set_ne false hij] at hl
    exact getD_set_true (hc j oj hoj hl e he hb)

/-- The tail, one behind the other. -/
theorem wpAny_seq {ops : List Oper} {n : Nat} (hT : tailB ops n = true) : ∀ (d k fuel : Nat) (listed : Array Bool) (a : Act) (w : World), k + d = ops.length → n ≤ k → d ≤ fuel → listed.size = ops.length →
    (∀ j, j < k → listed.getD j true = true) → (∀ j, k ≤ j → j < ops.length → listed.getD j true = false) → Closed ops listed → wpList P ops.toArray Q (ops.drop k) a w → wpAny P .any ops.toArray Q fuel listed a w := by
  intro d
  induction d with
  | zero =>
    intro k fuel listed a w hk hn hf hs h1 h2 hcl h
    have hd : ops.drop k = [] := List.drop_eq_nil_of_le (by omega)
    rw [hd] at h
    have hr : Region.ready .any ops.toArray listed = [] := by
      cases hr : Region.ready .any ops.toArray listed with
      | nil => rfl
      | cons i l =>
        exfalso
        have hi : i ∈ Region.ready .any ops.toArray listed := by rw [hr]; exact List.mem_cons_self ..
        obtain ⟨hu, o, ho, _⟩ := mem_ready.1 hi
        have hil : i < ops.length := by simpa using (Array.getElem?_eq_some_iff.1 ho).1
        rw [h1 i (by omega)] at hu
        cases hu
    cases fuel with
    | zero => exact ⟨hr, h⟩
    | succ fuel => exact ⟨fun _ => h, fun i hi => by rw [hr] at hi; cases hi⟩
  | succ d ih =>
    intro k fuel listed a w hk hn hf hs h1 h2 hcl h
    have hkl : k < ops.length := by omega
    have hok : ops[k]? = some ops[k] := List.getElem?_eq_getElem hkl
    have hdrop : ops.drop k = ops[k] :: ops.drop (k + 1) := List.drop_eq_getElem_cons hkl
    rw [hdrop] at h
    obtain ⟨fuel, rfl⟩ : ∃ f, fuel = f + 1 := ⟨fuel - 1, by omega⟩
    have hkr : k ∈ Region.ready .any ops.toArray listed := mem_ready.2 ⟨h2 k (Nat.le_refl _) hkl, ops[k], by simp [hkl], fun e he hb => by
      have hlt := (tailB_spec hT k _ hok hn).2 e he hb
      have := h1 e.on hlt
      simpa [show e.on < listed.size by omega] using this⟩
    refine ⟨fun hr => (by rw [hr] at hkr; cases hkr), fun i hi => ?_⟩
    obtain ⟨hu, o, ho, hdep⟩ := mem_ready.1 hi
    have hil : i < ops.length := by simpa using (Array.getElem?_eq_some_iff.1 ho).1
    have ho' : ops[i]? = some o := by simpa using ho
    have hki : k ≤ i := by
      rcases Nat.lt_or_ge i k with hlt | hge
      · rw [h1 i hlt] at hu; cases hu
      · exact hge
    obtain rfl : i = k := by
      rcases Nat.lt_or_ge k i with hlt | hge
      · exfalso
        have h3 := (tailB_spec hT i o ho' (by omega)).1 listed hcl hdep k hlt
        have h4 := h2 k (Nat.le_refl _) hkl
        have hks : k < listed.size := by omega
        simp [hks] at h3 h4
        rw [h3] at h4
        cases h4
      · omega
    obtain rfl : o = ops[i] := Option.some.inj (ho'.symm.trans hok)
    have step : ∀ a' w', wpList P ops.toArray Q (ops.drop (i + 1)) a' w' → wpAny P .any ops.toArray Q fuel (listed.setIfInBounds i true) a' w' := fun a' w' h' => by
      refine ih (i + 1) fuel _ a' w' (by omega) (by omega) (by omega) (by simp [hs]) (fun j hj => ?_) (fun j hj hjl => ?_) (closed_set hcl ho' hdep) h'
      · by_cases hji : j = i
        · subst hji; simp [hs, hil]
        · rw [getD_set_ne true (Ne.symm hji)]; exact h1 j (by omega)
      · rw [getD_set_ne true (by omega)]; exact h2 j (by omega) hjl
    unfold wpList at h
    unfold wpOp
    simp only [ho]
    split
    · rename_i hw
      rw [if_pos hw] at h
      rcases h with h | h
      · exact .inl (Oper.wp_mono step h)
      · exact .inr h
    · rename_i hw
      rw [if_neg hw] at h
      exact step _ _ h

theorem wp_region_tail {id : Nat} {ops : List Oper} {a0 : Act} {w : World} (n : Nat) (hm : P.follows .mixedOrders = true) (sl : List Nat) (Phi : Nat → Value → World → Prop) (G : World → World → Prop) (p : Nat) (J : World → Prop) (hJ : J w.drew)
    (hG : ∀ a b c, G a b → G b c → G a c) (hG0 : G w w.drew) (hn : n ≤ ops.length)
    (hB : tableB (ops.take n).toArray sl a0.tmps.size = true) (hT : tailB ops n = true)
    (hend : ∀ a w1, Rest sl a0 a → G w w1 → (∀ j, j < n → ∃ v, a.tmps[sl.getD j 0]? = some v ∧ Phi j v w1) → wpList P ops.toArray Q (ops.drop n) a w1)
    (hstep : AllFrom (fun j o => ∀ a w1, Rest sl a0 a → G w w1 → (j = p → J w1) → (∀ e ∈ o.after, Region.binds .any e = true → ∃ v, a.tmps[sl.getD e.on 0]? = some v ∧ Phi e.on v w1) →
      Oper.wp P o a w1 (fun a' w2 => ∃ v, a' = a.put o.dst v ∧ Phi j v w2 ∧ (∀ i u, i ≠ j → Phi i u w1 → Phi i u w2) ∧ (j ≠ p → J w1 → J w2) ∧ G w1 w2) Q) 0 (ops.take n)) :
    (Code.region id ops.toArray true).wp P Q a0 w := by
  refine wp_region_any hm ?_
  have hget : ∀ j, j < n → (ops.take n).toArray[j]? = ops[j]? := fun j hj => by simp [hj]
  have hlen : ∀ j, j < n → j < sl.length := fun j hj => by
    have hjl : j < ops.length := by omega
    have h := List.all_eq_true.1 hB j (List.mem_range.2 (by simp; omega))
    simp only [hget j hj, List.getElem?_eq_getElem hjl, Bool.and_eq_true, decide_eq_true_eq] at h
    exact h.1.1.1.2
  have key : ∀ (fuel : Nat) (listed : Array Bool) (a : Act) (w1 : World), listed.size = ops.length → (∀ j, n ≤ j → j < ops.length → listed.getD j true = false) → unlisted ops.length listed ≤ fuel → ops.length - n ≤ fuel → Closed ops listed → (listed.getD p false = false → J w1) → Rest sl a0 a → G w w1 →
      (∀ j, j < n → listed.getD j true = true → ∃ v, a.tmps[sl.getD j 0]? = some v ∧ Phi j v w1) → wpAny P .any ops.toArray Q fuel listed a w1 := by
    intro fuel
    induction fuel with
    | zero =>
      intro listed a w1 hs htl hf hft hcl hj hst hb hphi
      have hall : ∀ j, j < n → listed.getD j true = true := fun j hj => by
        cases hl : listed.getD j true with
        | true => rfl
        | false => have := unlisted_set (n := ops.length) (i := j) (by omega) hl (by omega); omega
      exact wpAny_seq hT (ops.length - n) n 0 listed a w1 (by omega) (Nat.le_refl _) hft hs hall htl hcl (hend a w1 hst hb fun j hj => hphi j hj (hall j hj))
    | succ fuel ih =>
      intro listed a w1 hs htl hf hft hcl hj hst hb hphi
      by_cases hall : ∀ j, j < n → listed.getD j true = true
      · exact wpAny_seq hT (ops.length - n) n (fuel + 1) listed a w1 (by omega) (Nat.le_refl _) hft hs hall htl hcl (hend a w1 hst hb fun j hj => hphi j hj (hall j hj))
      · have some_ready : Region.ready .any ops.toArray listed ≠ [] := by
          intro hr
          apply hall
          intro j
          induction j using Nat.strongRecOn with
          | _ j ihj =>
            intro hj
            cases hlj : listed.getD j true with
            | true => rfl
            | false =>
              have hjl : j < ops.length := by omega
              have hoj : (ops.take n).toArray[j]? = some ops[j] := by rw [hget j hj]; exact List.getElem?_eq_getElem hjl
              have : j ∈ Region.ready .any ops.toArray listed := mem_ready.2 ⟨hlj, ops[j], by simp [hjl], fun e he hbd => by
                have h1 := (tableB_spec hB j _ hoj).2.2.2.1 e he hbd
                have h2 := ihj e.on h1 (by omega)
                simpa [show e.on < listed.size by omega] using h2⟩
              rw [hr] at this
              cases this
        refine ⟨fun hr => absurd hr some_ready, fun i hi => ?_⟩
        obtain ⟨hu, o, ho, hdep⟩ := mem_ready.1 hi
        have hlt : i < ops.length := by simpa using (Array.getElem?_eq_some_iff.1 ho).1
        have ho' : ops[i]? = some o := by simpa using ho
        have hin : i < n := by
          rcases Nat.lt_or_ge i n with h | h
          · exact h
          · exfalso
            apply hall
            intro j hj
            have h3 := (tailB_spec hT i o ho' h).1 listed hcl hdep j (by omega)
            simpa [show j < listed.size by omega] using h3
        have hoi : (ops.take n).toArray[i]? = some o := by rw [hget i hin]; exact ho'
        have hsp := tableB_spec hB i o hoi
        have hun := unlisted_set (n := ops.length) hlt hu (by omega)
        unfold wpOp
        simp only [ho]
        rw [if_pos (by simp [Region.wanted, hsp.2.2.1])]
        have hstp := allFrom_spec _ 0 (ops.take n) hstep i o (by simpa using hoi)
        rw [Nat.zero_add] at hstp
        refine .inl (Oper.wp_mono ?_ (hstp a w1 hst hb (fun e => hj (by
          subst e
          simpa [show i < listed.size by omega] using hu)) fun e he hbd => ?_))
        · rintro a' w2 ⟨v, rfl, hv, hpres, hj2, hb2⟩
          have hput : a.put o.dst v = { a with tmps := a.tmps.setIfInBounds (sl.getD i 0) v } := by rw [hsp.1]; rfl
          have hcount : ops.length - n ≤ fuel := by
            have : unlisted ops.length (listed.setIfInBounds i true) ≤ fuel := by omega
            refine Nat.le_trans ?_ this
            unfold unlisted
            have hsplit : List.range ops.length = List.range n ++ (List.range (ops.length - n)).map (n + ·) := by
              rw [← List.range_add]; congr 1; omega
            rw [hsplit, List.countP_append]
            have : ((List.range (ops.length - n)).map (n + ·)).countP (fun j => !(listed.setIfInBounds i true).getD j true) = ops.length - n := by
              rw [List.countP_eq_length.2]
              · simp
              · intro x hx
                obtain ⟨y, hy, rfl⟩ := List.mem_map.1 hx
                have hy' := List.mem_range.1 hy
                rw [getD_set_ne true (by omega), htl (n + y) (by omega) (by omega)]
                rfl
            omega
          refine ih _ _ _ (by simp [hs]) (fun j hj hjl => by rw [getD_set_ne true (by omega)]; exact htl j hj hjl) (by omega) hcount (closed_set hcl ho' hdep) (fun hp => ?_) ⟨by rw [hput]; simp [hst.size], by rw [hput]; exact hst.defers, fun d' hd' => ?_⟩ (hG _ _ _ hb hb2) fun j hj hl => ?_
          · have hip : i ≠ p := by
              rintro rfl
              simp [hs, hlt] at hp
            rw [getD_set_ne false hip] at hp
            exact hj2 hip (hj hp)
          · rw [hput]
            have hne : sl.getD i 0 ≠ d' := by
              intro e
              have hmem : d' ∈ sl := by
                rw [← e, List.getD_eq_getElem?_getD, List.getElem?_eq_getElem (hlen i hin)]
                exact List.getElem_mem _
              rw [List.contains_iff_mem.2 hmem] at hd'
              cases hd'
            rw [← hst.other d' hd']
            exact Array.getElem?_setIfInBounds_ne hne
          · by_cases hij : j = i
            · subst hij
              refine ⟨v, ?_, hv⟩
              rw [hput]
              exact Array.getElem?_setIfInBounds_self_of_lt (by rw [hst.size]; exact hsp.2.1)
            · rw [getD_set_ne true (Ne.symm hij)] at hl
              obtain ⟨vj, h2, h3⟩ := hphi j hj hl
              refine ⟨vj, ?_, hpres j vj hij h3⟩
              rw [hput]
              have hjl : j < ops.length := by omega
              have hne : sl.getD i 0 ≠ sl.getD j 0 := by
                intro e
                have e' : sl[i]? = sl[j]? := by
                  simp only [List.getD_eq_getElem?_getD, List.getElem?_eq_getElem (hlen i hin), List.getElem?_eq_getElem (hlen j hj), Option.getD_some, Option.some.injEq] at e ⊢
                  exact e
                rcases Nat.lt_or_gt_of_ne hij with h | h
                · exact hsp.2.2.2.2 j h e'.symm
                · exact (tableB_spec hB j ops[j] (by rw [hget j hj]; exact List.getElem?_eq_getElem hjl)).2.2.2.2 i h e'
              rw [← h2]
              exact Array.getElem?_setIfInBounds_ne hne
        · have hl := hdep e he hbd
          have hes : e.on < i := hsp.2.2.2.1 e he hbd
          exact hphi e.on (by omega) (by simpa [show e.on < listed.size by omega] using hl)
  refine key _ _ _ _ (by simp) (fun j _ hj => by simp [hj]) ?_ (by simp) (fun j o ho hl => by
    have hjl : j < ops.length := (List.getElem?_eq_some_iff.1 ho).1
    simp [hjl] at hl) (fun _ => hJ) ⟨rfl, rfl, fun _ _ => rfl⟩ hG0 fun j hj hl => ?_
  · unfold unlisted
    exact Nat.le_trans (List.countP_le_length) (by simp)
  · exfalso
    simp [show j < ops.length by omega] at hl

/-- An operation that yields a value and leaves the world as it is. -/
theorem obl_still {o : Oper} {a : Act} {w1 : World} {j : Nat} {Phi : Nat → Value → World → Prop} {G : World → World → Prop} {p : Nat} {J : World → Prop} (v : Value) (hr : (execOp a.eval o).run P w1 = .ok (.value v) w1) (h : Phi j v w1) (hb : G w1 w1) :
    Oper.wp P o a w1 (fun a' w2 => ∃ v, a' = a.put o.dst v ∧ Phi j v w2 ∧ (∀ i u, i ≠ j → Phi i u w1 → Phi i u w2) ∧ (j ≠ p → J w1 → J w2) ∧ G w1 w2) Q := by
  unfold Oper.wp
  rw [hr]
  exact ⟨v, rfl, h, fun _ _ _ h => h, fun _ h => h, hb⟩
/-- .. and does something to it. -/
theorem obl_val {o : Oper} {a : Act} {w1 : World} {j : Nat} {Phi : Nat → Value → World → Prop} {G : World → World → Prop} {p : Nat} {J : World → Prop} (v : Value) (w2 : World) (hr : (execOp a.eval o).run P w1 = .ok (.value v) w2) (h : Phi j v w2) (hp : ∀ i u, i ≠ j → Phi i u w1 → Phi i u w2) (hj : j ≠ p → J w1 → J w2) (hb : G w1 w2) :
    Oper.wp P o a w1 (fun a' w2 => ∃ v, a' = a.put o.dst v ∧ Phi j v w2 ∧ (∀ i u, i ≠ j → Phi i u w1 → Phi i u w2) ∧ (j ≠ p → J w1 → J w2) ∧ G w1 w2) Q := by
  unfold Oper.wp
  rw [hr]
  exact ⟨v, rfl, h, hp, hj, hb⟩
/-- A call. -/
theorem obl_ent {o : Oper} {a : Act} {w1 : World} {j : Nat} {Phi : Nat → Value → World → Prop} {G : World → World → Prop} {p : Nat} {J : World → Prop} (f : FuncId) (args : Array Value) (hr : (execOp a.eval o).run P w1 = .ok (.enter f args) w1)
    (h : Calls P f args w1 fun e w2 => ∃ v, e = .returned v ∧ Phi j v w2 ∧ (∀ i u, i ≠ j → Phi i u w1 → Phi i u w2) ∧ (j ≠ p → J w1 → J w2) ∧ G w1 w2) :
    Oper.wp P o a w1 (fun a' w2 => ∃ v, a' = a.put o.dst v ∧ Phi j v w2 ∧ (∀ i u, i ≠ j → Phi i u w1 → Phi i u w2) ∧ (j ≠ p → J w1 → J w2) ∧ G w1 w2) Q := by
  unfold Oper.wp
  rw [hr]
  refine Calls.mono h fun e w2 ⟨v, he, h1, h2, h3, h4⟩ => ?_
  subst he
  exact ⟨v, rfl, h1, h2, h3, h4⟩
/-- One operation of the tail. -/
theorem tail_one {ops : Array Oper} {o : Oper} {l : List Oper} {a : Act} {w : World} (hg : o.guard = none) (h : Oper.wp P o a w (wpList P ops Q l) Q) : wpList P ops Q (o :: l) a w := by
  unfold wpList
  rw [if_pos (by simp [Region.wanted, hg])]
  exact .inl h
theorem wp_val {o : Oper} {a : Act} {w : World} {K : Act → World → Prop} (v : Value) (w' : World) (hr : (execOp a.eval o).run P w = .ok (.value v) w') (h : K (a.put o.dst v) w') : Oper.wp P o a w K Q := by
  unfold Oper.wp
  rw [hr]
  exact h
theorem wp_skip {o : Oper} {a : Act} {w : World} {K : Act → World → Prop} (w' : World) (hr : (execOp a.eval o).run P w = .ok .skip w') (h : K (a.put o.dst undef) w') : Oper.wp P o a w K Q := by
  unfold Oper.wp
  rw [hr]
  exact h
theorem wp_ent {o : Oper} {a : Act} {w : World} {K : Act → World → Prop} (f : FuncId) (args : Array Value) (hr : (execOp a.eval o).run P w = .ok (.enter f args) w) (h : Calls P f args w fun e w2 => ∃ v, e = .returned v ∧ K (a.put o.dst v) w2) : Oper.wp P o a w K Q := by
  unfold Oper.wp
  rw [hr]
  refine Calls.mono h fun e w2 ⟨v, he, h1⟩ => ?_
  subst he
  exact h1
/-- The frame behind a region, slot by slot. -/
theorem frame_of {sl : List Nat} {l : List Value} {a : Act} (h : Rest sl ⟨l.toArray, []⟩ a) : ∃ us : Nat → Value, a = ⟨((List.range l.length).map fun d => if sl.contains d then us d else l.getD d undef).toArray, []⟩ := by
  refine ⟨fun d => a.tmps.getD d undef, ?_⟩
  obtain ⟨t, df⟩ := a
  have hd := h.defers
  have hs := h.size
  have ho := h.other
  simp only at hd hs ho ⊢
  subst hd
  congr 1
  apply Array.ext
  · simpa using hs
  · intro i h1 h2
    have hi : i < l.length := by simpa [hs] using h1
    cases e : sl.contains i with
    | true => simp [h1, List.contains_iff_mem.1 e]
    | false =>
      have := ho i e
      rw [Array.getElem?_eq_getElem h1] at this
      have hn : i ∉ sl := fun hm => by rw [List.contains_iff_mem.2 hm] at e; cases e
      simp [hi] at this
      simp [hn, hi, this]
end
end Go.Proofs.YbulkbkkwGreatDoor
