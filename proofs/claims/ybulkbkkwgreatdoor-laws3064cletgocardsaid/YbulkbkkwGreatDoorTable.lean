/-
  A LAW OF NO PROGRAM: A REGION THAT DRAWS ITS ORDER AND MAKES MEMORY, BY A TABLE: 'Phi j v w': what operation j leaves in its slot, in whatever order the operations come up. One obligation an operation (given what it waits for), none an order. Asked of the region: no guard; each operation has a slot of its own; what an operation waits for stands ahead of it in the text.
-/
import Derived.Orders
import Derived.Below
namespace Go.Proofs.YbulkbkkwGreatDoor
open Go.RowKit

theorem countP_lt {α : Type} (p q : α → Bool) : ∀ (l : List α), (∀ x ∈ l, q x = true → p x = true) → (∃ x ∈ l, p x = true ∧ q x = false) → l.countP q < l.countP p
  | [], _, h => by obtain ⟨x, hx, _⟩ := h; cases hx
  | y :: l, h1, h2 => by
    have hle : ∀ l : List α, (∀ x ∈ l, q x = true → p x = true) → l.countP q ≤ l.countP p := fun l h => List.countP_mono_left h
    rw [List.countP_cons, List.countP_cons]
    obtain ⟨x, hx, hp, hq⟩ := h2
    have ht := hle l (fun x hx => h1 x (List.mem_cons_of_mem _ hx))
    rcases List.mem_cons.1 hx with rfl | hx
    · simp [hp, hq]; omega
    · have := countP_lt p q l (fun x hx => h1 x (List.mem_cons_of_mem _ hx)) ⟨x, hx, hp, hq⟩
      have hy := h1 y (List.mem_cons_self ..)
      cases hqy : q y
      · cases p y <;> simp <;> omega
      · rw [hy hqy]; simp; omega

/-- The frame but for the region's own slots. -/
structure St (ops : Array Oper) (a0 a : Act) : Prop where
  size : a.tmps.size = a0.tmps.size
  defers : a.defers = a0.defers
  other : ∀ d : Nat, (∀ (j : Nat) o, ops[j]? = some o → o.dst ≠ some d) → a.tmps[d]? = a0.tmps[d]?

def unlisted (n : Nat) (listed : Array Bool) : Nat := (List.range n).countP fun j => !listed.getD j true

theorem unlisted_set {n i : Nat} {listed : Array Bool} (hi : i < n) (hu : listed.getD i true = false) (hs : i < listed.size) : unlisted n (listed.setIfInBounds i true) < unlisted n listed := by
  unfold unlisted
  refine countP_lt _ _ _ (fun x _ hx => ?_) ⟨i, List.mem_range.2 hi, by simp [hu], ?_⟩
  · by_cases h : i = x
    · subst h
      simp [hs] at hx
    · rwa [getD_set_ne true h] at hx
  · simp [hs]

section
variable {P : Program} {ops : Array Oper} {Q : Exit → Act → World → Prop}

theorem wp_region_table {id : Nat} {a0 : Act} {w : World} (hm : P.follows .mixedOrders = true) (Phi : Nat → Value → World → Prop)
    (hmono : ∀ j v w1 w2, Phi j v w1 → Below w1.heap.size w1 w2 → Phi j v w2)
    (hdst : ∀ (j : Nat) o, ops[j]? = some o → ∃ d, o.dst = some d ∧ d < a0.tmps.size)
    (hdis : ∀ (i j : Nat) oi oj, ops[i]? = some oi → ops[j]? = some oj → i ≠ j → oi.dst ≠ oj.dst)
    (hgd : ∀ (j : Nat) o, ops[j]? = some o → o.guard = none)
    (hlow : ∀ (j : Nat) o, ops[j]? = some o → ∀ e ∈ o.after, Region.binds .any e = true → e.on < j)
    (hstep : ∀ (j : Nat) o a w1, ops[j]? = some o → St ops a0 a → Below w.heap.size w w1 → (∀ e ∈ o.after, Region.binds .any e = true → ∃ oe d v, ops[e.on]? = some oe ∧ oe.dst = some d ∧ a.tmps[d]? = some v ∧ Phi e.on v w1) →
      Oper.wp P o a w1 (fun a' w2 => ∃ v, a' = a.put o.dst v ∧ Phi j v w2 ∧ Below w1.heap.size w1 w2) Q)
    (hend : ∀ a w1, St ops a0 a → Below w.heap.size w w1 → (∀ (j : Nat) o, ops[j]? = some o → ∃ d v, o.dst = some d ∧ a.tmps[d]? = some v ∧ Phi j v w1) → Q .normal a w1) :
    (Code.region id ops true).wp P Q a0 w := by
  refine wp_region_any hm ?_
  have key : ∀ (fuel : Nat) (listed : Array Bool) (a : Act) (w1 : World), listed.size = ops.size → unlisted ops.size listed ≤ fuel → St ops a0 a → Below w.heap.size w w1 →
      (∀ (j : Nat) o, ops[j]? = some o → listed.getD j true = true → ∃ d v, o.dst = some d ∧ a.tmps[d]? = some v ∧ Phi j v w1) → wpAny P .any ops Q fuel listed a w1 := by
    intro fuel
    -- where none may come up, all have
    have all : ∀ (listed : Array Bool), listed.size = ops.size → Region.ready .any ops listed = [] → ∀ j, j < ops.size → listed.getD j true = true := by
      intro listed hs hr j
      induction j using Nat.strongRecOn with
      | _ j ih =>
        intro hj
        cases hl : listed.getD j true with
        | true => rfl
        | false =>
          have : j ∈ Region.ready .any ops listed := mem_ready.2 ⟨hl, ops[j], Array.getElem?_eq_getElem hj, fun e he hb => by
            have h1 := hlow j _ (Array.getElem?_eq_getElem hj) e he hb
            have h2 := ih e.on h1 (by omega)
            simpa [show e.on < listed.size by omega] using h2⟩
          rw [hr] at this
          cases this
    induction fuel with
    | zero =>
      intro listed a w1 hs hf hst hb hphi
      have hr : Region.ready .any ops listed = [] := by
        cases h : Region.ready .any ops listed with
        | nil => rfl
        | cons i l =>
          exfalso
          have hi : i ∈ Region.ready .any ops listed := by rw [h]; exact List.mem_cons_self ..
          obtain ⟨hu, o, ho, _⟩ := mem_ready.1 hi
          have hlt : i < ops.size := (Array.getElem?_eq_some_iff.1 ho).1
          have := unlisted_set (n := ops.size) hlt hu (by omega)
          omega
      exact ⟨hr, hend a w1 hst hb fun j o ho => hphi j o ho (all listed hs hr j (Array.getElem?_eq_some_iff.1 ho).1)⟩
    | succ fuel ih =>
      intro listed a w1 hs hf hst hb hphi
      refine ⟨fun hr => hend a w1 hst hb fun j o ho => hphi j o ho (all listed hs hr j (Array.getElem?_eq_some_iff.1 ho).1), fun i hi => ?_⟩
      obtain ⟨hu, o, ho, hdep⟩ := mem_ready.1 hi
      have hlt : i < ops.size := (Array.getElem?_eq_some_iff.1 ho).1
      have hun := unlisted_set (n := ops.size) hlt hu (by omega)
      unfold wpOp
      simp only [ho]
      rw [if_pos (by simp [Region.wanted, hgd i o ho])]
      refine .inl (Oper.wp_mono ?_ (hstep i o a w1 ho hst hb fun e he hbd => ?_))
      · rintro a' w2 ⟨v, rfl, hv, hb2⟩
        obtain ⟨d, hd, hdl⟩ := hdst i o ho
        have hput : a.put o.dst v = { a with tmps := a.tmps.setIfInBounds d v } := by rw [hd]; rfl
        refine ih _ _ _ (by simp [hs]) (by omega) ⟨by rw [hput]; simp [hst.size], by rw [hput]; exact hst.defers, fun d' hd' => ?_⟩ (hb.trans (hb2.mono hb.size)) fun j oj hoj hl => ?_
        · rw [hput]
          have hne : d ≠ d' := fun e => hd' i o ho (by rw [hd, e])
          rw [← hst.other d' hd']
          simp [hne]
        · by_cases hij : j = i
          · subst hij
            obtain rfl : oj = o := Option.some.inj (hoj.symm.trans ho)
            refine ⟨d, v, hd, ?_, hv⟩
            rw [hput]
            simp [hst.size, hdl]
          · rw [getD_set_ne true (Ne.symm hij)] at hl
            obtain ⟨dj, vj, h1, h2, h3⟩ := hphi j oj hoj hl
            refine ⟨dj, vj, h1, ?_, hmono j vj w1 w2 h3 hb2⟩
            rw [hput]
            have hne : d ≠ dj := fun e => hdis i j o oj ho hoj (Ne.symm hij) (by rw [hd, h1, e])
            rw [← h2]
            simp [hne]
      · have hl := hdep e he hbd
        have hes : e.on < ops.size := Nat.lt_trans (hlow i o ho e he hbd) hlt
        obtain ⟨d, v, h1, h2, h3⟩ := hphi e.on ops[e.on] (Array.getElem?_eq_getElem hes) (by simpa [show e.on < listed.size by omega] using hl)
        exact ⟨_, d, v, Array.getElem?_eq_getElem hes, h1, h2, h3⟩
  refine key _ _ _ _ (by simp) ?_ ⟨rfl, rfl, fun _ _ => rfl⟩ ⟨rfl, rfl, rfl, Nat.le_refl _, fun _ _ => rfl⟩ fun j o ho hl => ?_
  · unfold unlisted
    exact Nat.le_trans (List.countP_le_length) (by simp)
  · exfalso
    have hlt : j < ops.size := (Array.getElem?_eq_some_iff.1 ho).1
    simp [hlt] at hl

/-- The region's shape, as one Bool: each operation writes its own slot 'sl j' (below n), has no guard, and waits for earlier ones alone. -/
def tableB (ops : Array Oper) (sl : List Nat) (n : Nat) : Bool :=
  (List.range ops.size).all fun j => match ops[j]? with
    | some o => (o.dst == sl[j]?) && decide (sl.getD j 0 < n) && decide (j < sl.length) && o.guard.isNone && o.after.all (fun e => !Region.binds .any e || decide (e.on < j)) && (List.range j).all (fun i => sl[i]? != sl[j]?)
    | none => true

theorem tableB_spec {sl : List Nat} {n : Nat} (h : tableB ops sl n = true) (j : Nat) (o : Oper) (ho : ops[j]? = some o) :
    o.dst = some (sl.getD j 0) ∧ sl.getD j 0 < n ∧ o.guard = none ∧ (∀ e ∈ o.after, Region.binds .any e = true → e.on < j) ∧ ∀ i, i < j → sl[i]? ≠ sl[j]? := by
  have hj : j < ops.size := (Array.getElem?_eq_some_iff.1 ho).1
  have := List.all_eq_true.1 h j (List.mem_range.2 hj)
  simp only [ho, Bool.and_eq_true, decide_eq_true_eq, beq_iff_eq, Option.isNone_iff_eq_none] at this
  obtain ⟨⟨⟨⟨⟨h1, h2⟩, h3⟩, h4⟩, h5⟩, h6⟩ := this
  refine ⟨by rw [h1]; simp [List.getD_eq_getElem?_getD, h3], h2, h4, fun e he hb => ?_, fun i hi => ?_⟩
  · have := Array.all_eq_true_iff_forall_mem.1 h5 e he
    simpa [hb] using this
  · simpa using List.all_eq_true.1 h6 i (List.mem_range.2 hi)

/-- R at each operation, with its number. -/
def AllFrom (R : Nat → Oper → Prop) : Nat → List Oper → Prop
  | _, [] => True
  | k, o :: l => R k o ∧ AllFrom R (k + 1) l
theorem allFrom_spec (R : Nat → Oper → Prop) : ∀ (k : Nat) (l : List Oper), AllFrom R k l → ∀ (j : Nat) o, l[j]? = some o → R (k + j) o
  | _, [], _, j, o, ho => by simp at ho
  | k, x :: l, h, 0, o, ho => by simp at ho; subst ho; exact h.1
  | k, x :: l, h, j + 1, o, ho => by
    have := allFrom_spec R (k + 1) l h.2 j o (by simpa using ho)
    rwa [show k + 1 + j = k + (j + 1) by omega] at this

/-- The frame but for the slots of the list. -/
structure Rest (sl : List Nat) (a0 a : Act) : Prop where
  size : a.tmps.size = a0.tmps.size
  defers : a.defers = a0.defers
  other : ∀ d : Nat, sl.contains d = false → a.tmps[d]? = a0.tmps[d]?

theorem Rest.of {sl : List Nat} {n : Nat} {a0 a : Act} (hB : tableB ops sl n = true) (h : St ops a0 a) : Rest sl a0 a :=
  ⟨h.size, h.defers, fun d hd => h.other d fun j o ho => by
    have hj := List.all_eq_true.1 hB j (List.mem_range.2 (Array.getElem?_eq_some_iff.1 ho).1)
    simp only [ho, Bool.and_eq_true, decide_eq_true_eq] at hj
    have hl : j < sl.length := hj.1.1.1.2
    rw [(tableB_spec hB j o ho).1]
    intro he
    have hm : d ∈ sl := by
      rw [← Option.some.inj he, List.getD_eq_getElem?_getD, List.getElem?_eq_getElem hl]
      exact List.getElem_mem hl
    rw [List.contains_iff_mem.2 hm] at hd
    cases hd⟩

/-- The law, for use: the slots as a list, the obligations one behind the other. -/
theorem wp_region_rows {id : Nat} {l : List Oper} {a0 : Act} {w : World} (hm : P.follows .mixedOrders = true) (sl : List Nat) (Phi : Nat → Value → World → Prop)
    (hmono : ∀ j v w1 w2, Phi j v w1 → Below w1.heap.size w1 w2 → Phi j v w2) (hB : tableB l.toArray sl a0.tmps.size = true)
    (hend : ∀ a w1, Rest sl a0 a → Below w.heap.size w w1 → (∀ j, j < l.length → ∃ v, a.tmps[sl.getD j 0]? = some v ∧ Phi j v w1) → Q .normal a w1)
    (hstep : AllFrom (fun j o => ∀ a w1, Rest sl a0 a → Below w.heap.size w w1 → (∀ e ∈ o.after, Region.binds .any e = true → ∃ v, a.tmps[sl.getD e.on 0]? = some v ∧ Phi e.on v w1) →
      Oper.wp P o a w1 (fun a' w2 => ∃ v, a' = a.put o.dst v ∧ Phi j v w2 ∧ Below w1.heap.size w1 w2) Q) 0 l) :
    (Code.region id l.toArray true).wp P Q a0 w := by
  refine wp_region_table hm Phi hmono (fun j o ho => ⟨_, (tableB_spec hB j o ho).1, (tableB_spec hB j o ho).2.1⟩) (fun i j oi oj hi hj hne => ?_) (fun j o ho => (tableB_spec hB j o ho).2.2.1)
    (fun j o ho => (tableB_spec hB j o ho).2.2.2.1) (fun j o a w1 ho hst hb hd => ?_) (fun a w1 hst hb h => hend a w1 (Rest.of hB hst) hb fun j hj => ?_)
  · have hli : i < sl.length := by
      have h := List.all_eq_true.1 hB i (List.mem_range.2 (Array.getElem?_eq_some_iff.1 hi).1)
      simp only [hi, Bool.and_eq_true, decide_eq_true_eq] at h
      exact h.1.1.1.2
    have hlj : j < sl.length := by
      have h := List.all_eq_true.1 hB j (List.mem_range.2 (Array.getElem?_eq_some_iff.1 hj).1)
      simp only [hj, Bool.and_eq_true, decide_eq_true_eq] at h
      exact h.1.1.1.2
    rw [(tableB_spec hB i oi hi).1, (tableB_spec hB j oj hj).1]
    intro he
    have he' : sl[i]? = sl[j]? := by
      simp only [List.getD_eq_getElem?_getD, List.getElem?_eq_getElem hli, List.getElem?_eq_getElem hlj, Option.getD_some, Option.some.injEq] at he ⊢
      exact he
    rcases Nat.lt_or_gt_of_ne hne with h | h
    · exact (tableB_spec hB j oj hj).2.2.2.2 i h he'
    · exact (tableB_spec hB i oi hi).2.2.2.2 j h he'.symm
  · have hs := allFrom_spec _ 0 l hstep j o (by simpa using ho)
    rw [Nat.zero_add] at hs
    refine hs a w1 (Rest.of hB hst) hb fun e he hbd => ?_
    obtain ⟨oe, d, v, h1, h2, h3, h4⟩ := hd e he hbd
    have := (tableB_spec hB e.on oe h1).1
    rw [h2] at this
    obtain rfl := Option.some.inj this
    exact ⟨v, h3, h4⟩
  · obtain ⟨d, v, h1, h2, h3⟩ := h j l[j] (by simp [hj])
    have := (tableB_spec hB j l[j] (by simp [hj])).1
    rw [h1] at this
    obtain rfl := Option.some.inj this
    exact ⟨v, h2, h3⟩

/-- An operation that yields a value. -/
theorem obl_value {o : Oper} {a : Act} {w1 : World} {R : Value → World → Prop} (v : Value) (w2 : World) (hr : (execOp a.eval o).run P w1 = .ok (.value v) w2) (h : R v w2) (hb : Below w1.heap.size w1 w2) :
    Oper.wp P o a w1 (fun a' w2 => ∃ v, a' = a.put o.dst v ∧ R v w2 ∧ Below w1.heap.size w1 w2) Q := by
  unfold Oper.wp
  rw [hr]
  exact ⟨v, rfl, h, hb⟩
/-- A call. -/
theorem obl_call {o : Oper} {a : Act} {w1 : World} {R : Value → World → Prop} (f : FuncId) (args : Array Value) (hr : (execOp a.eval o).run P w1 = .ok (.enter f args) w1)
    (h : Calls P f args w1 fun e w2 => ∃ v, e = .returned v ∧ R v w2 ∧ Below w1.heap.size w1 w2) :
    Oper.wp P o a w1 (fun a' w2 => ∃ v, a' = a.put o.dst v ∧ R v w2 ∧ Below w1.heap.size w1 w2) Q := by
  unfold Oper.wp
  rw [hr]
  refine Calls.mono h fun e w2 ⟨v, he, h1, h2⟩ => ?_
  subst he
  exact ⟨v, rfl, h1, h2⟩
end

end Go.Proofs.YbulkbkkwGreatDoor
