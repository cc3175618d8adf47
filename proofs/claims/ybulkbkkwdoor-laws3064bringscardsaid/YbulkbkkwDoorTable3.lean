/-
  THE TABLE LAW WITH GUARDS: as Table2's, where each guard ('&&', '||') is known to let its operation run: the table says of the operation that it hangs on that it yields that very Bool.
-/
import Derived.Test.YbulkbkkwDoorTable2
namespace Go.Proofs.YbulkbkkwDoor
open Go.RowKit

section
variable {P : Program} {Q : Exit → Act → World → Prop}

/-- The region's shape: as 'tableB', but that an operation may hang on one that it waits for. -/
def tableG (ops : Array Oper) (sl : List Nat) (n : Nat) : Bool :=
  (List.range ops.size).all fun j => match ops[j]? with
    | some o => (o.dst == sl[j]?) && decide (sl.getD j 0 < n) && decide (j < sl.length) && (match o.guard with | none => true | some (g, _) => o.after.any fun e => e.on == g && Region.binds .any e) && o.after.all (fun e => !Region.binds .any e || decide (e.on < j)) && (List.range j).all (fun i => sl[i]? != sl[j]?)
    | none => true

theorem tableG_spec {ops : Array Oper} {sl : List Nat} {n : Nat} (h : tableG ops sl n = true) (j : Nat) (o : Oper) (ho : ops[j]? = some o) :
    o.dst = some (sl.getD j 0) ∧ sl.getD j 0 < n ∧ (∀ g b, o.guard = some (g, b) → ∃ e ∈ o.after, e.on = g ∧ Region.binds .any e = true) ∧ (∀ e ∈ o.after, Region.binds .any e = true → e.on < j) ∧ ∀ i, i < j → sl[i]? ≠ sl[j]? := by
  have hj : j < ops.size := (Array.getElem?_eq_some_iff.1 ho).1
  have := List.all_eq_true.1 h j (List.mem_range.2 hj)
  simp only [ho, Bool.and_eq_true, decide_eq_true_eq, beq_iff_eq] at this
  obtain ⟨⟨⟨⟨⟨h1, h2⟩, h3⟩, h4⟩, h5⟩, h6⟩ := this
  refine ⟨by rw [h1]; simp [List.getD_eq_getElem?_getD, h3], h2, fun g b hg => ?_, fun e he hb => ?_, fun i hi => ?_⟩
  · rw [hg] at h4
    replace h4 : (o.after.any fun e => e.on == g && Region.binds .any e) = true := h4
    rw [← Array.any_toList] at h4
    obtain ⟨e, he, hb⟩ := List.any_eq_true.1 h4
    simp only [Bool.and_eq_true, beq_iff_eq] at hb
    exact ⟨e, Array.mem_toList_iff.1 he, hb.1, hb.2⟩
  · have := Array.all_eq_true_iff_forall_mem.1 h5 e he
    simpa [hb] using this
  · simpa using List.all_eq_true.1 h6 i (List.mem_range.2 hi)

theorem wp_region_guard {id : Nat} {ops : List Oper} {a0 : Act} {w : World} (n : Nat) (hm : P.follows .mixedOrders = true) (sl : List Nat) (Phi : Nat → Value → World → Prop) (G : World → World → Prop) (p : Nat) (J : World → Prop) (hJ : J w.drew)
    (hG : ∀ a b c, G a b → G b c → G a c) (hG0 : G w w.drew) (hn : n ≤ ops.length)
    (hB : tableG (ops.take n).toArray sl a0.tmps.size = true) (hT : tailB ops n = true)
    (hgd : AllFrom (fun _ o => ∀ g b, o.guard = some (g, b) → ∀ v w1, Phi g v w1 → v = .bool b) 0 (ops.take n))
    (hend : ∀ a w1, Rest sl a0 a → G w w1 → (∀ j, j < n → ∃ v, a.tmps[sl.getD j 0]? = some v ∧ Phi j v w1) → wpList P ops.toArray Q (ops.drop n) a w1)
    (hstep : AllFrom (fun j o => ∀ a w1, Rest sl a0 a → G w w1 → (j = p → J w1) → (∀ e ∈ o.after, Region.binds .any e = true → ∃ v, a.tmps[sl.getD e.on 0]? = some v ∧ Phi e.on v w1) →
      Oper.wp P o a w1 (fun a' w2 => ∃ v, a' = a.put o.dst v ∧ Phi j v w2 ∧ (∀ i u, i ≠ j → Phi i u w1 → Phi i u w2) ∧ (j ≠ p → J w1 → J w2) ∧ G w1 w2) Q) 0 (ops.take n)) :
    (Code.region id ops.toArray true).wp P Q a0 w := by
  refine wp_region_any hm ?_
  have hget : ∀ j, j < n → (ops.take n).toArray[j]? = ops[j]? := fun j hj => by simp [hj]
  have hlen : ∀ j, j < n → j < sl.length := fun j hj => by
    have hjl : j < ops.length := by omega
    have h := List.all_eq_true.1 hB j (List.mem_range.2 (by simp; omega))
    simp only [hget j hj, List.getElem?_eq_getElem hjl, Bool.and_eq_true, decide_eq_true_eq] at h
    exact h.1.1.1.2
  have key : ∀ (fuel : Nat) (listed : Array Bool) (a : Act) (w1 : World), listed.size = ops.length → (∀ j, n ≤ j → j < ops.length → listed.getD j true = false) → unlisted ops.length listed ≤ fuel → ops.length - n ≤ fuel → Closed ops listed → (listed.getD p false = false → J w1) → Rest sl a0 a → G w w1 →
      (∀ j, j < n → listed.getD j true = true → ∃ v, a.tmps[sl.getD j 0]? = some v ∧ Phi j v w1) → wpAny P .any ops.toArray Q fuel listed a w1 := by
    intro fuel
    induction fuel with
    | zero =>
      intro listed a w1 hs htl hf hft hcl hj hst hb hphi
      have hall : ∀ j, j < n → listed.getD j true = true := fun j hj => by
        cases hl : listed.getD j true with
        | true => rfl
        | false => have := unlisted_set (n := ops.length) (i := j) (by omega) hl (by omega); omega
      exact wpAny_seq hT (ops.length - n) n 0 listed a w1 (by omega) (Nat.le_refl _) hft hs hall htl hcl (hend a w1 hst hb fun j hj => hphi j hj (hall j hj))
    | succ fuel ih =>
      intro listed a w1 hs htl hf hft hcl hj hst hb hphi
      by_cases hall : ∀ j, j < n → listed.getD j true = true
      · exact wpAny_seq hT (ops.length - n) n (fuel + 1) listed a w1 (by omega) (Nat.le_refl _) hft hs hall htl hcl (hend a w1 hst hb fun j hj => hphi j hj (hall j hj))
      · have some_ready : Region.ready .any ops.toArray listed ≠ [] := by
          intro hr
          apply hall
          intro j
          induction j using Nat.strongRecOn with
          | _ j ihj =>
            intro hj
            cases hlj : listed.getD j true with
            | true => rfl
            | false =>
              have hjl : j < ops.length := by omega
              have hoj : (ops.take n).toArray[j]? = some ops[j] := by rw [hget j hj]; exact List.getElem?_eq_getElem hjl
              have : j ∈ Region.ready .any ops.toArray listed := mem_ready.2 ⟨hlj, ops[j], by simp [hjl], fun e he hbd => by
                have h1 := (tableG_spec hB j _ hoj).2.2.2.1 e he hbd
                have h2 := ihj e.on h1 (by omega)
                simpa [show e.on < listed.size by omega] using h2⟩
              rw [hr] at this
              cases this
        refine ⟨fun hr => absurd hr some_ready, fun i hi => ?_⟩
        obtain ⟨hu, o, ho, hdep⟩ := mem_ready.1 hi
        have hlt : i < ops.length := by simpa using (Array.getElem?_eq_some_iff.1 ho).1
        have ho' : ops[i]? = some o := by simpa using ho
        have hin : i < n := by
          rcases Nat.lt_or_ge i n with h | h
          · exact h
          · exfalso
            apply hall
            intro j hj
            have h3 := (tailB_spec hT i o ho' h).1 listed hcl hdep j (by omega)
            simpa [show j < listed.size by omega] using h3
        have hoi : (ops.take n).toArray[i]? = some o := by rw [hget i hin]; exact ho'
        have hsp := tableG_spec hB i o hoi
        have hun := unlisted_set (n := ops.length) hlt hu (by omega)
        unfold wpOp
        simp only [ho]
        have hwant : Region.wanted o (yielded ops.toArray a.tmps) = true := by
          unfold Region.wanted
          cases hgq : o.guard with
          | none => rfl
          | some q =>
            obtain ⟨g, b⟩ := q
            obtain ⟨e, he, heo, heb⟩ := hsp.2.2.1 g b hgq
            have hel := hdep e he heb
            have hes : e.on < i := hsp.2.2.2.1 e he heb
            rw [heo] at hel hes
            obtain ⟨v, hv, hp⟩ := hphi g (by omega) (by simpa [show g < listed.size by omega] using hel)
            have hgb := allFrom_spec _ 0 (ops.take n) hgd i o (by simpa using hoi)
            obtain rfl := hgb g b hgq v w1 hp
            have hgl : g < ops.length := by omega
            have hog : (ops.take n).toArray[g]? = some ops[g] := by rw [hget g (by omega)]; exact List.getElem?_eq_getElem hgl
            have hdst := (tableG_spec hB g _ hog).1
            have : yielded ops.toArray a.tmps g = some b := by
              unfold yielded
              rw [show ops.toArray[g]? = some ops[g] by simp [hgl]]
              simp only [Option.bind_some, hdst, hv]
            simp [this]
        rw [if_pos hwant]
        have hstp := allFrom_spec _ 0 (ops.take n) hstep i o (by simpa using hoi)
        rw [Nat.zero_add] at hstp
        refine .inl (Oper.wp_mono ?_ (hstp a w1 hst hb (fun e => hj (by
          subst e
          simpa [show i < listed.size by omega] using hu)) fun e he hbd => ?_))
        · rintro a' w2 ⟨v, rfl, hv, hpres, hj2, hb2⟩
          have hput : a.put o.dst v = { a with tmps := a.tmps.setIfInBounds (sl.getD i 0) v } := by rw [hsp.1]; rfl
          have hcount : ops.length - n ≤ fuel := by
            have : unlisted ops.length (listed.setIfInBounds i true) ≤ fuel := by omega
            refine Nat.le_trans ?_ this
            unfold unlisted
            have hsplit : List.range ops.length = List.range n ++ (List.range (ops.length - n)).map (n + ·) := by
              rw [← List.range_add]; congr 1; omega
            rw [hsplit, List.countP_append]
            have : ((List.range (ops.length - n)).map (n + ·)).countP (fun j => !(listed.setIfInBounds i true).getD j true) = ops.length - n := by
              rw [List.countP_eq_length.2]
              · simp
              · intro x hx
                obtain ⟨y, hy, rfl⟩ := List.mem_map.1 hx
                have hy' := List.mem_range.1 hy
                rw [getD_set_ne true (by omega), htl (n + y) (by omega) (by omega)]
                rfl
            omega
          refine ih _ _ _ (by simp [hs]) (fun j hj hjl => by rw [getD_set_ne true (by omega)]; exact htl j hj hjl) (by omega) hcount (closed_set hcl ho' hdep) (fun hp => ?_) ⟨by rw [hput]; simp [hst.size], by rw [hput]; exact hst.defers, fun d' hd' => ?_⟩ (hG _ _ _ hb hb2) fun j hj hl => ?_
          · have hip : i ≠ p := by
              rintro rfl
              simp [hs, hlt] at hp
            rw [getD_set_ne false hip] at hp
            exact hj2 hip (hj hp)
          · rw [hput]
            have hne : sl.getD i 0 ≠ d' := by
              intro e
              have hmem : d' ∈ sl := by
                rw [← e, List.getD_eq_getElem?_getD, List.getElem?_eq_getElem (hlen i hin)]
                exact List.getElem_mem _
              rw [List.contains_iff_mem.2 hmem] at hd'
              cases hd'
            rw [← hst.other d' hd']
            exact Array.getElem?_setIfInBounds_ne hne
          · by_cases hij : j = i
            · subst hij
              refine ⟨v, ?_, hv⟩
              rw [hput]
              exact Array.getElem?_setIfInBounds_self_of_lt (by rw [hst.size]; exact hsp.2.1)
            · rw [getD_set_ne true (Ne.symm hij)] at hl
              obtain ⟨vj, h2, h3⟩ := hphi j hj hl
              refine ⟨vj, ?_, hpres j vj hij h3⟩
              rw [hput]
              have hjl : j < ops.length := by omega
              have hne : sl.getD i 0 ≠ sl.getD j 0 := by
                intro e
                have e' : sl[i]? = sl[j]? := by
                  simp only [List.getD_eq_getElem?_getD, List.getElem?_eq_getElem (hlen i hin), List.getElem?_eq_getElem (hlen j hj), Option.getD_some, Option.some.injEq] at e ⊢
                  exact e
                rcases Nat.lt_or_gt_of_ne hij with h | h
                · exact hsp.2.2.2.2 j h e'.symm
                · exact (tableG_spec hB j ops[j] (by rw [hget j hj]; exact List.getElem?_eq_getElem hjl)).2.2.2.2 i h e'
              rw [← h2]
              exact Array.getElem?_setIfInBounds_ne hne
        · have hl := hdep e he hbd
          have hes : e.on < i := hsp.2.2.2.1 e he hbd
          exact hphi e.on (by omega) (by simpa [show e.on < listed.size by omega] using hl)
  refine key _ _ _ _ (by simp) (fun j _ hj => by simp [hj]) ?_ (by simp) (fun j o ho hl => by
    have hjl : j < ops.length := (List.getElem?_eq_some_iff.1 ho).1
    simp [hjl] at hl) (fun _ => hJ) ⟨rfl, rfl, fun _ _ => rfl⟩ hG0 fun j hj hl => ?_
  · unfold unlisted
    exact Nat.le_trans (List.countP_le_length) (by simp)
  · exfalso
    simp [show j < ops.length by omega] at hl

end
end Go.Proofs.YbulkbkkwDoor
