/-
  The region law of Rg with a ghost: what the facts on slots may speak of, besides the value and the world, may change from step to step.
-/
import Derived.Test.YtljaoopfomcaoaaGreatDoorRg
set_option linter.unusedVariables false
set_option linter.unusedSimpArgs false
namespace Go.Proofs.YtljaoopfomcaoaaGreatDoor
open Go.RowKit

/-- What is asked of one operation: from whatever state in which those that it waits for are done, it comes to a value that meets I; nothing that holds of the others is lost. -/
def StepOkG (P : Program) (ops : Array Oper) (Q : Exit → Act → World → Prop) (a0 : Act) {Γ : Type} (I : Γ → Nat → Value → World → Prop) (G : Γ → (Nat → Bool) → World → Prop) (i : Nat) (o : Oper) : Prop :=
  ∀ (γ : Γ) (done : Nat → Bool) (a : Act) (w : World) (K : Act → World → Prop),
    done i = false → (∀ j k, ((ops[j]?).map (waitsOn k)).getD false = true → done j = true → done k = true) →
    (∀ j d, (ops[j]?).bind (·.dst) = some d → done j = true → I γ j (a.tmps[d]?.getD undef) w) →
    (∀ t : Nat, (ops.toList.all fun o => o.dst != some t) = true → a.tmps[t]?.getD undef = a0.tmps[t]?.getD undef) →
    (∀ k, waitsOn k o = true → done k = true) → G γ done w →
    (∀ γ' v w', I γ' i v w' → G γ' (dn done i) w' → (∀ j, j ≠ i → done j = true → ∀ u, I γ j u w → I γ' j u w') → K (a.put o.dst v) w') →
    (if Region.wanted o (yielded ops a.tmps) then o.wp P a w K Q else K (a.put o.dst undef) w)

def StepsOkG (P : Program) (ops : Array Oper) (Q : Exit → Act → World → Prop) (a0 : Act) {Γ : Type} (I : Γ → Nat → Value → World → Prop) (G : Γ → (Nat → Bool) → World → Prop) : Nat → List Oper → Prop
  | _, [] => True
  | n, o :: rest => StepOkG P ops Q a0 I G n o ∧ StepsOkG P ops Q a0 I G (n + 1) rest

theorem StepsOkG.get {P : Program} {ops : Array Oper} {Q : Exit → Act → World → Prop} {a0 : Act} {Γ : Type} {I : Γ → Nat → Value → World → Prop} {G : Γ → (Nat → Bool) → World → Prop} : ∀ {l : List Oper} {n : Nat}, StepsOkG P ops Q a0 I G n l → ∀ {i : Nat} {o : Oper}, l[i]? = some o → StepOkG P ops Q a0 I G (n + i) o
  | [], _, _, i, o, h => by simp at h
  | a :: r, n, hs, 0, o, h => by simp at h; subst h; exact hs.1
  | a :: r, n, hs, i + 1, o, h => by
    have := StepsOkG.get hs.2 (i := i) (o := o) (by simpa using h)
    rwa [show n + 1 + i = n + (i + 1) by omega] at this

section
variable {P : Program} {l : List Oper} {Q : Exit → Act → World → Prop} {a0 : Act} {Γ : Type} {I : Γ → Nat → Value → World → Prop} {G : Γ → (Nat → Bool) → World → Prop}

theorem wpAny_ofG (ht : tidy l a0.tmps.size = true) (hs : StepsOkG P l.toArray Q a0 I G 0 l)
    (hend : ∀ (γ : Γ) (vs : Nat → Value) (w' : World), (∀ j oj, l[j]? = some oj → oj.dst ≠ none → I γ j (vs j) w') → (∀ j oj, l[j]? = some oj → oj.dst = none → ∃ u, I γ j u w') → G γ (fun j => decide (j < l.length)) w' → Q .normal (putAll vs 0 l a0) w') :
    ∀ (fuel : Nat) (listed : Array Bool) (a : Act) (w : World) (γ : Γ), OnWay l a0 (I γ) (G γ) listed a w → ((List.range l.length).filter fun i => !listed.getD i false).length ≤ fuel → wpAny P .any l.toArray Q fuel listed a w := by
  simp only [tidy, Bool.and_eq_true, decide_eq_true_eq, List.all_eq_true] at ht
  obtain ⟨⟨hnd, hin⟩, hbe⟩ := ht
  have hin' : ∀ (j : Nat) (oj : Oper) (d : Nat), l[j]? = some oj → oj.dst = some d → d < a0.tmps.size := fun j oj d hj hd => by
    have := hin oj (List.mem_of_getElem? hj)
    simpa [hd] using this
  -- when nothing is ready, all are done
  have full : ∀ (listed : Array Bool), listed.size = l.length → Region.ready .any l.toArray listed = [] → ∀ i, i < l.length → listed.getD i false = true := by
    intro listed hsz hr i
    induction i using Nat.strongRecOn with
    | _ i ih =>
      intro hi
      by_cases hl : listed.getD i false = true
      · exact hl
      · exfalso
        have hm : i ∈ Region.ready .any l.toArray listed := by
          unfold Region.ready
          refine List.mem_filter.2 ⟨List.mem_range.2 (by simpa using hi), ?_⟩
          have ho : l.toArray[i]? = some l[i] := by simp [hi]
          have hl2 : listed.getD i true = false := by
            have : i < listed.size := by omega
            simp [this] at hl ⊢
            exact hl
          rw [hl2, ho]
          simp only [Bool.not_false, Bool.true_and, Option.map_some, Option.getD_some, Array.all_eq_true_iff_forall_mem]
          intro e he
          have h2 := hbe i (List.mem_range.2 hi)
          rw [List.getElem?_eq_getElem hi] at h2
          simp only [Option.map_some, Option.getD_some, Array.all_eq_true_iff_forall_mem] at h2
          have h3 := h2 e he
          by_cases hb : Region.binds .any e = true
          · rw [hb] at h3 ⊢
            simp at h3
            have := ih e.on h3 (by omega)
            simpa using this
          · simp at hb; simp [hb]
        rw [hr] at hm
        cases hm
  have atEnd : ∀ (listed : Array Bool) (a : Act) (w : World) (γ : Γ), OnWay l a0 (I γ) (G γ) listed a w → (∀ i, i < l.length → listed.getD i false = true) → Q .normal a w := by
    intro listed a w γ h hall
    have hg : (fun j => listed.getD j false) = fun j => decide (j < l.length) := by
      funext j
      by_cases hj : j < l.length
      · simp only [hall j hj, decide_eq_true hj]
      · have : ¬ j < listed.size := by rw [h.size]; exact hj
        simp [hj, this]
    have hlt : ∀ {j : Nat} {oj : Oper}, l[j]? = some oj → j < l.length := fun hj => (List.getElem?_eq_some_iff.1 hj).1
    have hq := hend γ (fun j => match (l[j]?).bind (·.dst) with | some d => a.eval (.tmp d) | none => undef) w
      (fun j oj hj hne => by
        cases hd : oj.dst with
        | none => exact absurd hd hne
        | some d =>
          simp only [hj, Option.bind_some, hd]
          exact h.slots j oj d (by simpa using hj) hd (hall j (hlt hj)))
      (fun j oj hj hd => h.mute j oj (by simpa using hj) hd (hall j (hlt hj)))
      (hg ▸ h.glob)
    have ea : putAll (fun j => match (l[j]?).bind (·.dst) with | some d => a.eval (.tmp d) | none => undef) 0 l a0 = a := by
      have hsz := putAll_size (fun j => match (l[j]?).bind (·.dst) with | some d => a.eval (.tmp d) | none => undef) l 0 a0
      have hdf := putAll_defers (fun j => match (l[j]?).bind (·.dst) with | some d => a.eval (.tmp d) | none => undef) l 0 a0
      have htm : (putAll (fun j => match (l[j]?).bind (·.dst) with | some d => a.eval (.tmp d) | none => undef) 0 l a0).tmps = a.tmps := by
        apply Array.ext_getElem?
        intro t
        by_cases hx : ∃ (j : Nat) (oj : Oper), l[j]? = some oj ∧ oj.dst = some t
        · obtain ⟨j, oj, hj, hd⟩ := hx
          have hb := hin' j oj t hj hd
          rw [putAll_at _ l 0 a0 j oj t hnd hj hd hb]
          simp only [Nat.zero_add, hj, Option.bind_some, hd]
          have : t < a.tmps.size := by rw [h.tsize]; exact hb
          simp [Act.eval, this]
        · rw [putAll_other _ t l 0 a0 (fun o ho e => by
            obtain ⟨j, hj⟩ := List.getElem?_of_mem ho
            exact hx ⟨j, o, hj, e⟩)]
          exact (h.other t (fun j oj hj hd => (hx ⟨j, oj, by simpa using hj, hd⟩).elim)).symm
      rw [← h.defers] at hdf
      cases hp : putAll (fun j => match (l[j]?).bind (·.dst) with | some d => a.eval (.tmp d) | none => undef) 0 l a0 with
      | mk tm df =>
        rw [hp] at htm hdf
        cases a; simp at htm hdf; simp [htm, hdf]
    rw [ea] at hq
    exact hq
  intro fuel
  induction fuel with
  | zero =>
    intro listed a w γ h hc
    have hall : ∀ i, i < l.length → listed.getD i false = true := by
      intro i hi
      by_cases hl : listed.getD i false = true
      · exact hl
      · exfalso
        have : i ∈ (List.range l.length).filter fun i => !listed.getD i false := List.mem_filter.2 ⟨List.mem_range.2 hi, by simpa using hl⟩
        have := List.length_pos_of_mem this
        omega
    refine ⟨?_, atEnd listed a w γ h hall⟩
    unfold Region.ready
    rw [List.filter_eq_nil_iff]
    intro i hi
    have hi' : i < l.length := by simpa using hi
    have h1 := hall i hi'
    have : i < listed.size := by rw [h.size]; exact hi'
    simp [this] at h1 ⊢
    intro hx; rw [h1] at hx; cases hx
  | succ fuel ih =>
    intro listed a w γ h hc
    refine ⟨fun hr => atEnd listed a w γ h (full listed h.size hr), fun i hi => ?_⟩
    unfold Region.ready at hi
    obtain ⟨hi1, hi2⟩ := List.mem_filter.1 hi
    have hil : i < l.length := by simpa using hi1
    have ho : l.toArray[i]? = some l[i] := by simp [hil]
    have hisz : i < listed.size := by rw [h.size]; exact hil
    rw [ho] at hi2
    simp only [Option.map_some, Option.getD_some, Bool.and_eq_true, Bool.not_eq_true', Array.all_eq_true_iff_forall_mem, Bool.or_eq_true] at hi2
    obtain ⟨hu, hdep⟩ := hi2
    have hu' : listed.getD i false = false := by simp [hisz] at hu ⊢; exact hu
    have hst := hs.get (i := i) (o := l[i]) (by simp [hil])
    rw [Nat.zero_add] at hst
    have hdeps : ∀ e ∈ (l[i]).after, Region.binds .any e = true → listed.getD e.on false = true := fun e he hb => by
      rcases hdep e he with h1 | h1
      · rw [hb] at h1; cases h1
      · exact h1
    have hcount : ((List.range l.length).filter fun j => !(listed.setIfInBounds i true).getD j false).length ≤ fuel := by
      have hsub : ((List.range l.length).filter fun j => !(listed.setIfInBounds i true).getD j false).length < ((List.range l.length).filter fun j => !listed.getD j false).length := by
        have e1 : ((List.range l.length).filter fun j => !(listed.setIfInBounds i true).getD j false) = (((List.range l.length).filter fun j => !listed.getD j false).filter fun j => !(j == i)) := by
          rw [List.filter_filter]
          congr 1
          funext j
          rw [getD_set listed i j hisz]
          cases listed.getD j false <;> cases (j == i) <;> rfl
        rw [e1]
        refine List.length_filter_lt_length_iff_exists.2 ⟨i, List.mem_filter.2 ⟨List.mem_range.2 hil, by rw [hu']; rfl⟩, by simp⟩
      omega
    have hnext : ∀ γ' v w', I γ' i v w' → G γ' (dn (fun j => listed.getD j false) i) w' → (∀ j, j ≠ i → listed.getD j false = true → ∀ u, I γ j u w → I γ' j u w') → wpAny P .any l.toArray Q fuel (listed.setIfInBounds i true) (a.put (l[i]).dst v) w' := by
      intro γ' v w' hI hG hst'
      refine ih _ _ _ γ' ⟨by simpa using h.size, by rw [put_size]; exact h.tsize, by rw [put_defers']; exact h.defers, ?_, ?_, ?_, ?_, ?_⟩ hcount
      · intro j oj hj hl e he hb
        rw [getD_set listed i _ hisz] at hl ⊢
        by_cases hji : j = i
        · subst hji
          rw [ho] at hj; cases hj
          rw [hdeps e he hb]; rfl
        · have : (j == i) = false := by simpa using hji
          rw [this, Bool.or_false] at hl
          rw [h.closed j oj hj hl e he hb]; rfl
      · intro j oj d hj hd hl
        rw [getD_set listed i _ hisz] at hl
        have hb : d < a.tmps.size := by rw [h.tsize]; exact hin' j oj d (by simpa using hj) hd
        by_cases hji : j = i
        · subst hji
          rw [ho] at hj; cases hj
          have : (a.put (l[j]).dst v).eval (.tmp d) = v := by rw [hd]; simp [Act.eval, Act.put, hb]
          rw [this]; exact hI
        · have hx : (j == i) = false := by simpa using hji
          rw [hx, Bool.or_false] at hl
          have hne : (l[i]).dst ≠ some d := fun e => hji (dst_inj hnd (by simpa using hj) (by simp [hil]) hd e)
          rw [eval_eq _ a d (put_tmps_ne a v hne)]
          exact hst' j hji hl _ (h.slots j oj d hj hd hl)
      · intro j oj hj hd hl
        rw [getD_set listed i _ hisz] at hl
        by_cases hji : j = i
        · subst hji; exact ⟨v, hI⟩
        · have hx : (j == i) = false := by simpa using hji
          rw [hx, Bool.or_false] at hl
          obtain ⟨u, hu⟩ := h.mute j oj hj hd hl
          exact ⟨u, hst' j hji hl u hu⟩
      · intro t ht
        have hne : (l[i]).dst ≠ some t := fun e => by
          have := ht i l[i] ho e
          rw [getD_set listed i _ hisz] at this
          simp at this
        rw [put_tmps_ne a v hne]
        refine h.other t fun j oj hj hd => ?_
        have := ht j oj hj hd
        rw [getD_set listed i _ hisz] at this
        simp only [Bool.or_eq_false_iff] at this
        exact this.1
      · have : (fun j => (listed.setIfInBounds i true).getD j false) = dn (fun j => listed.getD j false) i := by
          funext j
          rw [getD_set listed i _ hisz]; rfl
        rw [this]; exact hG
    have hstep := hst γ (fun j => listed.getD j false) a w (wpAny P .any l.toArray Q fuel (listed.setIfInBounds i true)) hu'
      (fun j k hw hl => by
        cases hj : l.toArray[j]? with
        | none => rw [hj] at hw; cases hw
        | some oj =>
          rw [hj] at hw
          obtain ⟨e, he, hb, hk⟩ := waitsOn_spec hw
          rw [← hk]; exact h.closed j oj hj hl e he hb)
      (fun j d hd hl => by
        cases hj : l.toArray[j]? with
        | none => rw [hj] at hd; cases hd
        | some oj => rw [hj] at hd; have := h.slots j oj d hj hd hl; simpa [Act.eval] using this)
      (fun t ht => congrArg (·.getD undef) (h.other t (fun j oj hj hd => by
        have h1 := List.all_eq_true.1 ht oj (List.mem_of_getElem? (by simpa using hj))
        rw [hd] at h1; simp at h1)))
      (fun k hw => by
        obtain ⟨e, he, hb, hk⟩ := waitsOn_spec hw
        rw [← hk]; exact hdeps e he hb) h.glob hnext
    unfold wpOp
    rw [ho]
    simp only
    split
    · rename_i hw; rw [if_pos hw] at hstep; exact .inl hstep
    · rename_i hw; rw [if_neg hw] at hstep; exact hstep

/-- A REGION WHOSE ORDER IS OPEN, BY INVARIANTS. -/
theorem wp_region_ghost {id : Nat} {w : World} {Γ : Type} (I : Γ → Nat → Value → World → Prop) (G : Γ → (Nat → Bool) → World → Prop) (hm : P.follows .mixedOrders = true) (ht : tidy l a0.tmps.size = true)
    (γ0 : Γ) (h0 : G γ0 (fun _ => false) w.drew) (hs : StepsOkG P l.toArray Q a0 I G 0 l)
    (hend : ∀ (γ : Γ) (vs : Nat → Value) (w' : World), (∀ j oj, l[j]? = some oj → oj.dst ≠ none → I γ j (vs j) w') → (∀ j oj, l[j]? = some oj → oj.dst = none → ∃ u, I γ j u w') → G γ (fun j => decide (j < l.length)) w' → Q .normal (putAll vs 0 l a0) w') :
    (Code.region id l.toArray true).wp P Q a0 w := by
  refine wp_region_any hm (wpAny_ofG ht hs hend _ _ _ _ γ0 ?_ ?_)
  · have hf : ∀ j, (Array.replicate l.toArray.size false).getD j false = false := fun j => by
      simp only [Array.getD_eq_getD_getElem?, Array.getElem?_replicate]
      split <;> rfl
    refine ⟨by simp, rfl, rfl, ?_, ?_, ?_, ?_, ?_⟩
    · intro j oj hj hl; rw [hf] at hl; cases hl
    · intro j oj d hj hd hl; rw [hf] at hl; cases hl
    · intro j oj hj hd hl; rw [hf] at hl; cases hl
    · intro t _; rfl
    · have : (fun j => (Array.replicate l.toArray.size false).getD j false) = fun _ => false := funext hf
      rw [this]; exact h0
  · exact Nat.le_trans (List.length_filter_le _ _) (by simp)


end

end Go.Proofs.YtljaoopfomcaoaaGreatDoor
