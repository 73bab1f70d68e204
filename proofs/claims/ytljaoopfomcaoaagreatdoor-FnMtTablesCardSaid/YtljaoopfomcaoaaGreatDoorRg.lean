/-
  A region whose order is open, by invariants: what holds of each operation's slot, and of the world, whichever operations are done.
-/
import Derived.Orders
import Derived.Test.YtljaoopfomcaoaaGreatDoorBu
set_option linter.unusedVariables false
set_option linter.unusedSimpArgs false
namespace Go.Proofs.YtljaoopfomcaoaaGreatDoor
open Go.RowKit

/-- The operation i of a region is done, too. -/
def dn (done : Nat → Bool) (i : Nat) : Nat → Bool := fun j => done j || j == i

/-- The operation waits for operation k. -/
def waitsOn (k : Nat) (o : Oper) : Bool := o.after.toList.any fun e => Region.binds .any e && e.on == k

theorem dn_ne {done : Nat → Bool} {i j : Nat} (h : (j == i) = false) : dn done i j = done j := by simp [dn, h]
theorem dn_self (done : Nat → Bool) (i : Nat) : dn done i i = true := by simp [dn]

theorem waitsOn_spec {k : Nat} {o : Oper} (h : waitsOn k o = true) : ∃ e ∈ o.after, Region.binds .any e = true ∧ e.on = k := by
  obtain ⟨e, he, hb⟩ := List.any_eq_true.1 h
  simp only [Bool.and_eq_true, beq_iff_eq] at hb
  exact ⟨e, by simpa using he, hb.1, hb.2⟩

/-- What is asked of one operation: from whatever state in which those that it waits for are done, it comes to a value that meets I; nothing that holds of the others is lost. -/
def StepOk (P : Program) (ops : Array Oper) (Q : Exit → Act → World → Prop) (a0 : Act) (I : Nat → Value → World → Prop) (G : (Nat → Bool) → World → Prop) (i : Nat) (o : Oper) : Prop :=
  ∀ (done : Nat → Bool) (a : Act) (w : World) (K : Act → World → Prop),
    done i = false → (∀ j k, ((ops[j]?).map (waitsOn k)).getD false = true → done j = true → done k = true) →
    (∀ j d, (ops[j]?).bind (·.dst) = some d → done j = true → I j (a.tmps[d]?.getD undef) w) →
    (∀ t : Nat, (ops.toList.all fun o => o.dst != some t) = true → a.tmps[t]?.getD undef = a0.tmps[t]?.getD undef) →
    (∀ k, waitsOn k o = true → done k = true) → G done w →
    (∀ v w', I i v w' → G (dn done i) w' → (∀ j, j ≠ i → done j = true → ∀ u, I j u w → I j u w') → K (a.put o.dst v) w') →
    (if Region.wanted o (yielded ops a.tmps) then o.wp P a w K Q else K (a.put o.dst undef) w)

def StepsOk (P : Program) (ops : Array Oper) (Q : Exit → Act → World → Prop) (a0 : Act) (I : Nat → Value → World → Prop) (G : (Nat → Bool) → World → Prop) : Nat → List Oper → Prop
  | _, [] => True
  | n, o :: rest => StepOk P ops Q a0 I G n o ∧ StepsOk P ops Q a0 I G (n + 1) rest

theorem StepsOk.get {P : Program} {ops : Array Oper} {Q : Exit → Act → World → Prop} {a0 : Act} {I : Nat → Value → World → Prop} {G : (Nat → Bool) → World → Prop} : ∀ {l : List Oper} {n : Nat}, StepsOk P ops Q a0 I G n l → ∀ {i : Nat} {o : Oper}, l[i]? = some o → StepOk P ops Q a0 I G (n + i) o
  | [], _, _, i, o, h => by simp at h
  | a :: r, n, hs, 0, o, h => by simp at h; subst h; exact hs.1
  | a :: r, n, hs, i + 1, o, h => by
    have := StepsOk.get hs.2 (i := i) (o := o) (by simpa using h)
    rwa [show n + 1 + i = n + (i + 1) by omega] at this

/-- The region's slots are written once each, within the frame, and an operation waits for earlier ones alone. -/
def tidy (ops : List Oper) (size : Nat) : Bool :=
  (ops.filterMap (·.dst)).Nodup && (ops.all fun o => match o.dst with | some d => decide (d < size) | none => true) &&
  (List.range ops.length).all fun i => ((ops[i]?).map fun o => o.after.all fun e => !Region.binds .any e || decide (e.on < i)).getD true

/-- The frame behind the region: each slot holds its operation's value. -/
def putAll (vs : Nat → Value) : Nat → List Oper → Act → Act
  | _, [], a => a
  | n, o :: rest, a => putAll vs (n + 1) rest (a.put o.dst (vs n))

theorem put_size (a : Act) (d : Option Tmp) (v : Value) : (a.put d v).tmps.size = a.tmps.size := by cases d <;> simp [Act.put]
theorem put_defers' (a : Act) (d : Option Tmp) (v : Value) : (a.put d v).defers = a.defers := by cases d <;> rfl

theorem putAll_size (vs : Nat → Value) : ∀ (l : List Oper) (n : Nat) (a : Act), (putAll vs n l a).tmps.size = a.tmps.size
  | [], _, _ => rfl
  | o :: r, n, a => by rw [putAll, putAll_size vs r, put_size]
theorem putAll_defers (vs : Nat → Value) : ∀ (l : List Oper) (n : Nat) (a : Act), (putAll vs n l a).defers = a.defers
  | [], _, _ => rfl
  | o :: r, n, a => by rw [putAll, putAll_defers vs r, put_defers']

theorem putAll_other (vs : Nat → Value) (t : Nat) : ∀ (l : List Oper) (n : Nat) (a : Act), (∀ o ∈ l, o.dst ≠ some t) → (putAll vs n l a).tmps[t]? = a.tmps[t]?
  | [], _, _, _ => rfl
  | o :: r, n, a, h => by
    rw [putAll, putAll_other vs t r _ _ (fun o ho => h o (by simp [ho]))]
    have h1 := h o (by simp)
    cases hd : o.dst with
    | none => rfl
    | some d =>
      have : d ≠ t := fun e => h1 (by rw [hd, e])
      simp [Act.put, Array.getElem?_setIfInBounds_ne this]

theorem putAll_at (vs : Nat → Value) : ∀ (l : List Oper) (n : Nat) (a : Act) (i : Nat) (o : Oper) (d : Nat), (l.filterMap (·.dst)).Nodup → l[i]? = some o → o.dst = some d → d < a.tmps.size →
    (putAll vs n l a).tmps[d]? = some (vs (n + i))
  | [], _, _, i, o, d, _, h, _, _ => by simp at h
  | x :: r, n, a, 0, o, d, hn, h, hd, hlt => by
    simp at h; subst h
    simp only [List.filterMap_cons, hd, List.nodup_cons] at hn
    rw [putAll, putAll_other vs d r _ _ (fun o ho e => hn.1 (List.mem_filterMap.2 ⟨o, ho, e⟩)), hd]
    simp [Act.put, hlt]
  | x :: r, n, a, i + 1, o, d, hn, h, hd, hlt => by
    have hn' : (r.filterMap (·.dst)).Nodup := by
      simp only [List.filterMap_cons] at hn
      split at hn
      · exact hn
      · exact (List.nodup_cons.1 hn).2
    rw [putAll, putAll_at vs r (n + 1) _ i o d hn' (by simpa using h) hd (by rw [put_size]; exact hlt), show n + 1 + i = n + (i + 1) by omega]

theorem dst_inj : ∀ {l : List Oper} {i j : Nat} {o p : Oper} {d : Nat}, (l.filterMap (·.dst)).Nodup → l[i]? = some o → l[j]? = some p → o.dst = some d → p.dst = some d → i = j
  | [], i, j, o, p, d, _, h, _, _, _ => by simp at h
  | x :: r, 0, 0, o, p, d, _, _, _, _, _ => rfl
  | x :: r, 0, j + 1, o, p, d, hn, h1, h2, hd, hp => by
    simp at h1 h2; subst h1
    simp only [List.filterMap_cons, hd, List.nodup_cons] at hn
    exact absurd (List.mem_filterMap.2 ⟨p, List.mem_of_getElem? h2, hp⟩) hn.1
  | x :: r, i + 1, 0, o, p, d, hn, h1, h2, hd, hp => by
    simp at h1 h2; subst h2
    simp only [List.filterMap_cons, hp, List.nodup_cons] at hn
    exact absurd (List.mem_filterMap.2 ⟨o, List.mem_of_getElem? h1, hd⟩) hn.1
  | x :: r, i + 1, j + 1, o, p, d, hn, h1, h2, hd, hp => by
    have hn' : (r.filterMap (·.dst)).Nodup := by
      simp only [List.filterMap_cons] at hn
      split at hn
      · exact hn
      · exact (List.nodup_cons.1 hn).2
    simp at h1 h2
    rw [dst_inj hn' h1 h2 hd hp]

theorem eval_eq (a b : Act) (t : Nat) (h : a.tmps[t]? = b.tmps[t]?) : a.eval (.tmp t) = b.eval (.tmp t) := by
  simp [Act.eval, h]

section
variable {P : Program} {l : List Oper} {Q : Exit → Act → World → Prop} {a0 : Act} {I : Nat → Value → World → Prop} {G : (Nat → Bool) → World → Prop}

/-- What holds on the way. -/
structure OnWay (l : List Oper) (a0 : Act) (I : Nat → Value → World → Prop) (G : (Nat → Bool) → World → Prop) (listed : Array Bool) (a : Act) (w : World) : Prop where
  size : listed.size = l.length
  tsize : a.tmps.size = a0.tmps.size
  defers : a.defers = a0.defers
  closed : ∀ j oj, l.toArray[j]? = some oj → listed.getD j false = true → ∀ e ∈ oj.after, Region.binds .any e = true → listed.getD e.on false = true
  slots : ∀ j oj d, l.toArray[j]? = some oj → oj.dst = some d → listed.getD j false = true → I j (a.eval (.tmp d)) w
  mute : ∀ j oj, l.toArray[j]? = some oj → oj.dst = none → listed.getD j false = true → ∃ u, I j u w
  other : ∀ t, (∀ j oj, l.toArray[j]? = some oj → oj.dst = some t → listed.getD j false = false) → a.tmps[t]? = a0.tmps[t]?
  glob : G (fun j => listed.getD j false) w

theorem put_tmps_at (a : Act) {d : Nat} (v : Value) (h : d < a.tmps.size) : (a.put (some d) v).tmps[d]? = some v := by simp [Act.put, h]
theorem put_tmps_ne (a : Act) {x : Option Tmp} {t : Nat} (v : Value) (h : x ≠ some t) : (a.put x v).tmps[t]? = a.tmps[t]? := by
  cases x with
  | none => rfl
  | some d =>
    have : d ≠ t := fun e => h (by rw [e])
    simp [Act.put, Array.getElem?_setIfInBounds_ne this]

theorem getD_set (listed : Array Bool) (i j : Nat) (hi : i < listed.size) : (listed.setIfInBounds i true).getD j false = (listed.getD j false || j == i) := by
  by_cases e : j = i
  · subst e; simp [hi]
  · have e' : i ≠ j := fun h => e h.symm
    have : (j == i) = false := by simpa using e
    simp [this, Array.getElem?_setIfInBounds_ne e']

theorem wpAny_of (ht : tidy l a0.tmps.size = true) (hs : StepsOk P l.toArray Q a0 I G 0 l)
    (hend : ∀ (vs : Nat → Value) (w' : World), (∀ j oj, l[j]? = some oj → oj.dst ≠ none → I j (vs j) w') → (∀ j oj, l[j]? = some oj → oj.dst = none → ∃ u, I j u w') → G (fun j => decide (j < l.length)) w' → Q .normal (putAll vs 0 l a0) w') :
    ∀ (fuel : Nat) (listed : Array Bool) (a : Act) (w : World), OnWay l a0 I G listed a w → ((List.range l.length).filter fun i => !listed.getD i false).length ≤ fuel → wpAny P .any l.toArray Q fuel listed a w := by
  simp only [tidy, Bool.and_eq_true, decide_eq_true_eq, List.all_eq_true] at ht
  obtain ⟨⟨hnd, hin⟩, hbe⟩ := ht
  have hin' : ∀ (j : Nat) (oj : Oper) (d : Nat), l[j]? = some oj → oj.dst = some d → d < a0.tmps.size := fun j oj d hj hd => by
    have := hin oj (List.mem_of_getElem? hj)
    simpa [hd] using this
  -- when nothing is ready, all are done
  have full : ∀ (listed : Array Bool), listed.size = l.length → Region.ready .any l.toArray listed = [] → ∀ i, i < l.length → listed.getD i false = true := by
    intro listed hsz hr i
    induction i using Nat.strongRecOn with
    | _ i ih =>
      intro hi
      by_cases hl : listed.getD i false = true
      · exact hl
      · exfalso
        have hm : i ∈ Region.ready .any l.toArray listed := by
          unfold Region.ready
          refine List.mem_filter.2 ⟨List.mem_range.2 (by simpa using hi), ?_⟩
          have ho : l.toArray[i]? = some l[i] := by simp [hi]
          have hl2 : listed.getD i true = false := by
            have : i < listed.size := by omega
            simp [this] at hl ⊢
            exact hl
          rw [hl2, ho]
          simp only [Bool.not_false, Bool.true_and, Option.map_some, Option.getD_some, Array.all_eq_true_iff_forall_mem]
          intro e he
          have h2 := hbe i (List.mem_range.2 hi)
          rw [List.getElem?_eq_getElem hi] at h2
          simp only [Option.map_some, Option.getD_some, Array.all_eq_true_iff_forall_mem] at h2
          have h3 := h2 e he
          by_cases hb : Region.binds .any e = true
          · rw [hb] at h3 ⊢
            simp at h3
            have := ih e.on h3 (by omega)
            simpa using this
          · simp at hb; simp [hb]
        rw [hr] at hm
        cases hm
  have atEnd : ∀ (listed : Array Bool) (a : Act) (w : World), OnWay l a0 I G listed a w → (∀ i, i < l.length → listed.getD i false = true) → Q .normal a w := by
    intro listed a w h hall
    have hg : (fun j => listed.getD j false) = fun j => decide (j < l.length) := by
      funext j
      by_cases hj : j < l.length
      · simp only [hall j hj, decide_eq_true hj]
      · have : ¬ j < listed.size := by rw [h.size]; exact hj
        simp [hj, this]
    have hlt : ∀ {j : Nat} {oj : Oper}, l[j]? = some oj → j < l.length := fun hj => (List.getElem?_eq_some_iff.1 hj).1
    have hq := hend (fun j => match (l[j]?).bind (·.dst) with | some d => a.eval (.tmp d) | none => undef) w
      (fun j oj hj hne => by
        cases hd : oj.dst with
        | none => exact absurd hd hne
        | some d =>
          simp only [hj, Option.bind_some, hd]
          exact h.slots j oj d (by simpa using hj) hd (hall j (hlt hj)))
      (fun j oj hj hd => h.mute j oj (by simpa using hj) hd (hall j (hlt hj)))
      (hg ▸ h.glob)
    have ea : putAll (fun j => match (l[j]?).bind (·.dst) with | some d => a.eval (.tmp d) | none => undef) 0 l a0 = a := by
      have hsz := putAll_size (fun j => match (l[j]?).bind (·.dst) with | some d => a.eval (.tmp d) | none => undef) l 0 a0
      have hdf := putAll_defers (fun j => match (l[j]?).bind (·.dst) with | some d => a.eval (.tmp d) | none => undef) l 0 a0
      have htm : (putAll (fun j => match (l[j]?).bind (·.dst) with | some d => a.eval (.tmp d) | none => undef) 0 l a0).tmps = a.tmps := by
        apply Array.ext_getElem?
        intro t
        by_cases hx : ∃ (j : Nat) (oj : Oper), l[j]? = some oj ∧ oj.dst = some t
        · obtain ⟨j, oj, hj, hd⟩ := hx
          have hb := hin' j oj t hj hd
          rw [putAll_at _ l 0 a0 j oj t hnd hj hd hb]
          simp only [Nat.zero_add, hj, Option.bind_some, hd]
          have : t < a.tmps.size := by rw [h.tsize]; exact hb
          simp [Act.eval, this]
        · rw [putAll_other _ t l 0 a0 (fun o ho e => by
            obtain ⟨j, hj⟩ := List.getElem?_of_mem ho
            exact hx ⟨j, o, hj, e⟩)]
          exact (h.other t (fun j oj hj hd => (hx ⟨j, oj, by simpa using hj, hd⟩).elim)).symm
      rw [← h.defers] at hdf
      cases hp : putAll (fun j => match (l[j]?).bind (·.dst) with | some d => a.eval (.tmp d) | none => undef) 0 l a0 with
      | mk tm df =>
        rw [hp] at htm hdf
        cases a; simp at htm hdf; simp [htm, hdf]
    rw [ea] at hq
    exact hq
  intro fuel
  induction fuel with
  | zero =>
    intro listed a w h hc
    have hall : ∀ i, i < l.length → listed.getD i false = true := by
      intro i hi
      by_cases hl : listed.getD i false = true
      · exact hl
      · exfalso
        have : i ∈ (List.range l.length).filter fun i => !listed.getD i false := List.mem_filter.2 ⟨List.mem_range.2 hi, by simpa using hl⟩
        have := List.length_pos_of_mem this
        omega
    refine ⟨?_, atEnd listed a w h hall⟩
    unfold Region.ready
    rw [List.filter_eq_nil_iff]
    intro i hi
    have hi' : i < l.length := by simpa using hi
    have h1 := hall i hi'
    have : i < listed.size := by rw [h.size]; exact hi'
    simp [this] at h1 ⊢
    intro hx; rw [h1] at hx; cases hx
  | succ fuel ih =>
    intro listed a w h hc
    refine ⟨fun hr => atEnd listed a w h (full listed h.size hr), fun i hi => ?_⟩
    unfold Region.ready at hi
    obtain ⟨hi1, hi2⟩ := List.mem_filter.1 hi
    have hil : i < l.length := by simpa using hi1
    have ho : l.toArray[i]? = some l[i] := by simp [hil]
    have hisz : i < listed.size := by rw [h.size]; exact hil
    rw [ho] at hi2
    simp only [Option.map_some, Option.getD_some, Bool.and_eq_true, Bool.not_eq_true', Array.all_eq_true_iff_forall_mem, Bool.or_eq_true] at hi2
    obtain ⟨hu, hdep⟩ := hi2
    have hu' : listed.getD i false = false := by simp [hisz] at hu ⊢; exact hu
    have hst := hs.get (i := i) (o := l[i]) (by simp [hil])
    rw [Nat.zero_add] at hst
    have hdeps : ∀ e ∈ (l[i]).after, Region.binds .any e = true → listed.getD e.on false = true := fun e he hb => by
      rcases hdep e he with h1 | h1
      · rw [hb] at h1; cases h1
      · exact h1
    have hcount : ((List.range l.length).filter fun j => !(listed.setIfInBounds i true).getD j false).length ≤ fuel := by
      have hsub : ((List.range l.length).filter fun j => !(listed.setIfInBounds i true).getD j false).length < ((List.range l.length).filter fun j => !listed.getD j false).length := by
        have e1 : ((List.range l.length).filter fun j => !(listed.setIfInBounds i true).getD j false) = (((List.range l.length).filter fun j => !listed.getD j false).filter fun j => !(j == i)) := by
          rw [List.filter_filter]
          congr 1
          funext j
          rw [getD_set listed i j hisz]
          cases listed.getD j false <;> cases (j == i) <;> rfl
        rw [e1]
        refine List.length_filter_lt_length_iff_exists.2 ⟨i, List.mem_filter.2 ⟨List.mem_range.2 hil, by rw [hu']; rfl⟩, by simp⟩
      omega
    have hnext : ∀ v w', I i v w' → G (dn (fun j => listed.getD j false) i) w' → (∀ j, j ≠ i → listed.getD j false = true → ∀ u, I j u w → I j u w') → wpAny P .any l.toArray Q fuel (listed.setIfInBounds i true) (a.put (l[i]).dst v) w' := by
      intro v w' hI hG hst'
      refine ih _ _ _ ⟨by simpa using h.size, by rw [put_size]; exact h.tsize, by rw [put_defers']; exact h.defers, ?_, ?_, ?_, ?_, ?_⟩ hcount
      · intro j oj hj hl e he hb
        rw [getD_set listed i _ hisz] at hl ⊢
        by_cases hji : j = i
        · subst hji
          rw [ho] at hj; cases hj
          rw [hdeps e he hb]; rfl
        · have : (j == i) = false := by simpa using hji
          rw [this, Bool.or_false] at hl
          rw [h.closed j oj hj hl e he hb]; rfl
      · intro j oj d hj hd hl
        rw [getD_set listed i _ hisz] at hl
        have hb : d < a.tmps.size := by rw [h.tsize]; exact hin' j oj d (by simpa using hj) hd
        by_cases hji : j = i
        · subst hji
          rw [ho] at hj; cases hj
          have : (a.put (l[j]).dst v).eval (.tmp d) = v := by rw [hd]; simp [Act.eval, Act.put, hb]
          rw [this]; exact hI
        · have hx : (j == i) = false := by simpa using hji
          rw [hx, Bool.or_false] at hl
          have hne : (l[i]).dst ≠ some d := fun e => hji (dst_inj hnd (by simpa using hj) (by simp [hil]) hd e)
          rw [eval_eq _ a d (put_tmps_ne a v hne)]
          exact hst' j hji hl _ (h.slots j oj d hj hd hl)
      · intro j oj hj hd hl
        rw [getD_set listed i _ hisz] at hl
        by_cases hji : j = i
        · subst hji; exact ⟨v, hI⟩
        · have hx : (j == i) = false := by simpa using hji
          rw [hx, Bool.or_false] at hl
          obtain ⟨u, hu⟩ := h.mute j oj hj hd hl
          exact ⟨u, hst' j hji hl u hu⟩
      · intro t ht
        have hne : (l[i]).dst ≠ some t := fun e => by
          have := ht i l[i] ho e
          rw [getD_set listed i _ hisz] at this
          simp at this
        rw [put_tmps_ne a v hne]
        refine h.other t fun j oj hj hd => ?_
        have := ht j oj hj hd
        rw [getD_set listed i _ hisz] at this
        simp only [Bool.or_eq_false_iff] at this
        exact this.1
      · have : (fun j => (listed.setIfInBounds i true).getD j false) = dn (fun j => listed.getD j false) i := by
          funext j
          rw [getD_set listed i _ hisz]; rfl
        rw [this]; exact hG
    have hstep := hst (fun j => listed.getD j false) a w (wpAny P .any l.toArray Q fuel (listed.setIfInBounds i true)) hu'
      (fun j k hw hl => by
        cases hj : l.toArray[j]? with
        | none => rw [hj] at hw; cases hw
        | some oj =>
          rw [hj] at hw
          obtain ⟨e, he, hb, hk⟩ := waitsOn_spec hw
          rw [← hk]; exact h.closed j oj hj hl e he hb)
      (fun j d hd hl => by
        cases hj : l.toArray[j]? with
        | none => rw [hj] at hd; cases hd
        | some oj => rw [hj] at hd; have := h.slots j oj d hj hd hl; simpa [Act.eval] using this)
      (fun t ht => congrArg (·.getD undef) (h.other t (fun j oj hj hd => by
        have h1 := List.all_eq_true.1 ht oj (List.mem_of_getElem? (by simpa using hj))
        rw [hd] at h1; simp at h1)))
      (fun k hw => by
        obtain ⟨e, he, hb, hk⟩ := waitsOn_spec hw
        rw [← hk]; exact hdeps e he hb) h.glob hnext
    unfold wpOp
    rw [ho]
    simp only
    split
    · rename_i hw; rw [if_pos hw] at hstep; exact .inl hstep
    · rename_i hw; rw [if_neg hw] at hstep; exact hstep

/-- A REGION WHOSE ORDER IS OPEN, BY INVARIANTS. -/
theorem wp_region_inv {id : Nat} {w : World} (I : Nat → Value → World → Prop) (G : (Nat → Bool) → World → Prop) (hm : P.follows .mixedOrders = true) (ht : tidy l a0.tmps.size = true)
    (h0 : G (fun _ => false) w.drew) (hs : StepsOk P l.toArray Q a0 I G 0 l)
    (hend : ∀ (vs : Nat → Value) (w' : World), (∀ j oj, l[j]? = some oj → oj.dst ≠ none → I j (vs j) w') → (∀ j oj, l[j]? = some oj → oj.dst = none → ∃ u, I j u w') → G (fun j => decide (j < l.length)) w' → Q .normal (putAll vs 0 l a0) w') :
    (Code.region id l.toArray true).wp P Q a0 w := by
  refine wp_region_any hm (wpAny_of ht hs hend _ _ _ _ ?_ ?_)
  · have hf : ∀ j, (Array.replicate l.toArray.size false).getD j false = false := fun j => by
      simp only [Array.getD_eq_getD_getElem?, Array.getElem?_replicate]
      split <;> rfl
    refine ⟨by simp, rfl, rfl, ?_, ?_, ?_, ?_, ?_⟩
    · intro j oj hj hl; rw [hf] at hl; cases hl
    · intro j oj d hj hd hl; rw [hf] at hl; cases hl
    · intro j oj hj hd hl; rw [hf] at hl; cases hl
    · intro t _; rfl
    · have : (fun j => (Array.replicate l.toArray.size false).getD j false) = fun _ => false := funext hf
      rw [this]; exact h0
  · exact Nat.le_trans (List.length_filter_le _ _) (by simp)

end

/-! ### Facts on slots, and when they stay -/

structure Fact where
  holds : Value → World → Prop
  safe : (Nat → Prop) → World → Prop
  stab : ∀ S v w w', holds v w → Chg S w w' → safe S w → holds v w'
  none : ∀ w, safe No w

def Fact.any : Fact := ⟨fun _ _ => True, fun _ _ => True, fun _ _ _ _ _ _ _ => trivial, fun _ => trivial⟩
/-- The slot holds this very value. -/
def Fact.eq (v0 : Value) : Fact := ⟨fun v _ => v = v0, fun _ _ => True, fun _ _ _ _ h _ _ => h, fun _ => trivial⟩
/-- The slot holds a slice over one new row. -/
def Fact.temp (lo : Nat) (row : List Value) (e : TypeId) : Fact :=
  ⟨fun v w => ∃ t, v = .slice (some ⟨t, 0, Option.none⟩) 1 1 ∧ lo ≤ t ∧ Blk w t row e, fun S _ => ∀ k, S k → k < lo,
   fun S v w w' h hc hs => by obtain ⟨t, hv, hl, hb⟩ := h; exact ⟨t, hv, hl, hb.chg hc (fun e => by have := hs t e; omega)⟩, fun _ _ e => e.elim⟩
/-- The slot holds a slice that owns its rows. -/
def Fact.own (base e size : Nat) (rows : List (List Value)) : Fact :=
  ⟨fun v w => OwnR w base e size v rows, fun S w => ∀ k, S k → base ≤ k → ¬ ∃ cur, w.heap[k]? = some (.cells cur e (0, 0)),
   fun S v w w' h hc hs => h.chg hc (fun k hk hS => by obtain ⟨h1, -, h2⟩ := h.elem hk; exact hs k hS h1 h2), fun _ _ e => e.elim⟩
/-- The slot holds a struct that reads as a value. -/
def Fact.val (ok : Nat → Prop) (j : J) : Fact :=
  ⟨fun v w => ∃ cs : List Value, v = .agg cs.toArray ∧ ValJ ok w cs j, fun S _ => ∀ b, ok b → ¬ S b,
   fun S v w w' h hc hs => by obtain ⟨cs, hv, h⟩ := h; exact ⟨cs, hv, h.chg hc hs⟩, fun _ _ _ e => e⟩

def FI (fs : List Fact) (i : Nat) (v : Value) (w : World) : Prop := (fs.getD i Fact.any).holds v w

theorem FI.keep {fs : List Fact} {i : Nat} {v : Value} {w w' : World} {S : Nat → Prop} (h : FI fs i v w) (hc : Chg S w w') (hs : (fs.getD i Fact.any).safe S w) : FI fs i v w' :=
  (fs.getD i Fact.any).stab S v w w' h hc hs

/-- Changes that touch no block leave all facts. -/
theorem FI.keepNo {fs : List Fact} {i : Nat} {v : Value} {w w' : World} (h : FI fs i v w) (hc : Chg No w w') : FI fs i v w' := h.keep hc ((fs.getD i Fact.any).none w)

theorem OwnR.notElem {w : World} {base e e' size : Nat} {v : Value} {rows : List (List Value)} (h : OwnR w base e size v rows) (he : e ≠ e') {k : Nat} (hk : v.ownBlock = some k) : ¬ ∃ cur, w.heap[k]? = some (.cells cur e' (0, 0)) := by
  rintro ⟨cur, h1⟩
  obtain ⟨-, -, cur', h2⟩ := h.elem hk
  rw [h1] at h2
  cases h2
  exact he rfl

theorem OwnR.slice {w : World} {base e size : Nat} {v : Value} {rows : List (List Value)} (h : OwnR w base e size v rows) : ∃ a n c, v = .slice a n c := by
  obtain ⟨-, -, h2⟩ := h
  rcases h2 with ⟨rfl, -⟩ | ⟨g, cap, cur, rfl, -⟩
  · exact ⟨_, _, _, rfl⟩
  · exact ⟨_, _, _, rfl⟩

theorem Blk.row1 {w : World} {t : Nat} {row : List Value} {ty : TypeId} (h : Blk w t row ty) {size : Nat} (hl : row.length = size) : RowAt (fun b => b = t) w (.slice (some ⟨t, 0, none⟩) 1 1) size [row] := by
  refine ⟨by simp [maxLen], by simpa using hl, _, _, rfl, (by intro e; cases e), fun _ => ⟨_, _, rfl, rfl, fun i r hr j u hu => ?_⟩⟩
  cases i with
  | zero =>
    simp at hr; subst hr
    have := h.cell j
    rw [Nat.zero_mul, Nat.add_zero, Nat.zero_add, this, hu]
  | succ i => simp at hr

/-- Which operation may be followed by which facts: all stay but for the slices over the changed block. -/
theorem safe_of {fs : List Fact} {i : Nat} {S : Nat → Prop} {w : World} (h : ∀ j, j < fs.length → j ≠ i → (fs.getD j Fact.any).safe S w) : ∀ j, j ≠ i → (fs.getD j Fact.any).safe S w := by
  intro j hj
  by_cases hl : j < fs.length
  · exact h j hl hj
  · rw [List.getD_eq_getElem?_getD, List.getElem?_eq_none (by omega)]
    trivial

theorem if_wanted {o : Oper} {y : Nat → Option Bool} {A B : Prop} (hg : o.guard = none) (h : A) : if Region.wanted o y = true then A else B := by
  rw [if_pos (by simp [Region.wanted, hg])]; exact h

end Go.Proofs.YtljaoopfomcaoaaGreatDoor
