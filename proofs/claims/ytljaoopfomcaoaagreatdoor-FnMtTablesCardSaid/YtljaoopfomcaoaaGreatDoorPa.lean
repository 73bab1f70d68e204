/-
  Pure words: keys, tables in rising order, and what is merged of them. No program in sight.
-/
import Derived.Laws.Strings
import Derived.Laws.StructEq
set_option linter.unusedVariables false
set_option linter.unusedSimpArgs false
namespace Go.Proofs.YtljaoopfomcaoaaGreatDoor

/-- Keys of tables: texts, in the order of their bytes. -/
abbrev K := ByteArray

def klt (a b : K) : Prop := a.data.toList < b.data.toList

instance (a b : K) : Decidable (klt a b) := by unfold klt; exact inferInstance

theorem k_ext {a b : K} (h : a.data.toList = b.data.toList) : a = b := by
  cases a; cases b; congr 1; exact Array.toList_inj.1 h

theorem klt_irrefl (a : K) : ¬ klt a a := by unfold klt; exact List.lt_irrefl _

theorem klt_trans {a b c : K} (h1 : klt a b) (h2 : klt b c) : klt a c := List.lt_trans h1 h2

theorem klt_asymm {a b : K} (h : klt a b) : ¬ klt b a := fun h2 => klt_irrefl a (klt_trans h h2)

theorem klt_ne {a b : K} (h : klt a b) : a ≠ b := fun e => klt_irrefl b (e ▸ h)

theorem klt_tri {a b : K} (h1 : ¬ klt a b) (h2 : a ≠ b) : klt b a := by
  unfold klt at *
  have h3 : b.data.toList ≤ a.data.toList := List.not_lt.1 h1
  rcases Decidable.em (b.data.toList < a.data.toList) with h | h
  · exact h
  · exact absurd (List.le_antisymm (List.not_lt.1 h) h3) (fun e => h2 (k_ext e))

theorem bytesLess_lt : ∀ (x y : List UInt8), Op.bytesLess x y = decide (x < y)
  | x, [] => by cases x <;> simp [Op.bytesLess]
  | [], b :: y => by simp [Op.bytesLess]
  | a :: x, b :: y => by
    rw [Op.bytesLess, bytesLess_lt x y, Bool.eq_iff_iff]
    simp [List.cons_lt_cons_iff]

theorem bytesLess_klt (a b : K) : Op.bytesLess a.toList b.toList = decide (klt a b) := by
  rw [bytesLess_lt, ByteArray.toList_eq, ByteArray.toList_eq]; rfl

theorem toList_beq (a b : K) : (a.toList == b.toList) = decide (a = b) := by
  rw [ByteArray.toList_eq, ByteArray.toList_eq]
  by_cases h : a = b
  · subst h; simp
  · rw [decide_eq_false h, beq_eq_false_iff_ne]; exact fun e => h (k_ext e)

/-- Values as the packages have them: trees. -/
inductive J where
  | null
  | bool (b : Bool)
  | int (n : Int)
  | float (bits : Nat)
  | text (s : K)
  | list (xs : List J)
  | table (kvs : List (K × J))
  deriving Inhabited

/-- A table: keys and values. -/
abbrev T := List (K × J)

def get : T → K → Option J
  | [], _ => none
  | (k', v) :: r, k => if k' = k then some v else get r k

def keys (t : T) : List K := t.map (·.1)

def Sorted (t : T) : Prop := t.Pairwise (fun a b => klt a.1 b.1)

def ins : T → K → J → T
  | [], k, v => [(k, v)]
  | (k', v') :: r, k, v => if klt k k' then (k, v) :: (k', v') :: r else if k = k' then (k, v) :: r else (k', v') :: ins r k v

def del (t : T) (k : K) : T := t.filter (fun x => x.1 ≠ k)

theorem get_ins (t : T) (k x : K) (v : J) : get (ins t k v) x = if k = x then some v else get t x := by
  induction t with
  | nil => simp [ins, get]
  | cons a r ih =>
    obtain ⟨k', v'⟩ := a
    simp only [ins]
    split
    · simp [get]
    · split
      · rename_i h; subst h
        simp only [get]; split <;> rfl
      · rename_i h1 h2
        simp only [get, ih]
        by_cases e : k' = x
        · subst e; simp [h2]
        · simp [e]

theorem mem_ins {t : T} {k : K} {v : J} {p : K × J} (h : p ∈ ins t k v) : p = (k, v) ∨ p ∈ t := by
  induction t with
  | nil => simp [ins] at h; exact .inl h
  | cons a r ih =>
    obtain ⟨k', v'⟩ := a
    simp only [ins] at h
    split at h
    · simpa using h
    · split at h
      · rcases List.mem_cons.1 h with h | h
        · exact .inl h
        · exact .inr (List.mem_cons_of_mem _ h)
      · rcases List.mem_cons.1 h with h | h
        · exact .inr (by simp [h])
        · rcases ih h with h | h
          · exact .inl h
          · exact .inr (List.mem_cons_of_mem _ h)

theorem sorted_ins {t : T} (k : K) (v : J) (h : Sorted t) : Sorted (ins t k v) := by
  induction t with
  | nil => simp [ins, Sorted]
  | cons a r ih =>
    obtain ⟨k', v'⟩ := a
    have hc := List.pairwise_cons.1 h
    simp only [ins]
    split
    · rename_i hl
      refine List.pairwise_cons.2 ⟨fun x hx => ?_, h⟩
      rcases List.mem_cons.1 hx with e | hx
      · subst e; exact hl
      · exact klt_trans hl (hc.1 x hx)
    · split
      · rename_i e; subst e
        exact List.pairwise_cons.2 ⟨hc.1, hc.2⟩
      · rename_i h1 h2
        refine List.pairwise_cons.2 ⟨fun x hx => ?_, ih hc.2⟩
        rcases mem_ins hx with e | hx
        · subst e; exact klt_tri h1 h2
        · exact hc.1 x hx

theorem get_mem {t : T} {k : K} {v : J} (h : get t k = some v) : (k, v) ∈ t := by
  induction t with
  | nil => simp [get] at h
  | cons a r ih =>
    obtain ⟨k', v'⟩ := a
    simp only [get] at h
    split at h
    · rename_i e; subst e; simp at h; simp [h]
    · exact List.mem_cons_of_mem _ (ih h)

theorem get_keys {t : T} {k : K} {v : J} (h : get t k = some v) : k ∈ keys t := List.mem_map.2 ⟨_, get_mem h, rfl⟩

theorem get_of_keys {t : T} {k : K} (h : k ∈ keys t) : ∃ v, get t k = some v := by
  induction t with
  | nil => simp [keys] at h
  | cons a r ih =>
    obtain ⟨k', v'⟩ := a
    simp only [get]
    split
    · exact ⟨_, rfl⟩
    · rename_i hne
      simp [keys] at h
      rcases h with h | ⟨b, h⟩
      · exact absurd h.symm hne
      · exact ih (List.mem_map.2 ⟨_, h, rfl⟩)

theorem get_none {t : T} {k : K} : get t k = none ↔ k ∉ keys t := by
  constructor
  · intro h hk
    obtain ⟨v, hv⟩ := get_of_keys hk
    rw [h] at hv; cases hv
  · intro h
    cases hg : get t k with
    | none => rfl
    | some v => exact absurd (get_keys hg) h

theorem get_of_mem {t : T} (h : Sorted t) {k : K} {v : J} (hm : (k, v) ∈ t) : get t k = some v := by
  induction t with
  | nil => simp at hm
  | cons a r ih =>
    obtain ⟨k', v'⟩ := a
    have hc := List.pairwise_cons.1 h
    simp only [get]
    rcases List.mem_cons.1 hm with e | hm
    · injection e with e1 e2; subst e1; subst e2; simp
    · rw [if_neg (klt_ne (hc.1 _ hm))]; exact ih hc.2 hm

theorem t_ext {a b : T} (ha : Sorted a) (hb : Sorted b) (h : ∀ k, get a k = get b k) : a = b := by
  induction a generalizing b with
  | nil =>
    cases b with
    | nil => rfl
    | cons y s => have := h y.1; simp [get] at this
  | cons x r ih =>
    cases b with
    | nil => have := h x.1; simp [get] at this
    | cons y s =>
      obtain ⟨k, v⟩ := x
      obtain ⟨k', v'⟩ := y
      have ca := List.pairwise_cons.1 ha
      have cb := List.pairwise_cons.1 hb
      have hk : k = k' := by
        by_cases e : k = k'
        · exact e
        · exfalso
          by_cases hl : klt k k'
          · have h1 := h k
            simp only [get, if_true] at h1
            rw [if_neg (Ne.symm e)] at h1
            have h2 := get_mem h1.symm
            exact klt_asymm hl (cb.1 _ h2)
          · have hl' := klt_tri hl e
            have h1 := h k'
            simp only [get, if_true] at h1
            rw [if_neg e] at h1
            have h2 := get_mem h1
            exact klt_asymm hl' (ca.1 _ h2)
      subst hk
      have hv : v = v' := by have := h k; simpa [get] using this
      subst hv
      congr 1
      refine ih ca.2 cb.2 fun x => ?_
      have hx := h x
      simp only [get] at hx
      by_cases e : k = x
      · subst e
        have n1 : get r k = none := get_none.2 (fun hm => by
          obtain ⟨p, hp, e⟩ := List.mem_map.1 hm
          exact klt_ne (ca.1 p hp) e.symm)
        have n2 : get s k = none := get_none.2 (fun hm => by
          obtain ⟨p, hp, e⟩ := List.mem_map.1 hm
          exact klt_ne (cb.1 p hp) e.symm)
        rw [n1, n2]
      · simpa [e] using hx

theorem sorted_del {t : T} (k : K) (h : Sorted t) : Sorted (del t k) := List.Pairwise.filter _ h

theorem get_del (t : T) (k x : K) : get (del t k) x = if k = x then none else get t x := by
  induction t with
  | nil => simp [del, get]
  | cons a r ih =>
    obtain ⟨k', v'⟩ := a
    unfold del at *
    by_cases e : k' = k
    · subst e
      rw [List.filter_cons_of_neg (by simp), ih]
      simp only [get]
      by_cases e2 : k' = x <;> simp [e2]
    · rw [List.filter_cons_of_pos (by simp [e])]
      simp only [get, ih]
      by_cases e2 : k' = x
      · subst e2; simp [Ne.symm e]
      · simp [e2]

theorem k_beq (a b : K) : (a == b) = decide (a = b) := by rw [beq_toListBytes, toList_beq]

instance : LawfulBEq K where
  eq_of_beq {a b} h := by rw [k_beq] at h; exact of_decide_eq_true h
  rfl {a} := by rw [k_beq]; simp

/-- The first place at which a key stands. -/
theorem get_first {t : T} {n : Nat} {p : K × J} {k : K} (h : t[n]? = some p) (hk : p.1 = k) (hnot : ∀ q ∈ t.take n, q.1 ≠ k) : get t k = some p.2 := by
  induction t generalizing n with
  | nil => simp at h
  | cons a r ih =>
    obtain ⟨k', v'⟩ := a
    cases n with
    | zero => simp at h; subst h; simp only [get]; rw [if_pos hk]
    | succ n =>
      simp only [List.take_succ_cons, List.mem_cons, forall_eq_or_imp] at hnot
      simp only [List.getElem?_cons_succ] at h
      simp only [get]
      rw [if_neg hnot.1]
      exact ih h hnot.2

theorem take_not {t : T} {n : Nat} {p : K × J} {k : K} (h : t[n]? = some p) (hk : p.1 ≠ k) (hnot : ∀ q ∈ t.take n, q.1 ≠ k) : ∀ q ∈ t.take (n + 1), q.1 ≠ k := by
  intro q hq
  rw [List.take_add_one, h] at hq
  rcases List.mem_append.1 hq with hq | hq
  · exact hnot q hq
  · simp at hq; subst hq; exact hk

theorem get_none_of {t : T} {k : K} (hnot : ∀ q ∈ t, q.1 ≠ k) : get t k = none := by
  refine get_none.2 fun hm => ?_
  obtain ⟨p, hp, e⟩ := List.mem_map.1 hm
  exact hnot p hp e

theorem ins_all {t : T} {k : K} {x : J} (h : ∀ p ∈ t, klt p.1 k) : ins t k x = t ++ [(k, x)] := by
  induction t with
  | nil => rfl
  | cons a r ih =>
    obtain ⟨k', v'⟩ := a
    have h1 : klt k' k := h (k', v') (by simp)
    simp only [ins]
    rw [if_neg (klt_asymm h1), if_neg (Ne.symm (klt_ne h1)), ih (fun p hp => h p (by simp [hp]))]
    rfl

theorem ins_here {t : T} {k : K} {x : J} {p : K × J} (h : ∀ p ∈ t, klt p.1 k) (hp : ¬ klt p.1 k) : ins (t ++ [p]) k x = t ++ (k, x) :: (if p.1 = k then [] else [p]) := by
  induction t with
  | nil =>
    obtain ⟨k', v'⟩ := p
    simp only [List.nil_append, ins]
    by_cases e : k' = k
    · subst e; simp [klt_irrefl]
    · rw [if_pos (klt_tri hp e), if_neg e]
  | cons a r ih =>
    obtain ⟨k', v'⟩ := a
    have h1 : klt k' k := h (k', v') (by simp)
    simp only [List.cons_append, ins]
    rw [if_neg (klt_asymm h1), if_neg (Ne.symm (klt_ne h1)), ih (fun p hp => h p (by simp [hp]))]

theorem ins_snoc {t : T} {k : K} {x : J} {p : K × J} (h : ∃ q ∈ t, ¬ klt q.1 k) : ins (t ++ [p]) k x = ins t k x ++ [p] := by
  induction t with
  | nil => obtain ⟨q, hq, -⟩ := h; simp at hq
  | cons a r ih =>
    obtain ⟨k', v'⟩ := a
    simp only [List.cons_append, ins]
    by_cases h1 : klt k k'
    · rw [if_pos h1, if_pos h1]; rfl
    · rw [if_neg h1, if_neg h1]
      by_cases h2 : k = k'
      · rw [if_pos h2, if_pos h2]; rfl
      · rw [if_neg h2, if_neg h2, ih ?_]
        · rfl
        · obtain ⟨q, hq, hn⟩ := h
          rcases List.mem_cons.1 hq with e | hq
          · subst e
            exact absurd (klt_tri h1 h2) hn
          · exact ⟨q, hq, hn⟩

theorem ins_length (t : T) (k : K) (x : J) : (ins t k x).length ≤ t.length + 1 := by
  induction t with
  | nil => simp [ins]
  | cons a r ih =>
    obtain ⟨k', v'⟩ := a
    simp only [ins]
    split
    · simp
    · split
      · simp
      · simp only [List.length_cons]; omega

/-- A table of some keys. -/
def mk (ks : List K) (f : K → Option J) : T :=
  ks.foldr (fun k acc => match f k with | some v => ins acc k v | none => acc) []

theorem get_mk (ks : List K) (f : K → Option J) (x : K) : get (mk ks f) x = if x ∈ ks then f x else none := by
  induction ks with
  | nil => simp [mk, get]
  | cons k r ih =>
    simp only [mk, List.foldr_cons] at *
    cases hf : f k with
    | none =>
      simp only [ih, List.mem_cons]
      by_cases e : x = k
      · subst e; simp [hf]
      · simp [e]
    | some v =>
      simp only [get_ins, ih, List.mem_cons]
      by_cases e : k = x
      · subst e; simp [hf]
      · simp [e, Ne.symm e]

theorem sorted_mk (ks : List K) (f : K → Option J) : Sorted (mk ks f) := by
  induction ks with
  | nil => simp [mk, Sorted]
  | cons k r ih =>
    simp only [mk, List.foldr_cons] at *
    cases f k with
    | none => exact ih
    | some v => exact sorted_ins _ _ ih

theorem sizeOf_get {t : T} {k : K} {v : J} (h : get t k = some v) : SizeOf.sizeOf v < SizeOf.sizeOf t := by
  have := List.sizeOf_lt_of_mem (get_mem h)
  have e : SizeOf.sizeOf (k, v) = 1 + SizeOf.sizeOf k + SizeOf.sizeOf v := rfl
  omega

theorem sizeOf_get_table {t : T} {k : K} {s : T} (h : get t k = some (.table s)) : SizeOf.sizeOf s < SizeOf.sizeOf t := by
  have := sizeOf_get h
  have e : SizeOf.sizeOf (J.table s) = 1 + SizeOf.sizeOf s := J.table.sizeOf_spec s
  omega

/-- A table with another one put over it: what the other one has stands there, two tables under one key are merged likewise. -/
def merged (a b : T) : T := mk (keys a ++ keys b) fun k =>
  match _h : get b k with
  | none => get a k
  | some (.table y) => match get a k with
    | some (.table x) => some (.table (merged x y))
    | _ => some (.table y)
  | some v => some v
termination_by SizeOf.sizeOf b
decreasing_by exact sizeOf_get_table _h

theorem get_merged (a b : T) (k : K) : get (merged a b) k =
    match get b k with
    | none => get a k
    | some (.table y) => match get a k with
      | some (.table x) => some (.table (merged x y))
      | _ => some (.table y)
    | some v => some v := by
  rw [merged, get_mk]
  by_cases hk : k ∈ keys a ++ keys b
  · rw [if_pos hk]; split <;> simp_all
  · rw [if_neg hk]
    have h1 : get a k = none := get_none.2 (fun h => hk (List.mem_append_left _ h))
    have h2 : get b k = none := get_none.2 (fun h => hk (List.mem_append_right _ h))
    rw [h1, h2]

theorem sorted_merged (a b : T) : Sorted (merged a b) := by rw [merged]; exact sorted_mk _ _

end Go.Proofs.YtljaoopfomcaoaaGreatDoor
