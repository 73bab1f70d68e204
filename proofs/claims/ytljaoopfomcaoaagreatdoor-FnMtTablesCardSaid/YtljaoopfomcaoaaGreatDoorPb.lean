/-
  Pure words: which values are in order (Wf), and that what is merged is.
-/
import Derived.Test.YtljaoopfomcaoaaGreatDoorBu
set_option linter.unusedVariables false
set_option linter.unusedSimpArgs false
namespace Go.Proofs.YtljaoopfomcaoaaGreatDoor

/-- A key that memory bears. -/
def kOk (k : K) : Prop := k.size ≤ 140737488355328

/-- In order, at most d levels: tables rise and have at most n keys each, floats are numbers. -/
def Wf (n : Nat) : Nat → J → Prop
  | 0, _ => False
  | d + 1, j => match j with
    | .float f => FinBits f
    | .list xs => xs.length ≤ n ∧ ∀ x ∈ xs, Wf n d x
    | .table kvs => Sorted kvs ∧ kvs.length ≤ n ∧ ∀ p ∈ kvs, kOk p.1 ∧ Wf n d p.2
    | _ => True

theorem Wf.mono {n m d e : Nat} {j : J} (h : Wf n d j) (hn : n ≤ m) (hd : d ≤ e) : Wf m e j := by
  induction d generalizing e j with
  | zero => exact h.elim
  | succ d ih =>
    obtain ⟨e, rfl⟩ : ∃ e', e = e' + 1 := ⟨e - 1, by omega⟩
    cases j with
    | float f => exact h
    | list xs => exact ⟨by have := h.1; omega, fun x hx => ih (h.2 x hx) (by omega)⟩
    | table kvs => exact ⟨h.1, by have := h.2.1; omega, fun p hp => ⟨(h.2.2 p hp).1, ih (h.2.2 p hp).2 (by omega)⟩⟩
    | null | bool | int | text => trivial

theorem Wf.get {n d : Nat} {kvs : T} {k : K} {v : J} (h : Wf n (d + 1) (.table kvs)) (hg : get kvs k = some v) : kOk k ∧ Wf n d v := h.2.2 _ (get_mem hg)

theorem mem_get {t : T} (h : Sorted t) {p : K × J} (hm : p ∈ t) : Go.Proofs.YtljaoopfomcaoaaGreatDoor.get t p.1 = some p.2 := get_of_mem h hm

theorem mk_length (ks : List K) (f : K → Option J) : (mk ks f).length ≤ ks.length := by
  induction ks with
  | nil => simp [mk]
  | cons k r ih =>
    simp only [mk, List.foldr_cons] at *
    cases f k with
    | none => simp only [List.length_cons]; omega
    | some v =>
      exact Nat.le_trans (ins_length _ _ _) (Nat.succ_le_succ ih)

theorem keys_length (t : T) : (keys t).length = t.length := by simp [keys]

theorem merged_length (a b : T) : (merged a b).length ≤ a.length + b.length := by
  rw [merged]
  refine Nat.le_trans (mk_length _ _) ?_
  simp [keys_length]

theorem Wf.merged {n m d : Nat} : ∀ {a b : T}, Wf n d (.table a) → Wf m d (.table b) → Wf (n + m) d (.table (merged a b)) := by
  induction d with
  | zero => intro a b h; exact h.elim
  | succ d ih =>
    intro a b ha hb
    refine ⟨sorted_merged a b, ?_, fun p hp => ?_⟩
    · have := merged_length a b; have := ha.2.1; have := hb.2.1; omega
    · have hg := mem_get (sorted_merged a b) hp
      rw [get_merged] at hg
      split at hg
      · obtain ⟨h1, h2⟩ := ha.get hg
        exact ⟨h1, h2.mono (by omega) (Nat.le_refl _)⟩
      · rename_i y hy
        obtain ⟨h1, h2⟩ := hb.get hy
        split at hg
        · rename_i x hx
          rw [← Option.some.inj hg]
          exact ⟨h1, ih (ha.get hx).2 h2⟩
        · rw [← Option.some.inj hg]; exact ⟨h1, h2.mono (by omega) (Nat.le_refl _)⟩
      · rename_i v _ hy
        rw [← Option.some.inj hg]
        obtain ⟨h1, h2⟩ := hb.get hy
        exact ⟨h1, h2.mono (by omega) (Nat.le_refl _)⟩

/-- What the first n entries of b make of a. -/
def mergedTo (a b : T) (n : Nat) : T := merged a (b.take n)

def isT : J → Bool
  | .table _ => true
  | _ => false

/-- What stands under a key behind the merge. -/
def mergedAt (a : T) (k : K) (v : J) : J :=
  match v with
  | .table y => match get a k with
    | some (.table x) => .table (merged x y)
    | _ => .table y
  | v => v

theorem sorted_take {t : T} (h : Sorted t) (n : Nat) : Sorted (t.take n) := List.Pairwise.sublist (List.take_sublist _ _) h

theorem get_snoc {t : T} {p : K × J} (h : Sorted (t ++ [p])) (k : K) : get (t ++ [p]) k = if p.1 = k then some p.2 else get t k := by
  induction t with
  | nil => obtain ⟨a, b⟩ := p; simp [get]
  | cons a r ih =>
    obtain ⟨k', v'⟩ := a
    have hc := List.pairwise_cons.1 h
    simp only [List.cons_append, get]
    by_cases e : k' = k
    · rw [if_pos e, if_pos e, if_neg (fun e2 => klt_ne (hc.1 p (by simp)) (e.trans e2.symm))]
    · rw [if_neg e, if_neg e, ih hc.2]

theorem mergedTo_succ {a b : T} {n : Nat} {p : K × J} (hb : Sorted b) (ha : Sorted a) (hp : b[n]? = some p) : ins (mergedTo a b n) p.1 (mergedAt a p.1 p.2) = mergedTo a b (n + 1) := by
  have ht : b.take (n + 1) = b.take n ++ [p] := by rw [List.take_add_one, hp]; rfl
  have hs := sorted_take hb (n + 1)
  refine t_ext (sorted_ins _ _ (sorted_merged _ _)) (sorted_merged _ _) fun k => ?_
  rw [get_ins, mergedTo, mergedTo, get_merged, get_merged, ht]
  rw [ht] at hs
  rw [get_snoc hs]
  by_cases e : p.1 = k
  · subst e
    rw [if_pos rfl, if_pos rfl]
    obtain ⟨k', v'⟩ := p
    cases v' <;> simp [mergedAt]
    split <;> simp_all
  · rw [if_neg e, if_neg e]

theorem mergedTo_zero {a b : T} (ha : Sorted a) : mergedTo a b 0 = a := by
  refine t_ext (sorted_merged _ _) ha fun k => ?_
  rw [mergedTo, get_merged]; rfl

theorem mergedTo_all {a b : T} : mergedTo a b b.length = merged a b := by rw [mergedTo, List.take_length]

theorem get_mergedAt (a b : T) (k : K) : get (merged a b) k = match get b k with | none => get a k | some v => some (mergedAt a k v) := by
  rw [get_merged]
  cases hb : get b k with
  | none => rfl
  | some v => cases v <;> simp only [mergedAt] <;> (cases get a k with | none => rfl | some x => cases x <;> rfl)

end Go.Proofs.YtljaoopfomcaoaaGreatDoor
