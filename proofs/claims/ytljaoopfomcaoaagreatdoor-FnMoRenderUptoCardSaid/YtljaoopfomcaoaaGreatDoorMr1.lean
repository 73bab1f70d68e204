/- A part of the proof. -/
import Derived.Laws.Strings
import Derived.Laws.StructEq
import Derived.Test.YtljaoopfomcaoaaGreatDoorProg
import Derived.WalkKit
import Derived.WalkLawsBesides
import Derived.WalkSpells
import Derived.Lib.Hide
import Derived.Deep.MidRow
import Derived.Laws.AppendOwnNone
import Derived.KernelRfl
import Derived.Orders
import Derived.Deep.DeepCutAuto
import Derived.Maps.OwnSet
import Derived.Maps.RangeWalk
import Derived.BigQuiet
import Derived.Shelf.Sort.Plain
import Derived.Shelf.Slices.In.SortNone
import Derived.Sort.OwnSorted
set_option linter.unusedVariables false
set_option linter.unusedSimpArgs false
set_option maxRecDepth 100000
set_option maxHeartbeats 4000000
namespace Go.Proofs.YtljaoopfomcaoaaGreatDoor
theorem Hd {p : Prop} (h : p) : Go.RowKit.Hid p := h
end Go.Proofs.YtljaoopfomcaoaaGreatDoor
namespace Go.Proofs.YtljaoopfomcaoaaGreatDoor
abbrev K := ByteArray
def klt (a b : K) : Prop := a.data.toList < b.data.toList
instance (a b : K) : Decidable (klt a b) := by unfold klt; exact inferInstance
theorem k_ext {a b : K} (h : a.data.toList = b.data.toList) : a = b := by
 cases a; cases b; congr 1; exact Array.toList_inj.1 h
theorem klt_irrefl (a : K) : ¬ klt a a := by unfold klt; exact List.lt_irrefl _
theorem klt_trans {a b c : K} (h1 : klt a b) (h2 : klt b c) : klt a c := List.lt_trans h1 h2
theorem klt_asymm {a b : K} (h : klt a b) : ¬ klt b a := fun h2 => klt_irrefl a (klt_trans h h2)
theorem klt_ne {a b : K} (h : klt a b) : a ≠ b := fun e => klt_irrefl b (e ▸ h)
theorem klt_tri {a b : K} (h1 : ¬ klt a b) (h2 : a ≠ b) : klt b a := by
 unfold klt at *
 have h3 : b.data.toList ≤ a.data.toList := List.not_lt.1 h1
 rcases Decidable.em (b.data.toList < a.data.toList) with h | h
 ·exact h
 ·exact absurd (List.le_antisymm (List.not_lt.1 h) h3) (fun e => h2 (k_ext e))
theorem bytesLess_lt : ∀ (x y : List UInt8), Op.bytesLess x y = decide (x < y)
 | x, [] => by cases x <;> simp [Op.bytesLess]
 | [], b :: y => by simp [Op.bytesLess]
 | a :: x, b :: y => by
  rw [Op.bytesLess, bytesLess_lt x y, Bool.eq_iff_iff]
  simp [List.cons_lt_cons_iff]
theorem bytesLess_klt (a b : K) : Op.bytesLess a.toList b.toList = decide (klt a b) := by
 rw [bytesLess_lt, ByteArray.toList_eq, ByteArray.toList_eq]; rfl
theorem toList_beq (a b : K) : (a.toList == b.toList) = decide (a = b) := by
 rw [ByteArray.toList_eq, ByteArray.toList_eq]
 by_cases h : a = b
 ·subst h; simp
 ·rw [decide_eq_false h, beq_eq_false_iff_ne]; exact fun e => h (k_ext e)
inductive J where
 | null
 | bool (b : Bool)
 | int (n : Int)
 | float (bits : Nat)
 | text (s : K)
 | list (xs : List J)
 | table (kvs : List (K × J))
 deriving Inhabited
abbrev T := List (K × J)
def get : T -> K -> Option J
 | [], _ => none
 | (k', v) :: r, k => if k' = k then some v else get r k
def keys (t : T) : List K := t.map (·.1)
def Sorted (t : T) : Prop := t.Pairwise (fun a b => klt a.1 b.1)
def ins : T -> K -> J -> T
 | [], k, v => [(k, v)]
 | (k', v') :: r, k, v => if klt k k' then (k, v) :: (k', v') :: r else if k = k' then (k, v) :: r else (k', v') :: ins r k v
def del (t : T) (k : K) : T := t.filter (fun x => x.1 ≠ k)
theorem get_ins (t : T) (k x : K) (v : J) : get (ins t k v) x = if k = x then some v else get t x := by
 induction t with
 | nil => simp [ins, get]
 | cons a r ih =>
  obtain ⟨k', v'⟩ := a
  simp only [ins]
  split
  ·simp [get]
  ·split
   ·rename_i h; subst h
    simp only [get]; split <;> rfl
   ·rename_i h1 h2
    simp only [get, ih]
    by_cases e : k' = x
    ·subst e; simp [h2]
    ·simp [e]
theorem mem_ins {t : T} {k : K} {v : J} {p : K × J} (h : p ∈ ins t k v) : p = (k, v) ∨ p ∈ t := by
 induction t with
 | nil => simp [ins] at h; exact .inl h
 | cons a r ih =>
  obtain ⟨k', v'⟩ := a
  simp only [ins] at h
  split at h
  ·simpa using h
  ·split at h
   ·rcases List.mem_cons.1 h with h | h
    ·exact .inl h
    ·exact .inr (List.mem_cons_of_mem _ h)
   ·rcases List.mem_cons.1 h with h | h
    ·exact .inr (by simp [h])
    ·rcases ih h with h | h
     ·exact .inl h
     ·exact .inr (List.mem_cons_of_mem _ h)
theorem sorted_ins {t : T} (k : K) (v : J) (h : Sorted t) : Sorted (ins t k v) := by
 induction t with
 | nil => simp [ins, Sorted]
 | cons a r ih =>
  obtain ⟨k', v'⟩ := a
  have hc := List.pairwise_cons.1 h
  simp only [ins]
  split
  ·rename_i hl
   refine List.pairwise_cons.2 ⟨fun x hx => ?_, h⟩
   rcases List.mem_cons.1 hx with e | hx
   ·subst e; exact hl
   ·exact klt_trans hl (hc.1 x hx)
  ·split
   ·rename_i e; subst e
    exact List.pairwise_cons.2 ⟨hc.1, hc.2⟩
   ·rename_i h1 h2
    refine List.pairwise_cons.2 ⟨fun x hx => ?_, ih hc.2⟩
    rcases mem_ins hx with e | hx
    ·subst e; exact klt_tri h1 h2
    ·exact hc.1 x hx
theorem get_mem {t : T} {k : K} {v : J} (h : get t k = some v) : (k, v) ∈ t := by
 induction t with
 | nil => simp [get] at h
 | cons a r ih =>
  obtain ⟨k', v'⟩ := a
  simp only [get] at h
  split at h
  ·rename_i e; subst e; simp at h; simp [h]
  ·exact List.mem_cons_of_mem _ (ih h)
theorem get_keys {t : T} {k : K} {v : J} (h : get t k = some v) : k ∈ keys t := List.mem_map.2 ⟨_, get_mem h, rfl⟩
theorem get_of_keys {t : T} {k : K} (h : k ∈ keys t) : ∃ v, get t k = some v := by
 induction t with
 | nil => simp [keys] at h
 | cons a r ih =>
  obtain ⟨k', v'⟩ := a
  simp only [get]
  split
  ·exact ⟨_, rfl⟩
  ·rename_i hne
   simp [keys] at h
   rcases h with h | ⟨b, h⟩
   ·exact absurd h.symm hne
   ·exact ih (List.mem_map.2 ⟨_, h, rfl⟩)
theorem get_none {t : T} {k : K} : get t k = none ↔ k ∉ keys t := by
 constructor
 ·intro h hk
  obtain ⟨v, hv⟩ := get_of_keys hk
  rw [h] at hv; cases hv
 ·intro h
  cases hg : get t k with
  | none => rfl
  | some v => exact absurd (get_keys hg) h
theorem get_of_mem {t : T} (h : Sorted t) {k : K} {v : J} (hm : (k, v) ∈ t) : get t k = some v := by
 induction t with
 | nil => simp at hm
 | cons a r ih =>
  obtain ⟨k', v'⟩ := a
  have hc := List.pairwise_cons.1 h
  simp only [get]
  rcases List.mem_cons.1 hm with e | hm
  ·injection e with e1 e2; subst e1; subst e2; simp
  ·rw [if_neg (klt_ne (hc.1 _ hm))]; exact ih hc.2 hm
theorem t_ext {a b : T} (ha : Sorted a) (hb : Sorted b) (h : ∀ k, get a k = get b k) : a = b := by
 induction a generalizing b with
 | nil =>
  cases b with
  | nil => rfl
  | cons y s => have := h y.1; simp [get] at this
 | cons x r ih =>
  cases b with
  | nil => have := h x.1; simp [get] at this
  | cons y s =>
   obtain ⟨k, v⟩ := x
   obtain ⟨k', v'⟩ := y
   have ca := List.pairwise_cons.1 ha
   have cb := List.pairwise_cons.1 hb
   have hk : k = k' := by
    by_cases e : k = k'
    ·exact e
    ·exfalso
     by_cases hl : klt k k'
     ·have h1 := h k
      simp only [get, if_true] at h1
      rw [if_neg (Ne.symm e)] at h1
      have h2 := get_mem h1.symm
      exact klt_asymm hl (cb.1 _ h2)
     ·have hl' := klt_tri hl e
      have h1 := h k'
      simp only [get, if_true] at h1
      rw [if_neg e] at h1
      have h2 := get_mem h1
      exact klt_asymm hl' (ca.1 _ h2)
   subst hk
   have hv : v = v' := by have := h k; simpa [get] using this
   subst hv
   congr 1
   refine ih ca.2 cb.2 fun x => ?_
   have hx := h x
   simp only [get] at hx
   by_cases e : k = x
   ·subst e
    have n1 : get r k = none := get_none.2 (fun hm => by
     obtain ⟨p, hp, e⟩ := List.mem_map.1 hm
     exact klt_ne (ca.1 p hp) e.symm)
    have n2 : get s k = none := get_none.2 (fun hm => by
     obtain ⟨p, hp, e⟩ := List.mem_map.1 hm
     exact klt_ne (cb.1 p hp) e.symm)
    rw [n1, n2]
   ·simpa [e] using hx
theorem sorted_del {t : T} (k : K) (h : Sorted t) : Sorted (del t k) := List.Pairwise.filter _ h
theorem get_del (t : T) (k x : K) : get (del t k) x = if k = x then none else get t x := by
 induction t with
 | nil => simp [del, get]
 | cons a r ih =>
  obtain ⟨k', v'⟩ := a
  unfold del at *
  by_cases e : k' = k
  ·subst e
   rw [List.filter_cons_of_neg (by simp), ih]
   simp only [get]
   by_cases e2 : k' = x <;> simp [e2]
  ·rw [List.filter_cons_of_pos (by simp [e])]
   simp only [get, ih]
   by_cases e2 : k' = x
   ·subst e2; simp [Ne.symm e]
   ·simp [e2]
theorem k_beq (a b : K) : (a == b) = decide (a = b) := by rw [beq_toListBytes, toList_beq]
instance : LawfulBEq K where
 eq_of_beq {a b} h := by rw [k_beq] at h; exact of_decide_eq_true h
 rfl {a} := by rw [k_beq]; simp
theorem get_first {t : T} {n : Nat} {p : K × J} {k : K} (h : t[n]? = some p) (hk : p.1 = k) (hnot : ∀ q ∈ t.take n, q.1 ≠ k) : get t k = some p.2 := by
 induction t generalizing n with
 | nil => simp at h
 | cons a r ih =>
  obtain ⟨k', v'⟩ := a
  cases n with
  | zero => simp at h; subst h; simp only [get]; rw [if_pos hk]
  | succ n =>
   simp only [List.take_succ_cons, List.mem_cons, forall_eq_or_imp] at hnot
   simp only [List.getElem?_cons_succ] at h
   simp only [get]
   rw [if_neg hnot.1]
   exact ih h hnot.2
theorem take_not {t : T} {n : Nat} {p : K × J} {k : K} (h : t[n]? = some p) (hk : p.1 ≠ k) (hnot : ∀ q ∈ t.take n, q.1 ≠ k) : ∀ q ∈ t.take (n + 1), q.1 ≠ k := by
 intro q hq
 rw [List.take_add_one, h] at hq
 rcases List.mem_append.1 hq with hq | hq
 ·exact hnot q hq
 ·simp at hq; subst hq; exact hk
theorem get_none_of {t : T} {k : K} (hnot : ∀ q ∈ t, q.1 ≠ k) : get t k = none := by
 refine get_none.2 fun hm => ?_
 obtain ⟨p, hp, e⟩ := List.mem_map.1 hm
 exact hnot p hp e
theorem ins_all {t : T} {k : K} {x : J} (h : ∀ p ∈ t, klt p.1 k) : ins t k x = t ++ [(k, x)] := by
 induction t with
 | nil => rfl
 | cons a r ih =>
  obtain ⟨k', v'⟩ := a
  have h1 : klt k' k := h (k', v') (by simp)
  simp only [ins]
  rw [if_neg (klt_asymm h1), if_neg (Ne.symm (klt_ne h1)), ih (fun p hp => h p (by simp [hp]))]
  rfl
theorem ins_here {t : T} {k : K} {x : J} {p : K × J} (h : ∀ p ∈ t, klt p.1 k) (hp : ¬ klt p.1 k) : ins (t ++ [p]) k x = t ++ (k, x) :: (if p.1 = k then [] else [p]) := by
 induction t with
 | nil =>
  obtain ⟨k', v'⟩ := p
  simp only [List.nil_append, ins]
  by_cases e : k' = k
  ·subst e; simp [klt_irrefl]
  ·rw [if_pos (klt_tri hp e), if_neg e]
 | cons a r ih =>
  obtain ⟨k', v'⟩ := a
  have h1 : klt k' k := h (k', v') (by simp)
  simp only [List.cons_append, ins]
  rw [if_neg (klt_asymm h1), if_neg (Ne.symm (klt_ne h1)), ih (fun p hp => h p (by simp [hp]))]
theorem ins_snoc {t : T} {k : K} {x : J} {p : K × J} (h : ∃ q ∈ t, ¬ klt q.1 k) : ins (t ++ [p]) k x = ins t k x ++ [p] := by
 induction t with
 | nil => obtain ⟨q, hq, -⟩ := h; simp at hq
 | cons a r ih =>
  obtain ⟨k', v'⟩ := a
  simp only [List.cons_append, ins]
  by_cases h1 : klt k k'
  ·rw [if_pos h1, if_pos h1]; rfl
  ·rw [if_neg h1, if_neg h1]
   by_cases h2 : k = k'
   ·rw [if_pos h2, if_pos h2]; rfl
   ·rw [if_neg h2, if_neg h2, ih ?_]
    ·rfl
    ·obtain ⟨q, hq, hn⟩ := h
     rcases List.mem_cons.1 hq with e | hq
     ·subst e
      exact absurd (klt_tri h1 h2) hn
     ·exact ⟨q, hq, hn⟩
theorem ins_length (t : T) (k : K) (x : J) : (ins t k x).length ≤ t.length + 1 := by
 induction t with
 | nil => simp [ins]
 | cons a r ih =>
  obtain ⟨k', v'⟩ := a
  simp only [ins]
  split
  ·simp
  ·split
   ·simp
   ·simp only [List.length_cons]; omega
def mk (ks : List K) (f : K -> Option J) : T :=
 ks.foldr (fun k acc => match f k with | some v => ins acc k v | none => acc) []
theorem get_mk (ks : List K) (f : K -> Option J) (x : K) : get (mk ks f) x = if x ∈ ks then f x else none := by
 induction ks with
 | nil => simp [mk, get]
 | cons k r ih =>
  simp only [mk, List.foldr_cons] at *
  cases hf : f k with
  | none =>
   simp only [ih, List.mem_cons]
   by_cases e : x = k
   ·subst e; simp [hf]
   ·simp [e]
  | some v =>
   simp only [get_ins, ih, List.mem_cons]
   by_cases e : k = x
   ·subst e; simp [hf]
   ·simp [e, Ne.symm e]
theorem sorted_mk (ks : List K) (f : K -> Option J) : Sorted (mk ks f) := by
 induction ks with
 | nil => simp [mk, Sorted]
 | cons k r ih =>
  simp only [mk, List.foldr_cons] at *
  cases f k with
  | none => exact ih
  | some v => exact sorted_ins _ _ ih
theorem sizeOf_get {t : T} {k : K} {v : J} (h : get t k = some v) : SizeOf.sizeOf v < SizeOf.sizeOf t := by
 have := List.sizeOf_lt_of_mem (get_mem h)
 have e : SizeOf.sizeOf (k, v) = 1 + SizeOf.sizeOf k + SizeOf.sizeOf v := rfl
 omega
theorem sizeOf_get_table {t : T} {k : K} {s : T} (h : get t k = some (.table s)) : SizeOf.sizeOf s < SizeOf.sizeOf t := by
 have := sizeOf_get h
 have e : SizeOf.sizeOf (J.table s) = 1 + SizeOf.sizeOf s := J.table.sizeOf_spec s
 omega
def merged (a b : T) : T := mk (keys a ++ keys b) fun k =>
 match _h : get b k with
 | none => get a k
 | some (.table y) => match get a k with
  | some (.table x) => some (.table (merged x y))
  | _ => some (.table y)
 | some v => some v
termination_by SizeOf.sizeOf b
decreasing_by exact sizeOf_get_table _h
theorem get_merged (a b : T) (k : K) : get (merged a b) k =
  match get b k with
  | none => get a k
  | some (.table y) => match get a k with
   | some (.table x) => some (.table (merged x y))
   | _ => some (.table y)
  | some v => some v := by
 rw [merged, get_mk]
 by_cases hk : k ∈ keys a ++ keys b
 ·rw [if_pos hk]; split <;> simp_all
 ·rw [if_neg hk]
  have h1 : get a k = none := get_none.2 (fun h => hk (List.mem_append_left _ h))
  have h2 : get b k = none := get_none.2 (fun h => hk (List.mem_append_right _ h))
  rw [h1, h2]
theorem sorted_merged (a b : T) : Sorted (merged a b) := by rw [merged]; exact sorted_mk _ _
end Go.Proofs.YtljaoopfomcaoaaGreatDoor
namespace Go.Proofs.YtljaoopfomcaoaaGreatDoor
open Go.RowKit
structure Chg (S : Nat -> Prop) (w w' : World) : Prop where
 os : w'.os = w.os
 tape : w'.tape = w.tape
 output : w'.output = w.output
 size : w.heap.size ≤ w'.heap.size
 block : ∀ k, k < w.heap.size -> ¬ S k -> w'.heap[k]? = w.heap[k]?
abbrev No : Nat -> Prop := fun _ => False
theorem Chg.refl (S : Nat -> Prop) (w : World) : Chg S w w := ⟨rfl, rfl, rfl, Nat.le_refl _, fun _ _ _ => rfl⟩
theorem Chg.trans {S S' : Nat -> Prop} {a b c : World} (h : Chg S a b) (k : Chg S' b c) (hs : ∀ i, i < a.heap.size -> S' i -> S i) : Chg S a c :=
 ⟨k.os.trans h.os, k.tape.trans h.tape, k.output.trans h.output, Nat.le_trans h.size k.size, fun i hi hn =>
  (k.block i (Nat.lt_of_lt_of_le hi h.size) (fun e => hn (hs i hi e))).trans (h.block i hi hn)⟩
theorem Chg.mono {S S' : Nat -> Prop} {a b : World} (h : Chg S a b) (hs : ∀ i, i < a.heap.size -> S i -> S' i) : Chg S' a b :=
 ⟨h.os, h.tape, h.output, h.size, fun i hi hn => h.block i hi (fun e => hn (hs i hi e))⟩
theorem Chg.trans' {S : Nat -> Prop} {a b c : World} (h : Chg S a b) (k : Chg No b c) : Chg S a c := h.trans k (fun _ _ e => e.elim)
theorem Chg.grown {w w' : World} {row : Option Nat} (h : w.grownBy w' row) : Chg (fun k => row = some k) w w' :=
 ⟨h.os, h.tape, h.output, h.size, fun k hk hn => h.block k hk (fun e => hn e.symm)⟩
theorem Chg.alloc {S : Nat -> Prop} {a w : World} (h : Chg S a w) (o : Obj) : Chg S a (w.alloc o) :=
 h.trans (S' := No) ⟨rfl, rfl, rfl, by simp, fun k hk _ => Below.heap_alloc _ _ _ hk⟩ (fun _ _ e => e.elim)
theorem Chg.drew {S : Nat -> Prop} {a w : World} (h : Chg S a w) : Chg S a w.drew := ⟨h.os, h.tape, h.output, h.size, h.block⟩
theorem Chg.setCell {S : Nat -> Prop} {a w : World} (h : Chg S a w) {p : Addr} (hp : p.block < a.heap.size -> S p.block) (u : Value) : Chg S a (w.setCell p u) :=
 h.trans (S' := fun k => k = p.block) ⟨rfl, rfl, rfl, by simp [World.setCell], fun k hk hn => Below.heap_setCell _ _ _ _ hn⟩ (fun i hi e => by subst e; exact hp hi)
theorem Chg.heap {S : Nat -> Prop} {w w' : World} (h : Chg S w w') {k : Nat} (hk : k < w.heap.size) (hn : ¬ S k) : w'.heap[k]? = w.heap[k]? := h.block k hk hn
theorem Chg.cell {S : Nat -> Prop} {w w' : World} (h : Chg S w w') {p : Addr} {v : Value} (hv : w.cell? p = some v) (hn : ¬ S p.block) : w'.cell? p = some v :=
 (World.cell?_of_block (w := w) (h.block p.block (World.block_lt_of_cell? w p hv) hn)).trans hv
theorem Chg.cellEq {S : Nat -> Prop} {w w' : World} (h : Chg S w w') {p : Addr} (hp : p.block < w.heap.size) (hn : ¬ S p.block) : w'.cell? p = w.cell? p :=
 World.cell?_of_block (w := w) (h.block p.block hp hn)
theorem Chg.frozenEq {S : Nat -> Prop} {w w' : World} (h : Chg S w w') {p : Addr} (hp : p.block < w.heap.size) (hn : ¬ S p.block) : w'.frozen? p = w.frozen? p :=
 World.frozen?_of_block (w := w) (h.block p.block hp hn)
def RowAt (ok : Nat -> Prop) (w : World) (v : Value) (size : Nat) (rows : List (List Value)) : Prop :=
 rows.length ≤ maxLen /\ (∀ r ∈ rows, r.length = size) /\ ∃ a cap, v = .slice a rows.length cap /\ (a = none -> cap = 0) /\
  (rows ≠ [] -> ∃ b off, a = some ⟨b, off, none⟩ /\ ok b /\ ∀ i r, rows[i]? = some r -> ∀ j u, r[j]? = some u -> w.cell? ⟨b, off + i * size + j, none⟩ = some u)
theorem RowAt.chg {ok S : Nat -> Prop} {w w' : World} {v : Value} {size : Nat} {rows : List (List Value)} (h : RowAt ok w v size rows) (hc : Chg S w w')
  (hs : ∀ b, ok b -> ¬ S b) : RowAt ok w' v size rows := by
 obtain ⟨h1, h2, a, cap, hv, h0, h3⟩ := h
 refine ⟨h1, h2, a, cap, hv, h0, fun hne => ?_⟩
 obtain ⟨b, off, ha, hok, hcell⟩ := h3 hne
 exact ⟨b, off, ha, hok, fun i r hr j u hu => hc.cell (hcell i r hr j u hu) (hs b hok)⟩
theorem RowAt.mono {ok ok' : Nat -> Prop} {w : World} {v : Value} {size : Nat} {rows : List (List Value)} (h : RowAt ok w v size rows)
  (hs : ∀ b, b < w.heap.size -> ok b -> ok' b) (hz : 0 < size) : RowAt ok' w v size rows := by
 obtain ⟨h1, h2, a, cap, hv, h0, h3⟩ := h
 refine ⟨h1, h2, a, cap, hv, h0, fun hne => ?_⟩
 obtain ⟨b, off, ha, hok, hcell⟩ := h3 hne
 refine ⟨b, off, ha, hs b ?_ hok, hcell⟩
 cases rows with
 | nil => exact absurd rfl hne
 | cons r rs =>
  have hl := h2 r (by simp)
  cases r with
  | nil => simp at hl; omega
  | cons u us => exact World.block_lt_of_cell? w _ (hcell 0 _ rfl 0 u rfl)
def cells7 (k : Int) (b : Bool) (i : Int) (f : Nat) (t : K) (kv lv : Value) : List Value :=
 [.int .i64 k, .bool b, .int .i64 i, .float .f64 f, .string t, kv, lv]
def FinBits (f : Nat) : Prop := (FloatKind.f64.format.order f f == some .eq) = true
inductive ValJ (ok : Nat -> Prop) (w : World) : List Value -> J -> Prop where
 | null {b i f t kv lv} (hk : RowAt ok w kv 1 []) (hl : RowAt ok w lv 7 []) : ValJ ok w (cells7 0 b i f t kv lv) .null
 | bool {b i f t kv lv} (hk : RowAt ok w kv 1 []) (hl : RowAt ok w lv 7 []) : ValJ ok w (cells7 1 b i f t kv lv) (.bool b)
 | int {b i f t kv lv} (hk : RowAt ok w kv 1 []) (hl : RowAt ok w lv 7 []) : ValJ ok w (cells7 2 b i f t kv lv) (.int i)
 | float {b i f t kv lv} (hk : RowAt ok w kv 1 []) (hl : RowAt ok w lv 7 []) : ValJ ok w (cells7 4 b i f t kv lv) (.float f)
 | text {b i f t kv lv} (hk : RowAt ok w kv 1 []) (hl : RowAt ok w lv 7 []) : ValJ ok w (cells7 5 b i f t kv lv) (.text t)
 | list {b i f t kv lv} {rows : List (List Value)} {xs : List J} (hk : RowAt ok w kv 1 []) (hl : RowAt ok w lv 7 rows) (hn : rows.length = xs.length)
   (h : ∀ (n : Nat) (r : List Value) (x : J), rows[n]? = some r -> xs[n]? = some x -> ValJ ok w r x) : ValJ ok w (cells7 6 b i f t kv lv) (.list xs)
 | table {b i f t kv lv} {rows : List (List Value)} {kvs : T} (hk : RowAt ok w kv 1 (kvs.map fun p => [.string p.1])) (hl : RowAt ok w lv 7 rows) (hn : rows.length = kvs.length)
   (h : ∀ (n : Nat) (r : List Value) (p : K × J), rows[n]? = some r -> kvs[n]? = some p -> ValJ ok w r p.2) : ValJ ok w (cells7 7 b i f t kv lv) (.table kvs)
theorem ValJ.chg {ok S : Nat -> Prop} {w w' : World} {cs : List Value} {j : J} (h : ValJ ok w cs j) (hc : Chg S w w') (hs : ∀ b, ok b -> ¬ S b) : ValJ ok w' cs j := by
 induction h with
 | null hk hl => exact .null (hk.chg hc hs) (hl.chg hc hs)
 | bool hk hl => exact .bool (hk.chg hc hs) (hl.chg hc hs)
 | int hk hl => exact .int (hk.chg hc hs) (hl.chg hc hs)
 | float hk hl => exact .float (hk.chg hc hs) (hl.chg hc hs)
 | text hk hl => exact .text (hk.chg hc hs) (hl.chg hc hs)
 | list hk hl hn _ ih => exact .list (hk.chg hc hs) (hl.chg hc hs) hn ih
 | table hk hl hn _ ih => exact .table (hk.chg hc hs) (hl.chg hc hs) hn ih
theorem ValJ.mono {ok ok' : Nat -> Prop} {w : World} {cs : List Value} {j : J} (h : ValJ ok w cs j) (hs : ∀ b, b < w.heap.size -> ok b -> ok' b) : ValJ ok' w cs j := by
 induction h with
 | null hk hl => exact .null (hk.mono hs (by decide)) (hl.mono hs (by decide))
 | bool hk hl => exact .bool (hk.mono hs (by decide)) (hl.mono hs (by decide))
 | int hk hl => exact .int (hk.mono hs (by decide)) (hl.mono hs (by decide))
 | float hk hl => exact .float (hk.mono hs (by decide)) (hl.mono hs (by decide))
 | text hk hl => exact .text (hk.mono hs (by decide)) (hl.mono hs (by decide))
 | list hk hl hn _ ih => exact .list (hk.mono hs (by decide)) (hl.mono hs (by decide)) hn ih
 | table hk hl hn _ ih => exact .table (hk.mono hs (by decide)) (hl.mono hs (by decide)) hn ih
theorem ValJ.seven {ok : Nat -> Prop} {w : World} {cs : List Value} {j : J} (h : ValJ ok w cs j) : ∃ k b i f t kv lv, cs = cells7 k b i f t kv lv := by
 cases h <;> exact ⟨_, _, _, _, _, _, _, rfl⟩
theorem ValJ.length {ok : Nat -> Prop} {w : World} {cs : List Value} {j : J} (h : ValJ ok w cs j) : cs.length = 7 := by
 obtain ⟨k, b, i, f, t, kv, lv, rfl⟩ := h.seven; rfl
abbrev zero7 : List Value := cells7 0 false 0 0 ByteArray.empty (.slice none 0 0) (.slice none 0 0)
def atJ : J -> K -> Option J
 | .table kvs, k => get kvs k
 | _, _ => none
def CellsAt (w : World) (b o : Nat) (cs : List Value) : Prop := ∀ j u, cs[j]? = some u -> w.cell? ⟨b, o + j, none⟩ = some u
theorem RowAt.one {ok : Nat -> Prop} {w : World} {v : Value} {size : Nat} {rows : List (List Value)} (h : RowAt ok w v size rows) : v.oneCell' = true := by
 obtain ⟨-, -, a, cap, rfl, -, -⟩ := h; rfl
theorem cells7_one {k b i f t kv lv} (hk : Value.oneCell' kv = true) (hl : Value.oneCell' lv = true) : (cells7 k b i f t kv lv).all (·.oneCell') = true := by
 simp only [cells7, List.all_cons, List.all_nil, hk, hl]; rfl
theorem ValJ.one {ok : Nat -> Prop} {w : World} {cs : List Value} {j : J} (h : ValJ ok w cs j) : cs.all (·.oneCell') = true := by
 cases h with
 | null hk hl => exact cells7_one hk.one hl.one
 | bool hk hl => exact cells7_one hk.one hl.one
 | int hk hl => exact cells7_one hk.one hl.one
 | float hk hl => exact cells7_one hk.one hl.one
 | text hk hl => exact cells7_one hk.one hl.one
 | list hk hl _ _ => exact cells7_one hk.one hl.one
 | table hk hl _ _ => exact cells7_one hk.one hl.one
theorem RowAt.at {ok : Nat -> Prop} {w : World} {a : Option Addr} {n cap size : Nat} {rows : List (List Value)} (h : RowAt ok w (.slice a n cap) size rows) {i : Nat} {r : List Value} (hr : rows[i]? = some r) :
  ∃ b off, a = some ⟨b, off, none⟩ /\ ok b /\ CellsAt w b (off + i * size) r := by
 obtain ⟨h1, h2, a', cap', hv, -, h3⟩ := h
 cases hv
 have hne : rows ≠ [] := fun e => by subst e; simp at hr
 obtain ⟨b, off, ha, hok, hcell⟩ := h3 hne
 exact ⟨b, off, ha, hok, fun j u hu => hcell i r hr j u hu⟩
theorem CellsAt.chg {S : Nat -> Prop} {w w' : World} {b o : Nat} {cs : List Value} (h : CellsAt w b o cs) (hc : Chg S w w') (hn : ¬ S b) : CellsAt w' b o cs :=
 fun j u hu => hc.cell (h j u hu) hn
theorem CellsAt.one {w : World} {b o : Nat} {v : Value} (h : CellsAt w b o [v]) : w.cell? ⟨b, o, none⟩ = some v := h 0 v rfl
def AggTy (P : Program) (ty n : Nat) : Prop := (∃ fs, P.underlying ty = some (.struct fs)) /\ (P.info? ty).map (·.size) = some n
theorem add_eq (b o j : Nat) : (⟨b, o, none⟩ : Addr).add j = ⟨b, o + j, none⟩ := by
 unfold Addr.add; split <;> simp_all
theorem run_loadAgg {P : Program} (w : World) {ty n : Nat} (hT : AggTy P ty n) {b o : Nat} {cs : List Value} (hc : CellsAt w b o cs) (hl : cs.length = n) :
  (loadVar ty ⟨b, o, none⟩).run P w = .ok (.agg cs.toArray) w := by
 obtain ⟨⟨fs, hu⟩, hi⟩ := hT
 have hr := run_loadCells_list (P := P) w ⟨b, o, none⟩ cs (fun j v hv => by rw [add_eq]; exact hc j v hv)
 cases hq : P.info? ty with
 | none => simp [hq] at hi
 | some i =>
  have hs : i.size = cs.length := by simpa [hq, hl] using hi
  have hagg : (isAgg ty).run P w = .ok true w := by
   unfold isAgg
   rw [Sem.run_bind, run_underlying hu w]
   rfl
  simp [loadVar, Sem.run_bind, hagg, sizeOf, typeInfo, hq, hs, hr]
theorem wp_loadAgg {P : Program} {o : Oper} {a : Act} {w : World} {K : Act -> World -> Prop} {Q : Exit -> Act -> World -> Prop} {ty n : Nat} (hT : AggTy P ty n) {x : Operand} (ho : o.op = .load ty x)
  {b off : Nat} (hx : a.eval x = .pointer (some ⟨b, off, none⟩)) {cs : List Value} (hc : CellsAt w b off cs) (hl : cs.length = n)
  (h : K (a.put o.dst (.agg cs.toArray)) w) : o.wp P a w K Q := by
 unfold Oper.wp execOp
 simp only [ho, hx, Instr.loadAt, Instr.sureAddr, Sem.run_bind, Sem.run_pure, Result.andThen_ok, run_loadAgg w hT hc hl]
 exact h
theorem wpList_loadAgg {P : Program} {ops : Array Oper} {rest : List Oper} {o : Oper} {a : Act} {w : World} {Q : Exit -> Act -> World -> Prop} {ty n : Nat} (hgd : o.guard = none) (hT : AggTy P ty n) {x : Operand} (ho : o.op = .load ty x)
  {b off : Nat} (hx : a.eval x = .pointer (some ⟨b, off, none⟩)) {cs : List Value} (hc : CellsAt w b off cs) (hl : cs.length = n)
  (h : wpList P ops Q rest (a.put o.dst (.agg cs.toArray)) w) : wpList P ops Q (o :: rest) a w :=
 wpList_plain hgd fun _ hK => wp_loadAgg hT ho hx hc hl (hK _ _ h)
def Blk (w : World) (g : Nat) (cs : List Value) (ty : TypeId) : Prop := w.heap[g]? = some (.cells cs.toArray ty (0, 0))
theorem Blk.cells {w : World} {g : Nat} {cs : List Value} {ty : TypeId} (h : Blk w g cs ty) : CellsAt w g 0 cs := by
 intro j u hu
 rw [Nat.zero_add, cell_of_row w g j _ _ _ h]
 simpa using hu
theorem Blk.cell {w : World} {g : Nat} {cs : List Value} {ty : TypeId} (h : Blk w g cs ty) (j : Nat) : w.cell? ⟨g, j, none⟩ = cs[j]? := by
 rw [cell_of_row w g j _ _ _ h]; simp
theorem Blk.frozen {w : World} {g : Nat} {cs : List Value} {ty : TypeId} (h : Blk w g cs ty) (j : Nat) : w.frozen? ⟨g, j, none⟩ = false := frozen_of_row w g j _ _ h
theorem Blk.lt {w : World} {g : Nat} {cs : List Value} {ty : TypeId} (h : Blk w g cs ty) : g < w.heap.size := (Array.getElem?_eq_some_iff.1 h).1
theorem Blk.chg {S : Nat -> Prop} {w w' : World} {g : Nat} {cs : List Value} {ty : TypeId} (h : Blk w g cs ty) (hc : Chg S w w') (hn : ¬ S g) : Blk w' g cs ty :=
 (hc.block g h.lt hn).trans h
theorem Blk.alloc {w : World} {g : Nat} {cs : List Value} {ty : TypeId} (h : Blk w g cs ty) (o : Obj) : Blk (w.alloc o) g cs ty := (Below.heap_alloc _ _ _ h.lt).trans h
theorem Blk.drew {w : World} {g : Nat} {cs : List Value} {ty : TypeId} (h : Blk w g cs ty) : Blk w.drew g cs ty := h
theorem Blk.new (w : World) (cs : List Value) (ty : TypeId) : Blk (w.alloc (.cells cs.toArray ty)) w.heap.size cs ty := heap_alloc_new w _
theorem setRow_chg {w : World} {g : Nat} {old cs : List Value} {t : TypeId} (hb : Blk w g old t) : Blk (w.setRow g cs.toArray) g cs t /\ Chg (· = g) w (w.setRow g cs.toArray) /\ (w.setRow g cs.toArray).heap.size = w.heap.size :=
 ⟨setRow_heap w g _ _ t _ hb, ⟨rfl, rfl, rfl, by simp, fun k hk hn => setRow_other w g k _ hn⟩, by simp⟩
theorem Blk.newAt {w : World} {n : Nat} (h : n = w.heap.size) (cs : List Value) (ty : TypeId) : Blk (w.alloc (.cells cs.toArray ty)) n cs ty := by subst h; exact Blk.new w cs ty
theorem wp_storeBlk {P : Program} {o : Oper} {a : Act} {w : World} {K : Act -> World -> Prop} {Q : Exit -> Act -> World -> Prop} {ty n : Nat} (hT : AggTy P ty n) {x y : Operand} (ho : o.op = .store ty x y)
  {g : Nat} {t : TypeId} {old cs : List Value} (hx : a.eval x = .pointer (some ⟨g, 0, none⟩)) (hy : a.eval y = .agg cs.toArray) (hb : Blk w g old t) (hold : old.length = n) (hl : cs.length = n) (h1 : cs.all (·.oneCell') = true)
  (h : ∀ w', Blk w' g cs t -> Chg (· = g) w w' -> w'.heap.size = w.heap.size -> K (a.put o.dst undef) w') : o.wp P a w K Q := by
 obtain ⟨h2, h3, h4⟩ := setRow_chg (cs := cs) hb
 refine wp_store_row ty x y ho g cs.toArray hx hy t old.toArray hb (by simpa [hl] using hT.2) (by simp [hold, hl]) (by simpa using h1) (h _ h2 h3 h4)
theorem wpList_storeBlk {P : Program} {ops : Array Oper} {rest : List Oper} {o : Oper} {a : Act} {w : World} {Q : Exit -> Act -> World -> Prop} {ty n : Nat} (hgd : o.guard = none) (hT : AggTy P ty n) {x y : Operand} (ho : o.op = .store ty x y)
  {g : Nat} {t : TypeId} {old cs : List Value} (hx : a.eval x = .pointer (some ⟨g, 0, none⟩)) (hy : a.eval y = .agg cs.toArray) (hb : Blk w g old t) (hold : old.length = n) (hl : cs.length = n) (h1 : cs.all (·.oneCell') = true)
  (h : ∀ w', Blk w' g cs t -> Chg (· = g) w w' -> w'.heap.size = w.heap.size -> wpList P ops Q rest (a.put o.dst undef) w') : wpList P ops Q (o :: rest) a w :=
 wpList_plain hgd fun _ hK => wp_storeBlk hT ho hx hy hb hold hl h1 fun w' a b c => hK _ _ (h w' a b c)
theorem wpList_storeNew {P : Program} {ops : Array Oper} {rest : List Oper} {o : Oper} {a : Act} {w : World} {Q : Exit -> Act -> World -> Prop} {ty n : Nat} (hgd : o.guard = none) (hT : AggTy P ty n) {x y : Operand} (ho : o.op = .store ty x y)
  {t : TypeId} {old cs : List Value} (hx : a.eval x = .pointer (some ⟨w.heap.size, 0, none⟩)) (hy : a.eval y = .agg cs.toArray) (hold : old.length = n) (hl : cs.length = n) (h1 : cs.all (·.oneCell') = true)
  (h : wpList P ops Q rest (a.put o.dst undef) (w.alloc (.cells cs.toArray t))) : wpList P ops Q (o :: rest) a (w.alloc (.cells old.toArray t)) := by
 refine wpList_plain hgd fun K hK => ?_
 refine wp_store_row ty x y ho w.heap.size cs.toArray hx hy t old.toArray (Blk.new w old t) (by simpa [hl] using hT.2) (by simp [hold, hl]) (by simpa using h1) ?_
 have e : (w.alloc (.cells old.toArray t)).setRow w.heap.size cs.toArray = w.alloc (.cells cs.toArray t) := by
  simp only [World.setRow, World.alloc]
  congr 1
  apply Array.ext
  ·simp
  ·intro k h1 h2
   simp only [Array.getElem_modify, Array.getElem_push]
   simp at h1
   split
   ·rename_i hk; subst hk; simp
   ·rename_i hk
    rw [dif_pos (by omega), dif_pos (by omega)]
 rw [e]
 exact hK _ _ h
theorem results_blk_tmp {P : Program} {fn : Func} {p u : Tmp} {ty n : Nat} (h : fn.results = #[.cell p ty, .tmp u]) (hT : AggTy P ty n) {tmps : Array Value} {w : World} {g : Nat} {cs : List Value} {t : TypeId}
  (hp : tmps.getD p undef = .pointer (some ⟨g, 0, none⟩)) (hb : Blk w g cs t) (hl : cs.length = n) :
  (results fn tmps).run P w = .ok (.tuple #[.agg cs.toArray, tmps.getD u undef]) w := by
 rw [results_cell_tmp h, hp]
 simp [asAddr, Result.andThen, run_loadAgg w hT (b := g) (o := 0) hb.cells hl]
theorem results_blk {P : Program} {fn : Func} {p : Tmp} {ty n : Nat} (h : fn.results = #[.cell p ty]) (hT : AggTy P ty n) {tmps : Array Value} {w : World} {g : Nat} {cs : List Value} {t : TypeId}
  (hp : tmps.getD p undef = .pointer (some ⟨g, 0, none⟩)) (hb : Blk w g cs t) (hl : cs.length = n) :
  (results fn tmps).run P w = .ok (.agg cs.toArray) w := by
 obtain ⟨⟨fs, hu⟩, hi⟩ := hT
 exact results_cell_row h tmps w g t cs.toArray (0, 0) _ hp hb hu rfl (by simpa [hl] using hi)
theorem agg26 : AggTy Tryz.prog 26 7 := ⟨⟨_, Tryz.underlying26⟩, by kernel_rfl⟩
theorem agg30 : AggTy Tryz.prog 30 11 := ⟨⟨_, Tryz.underlying30⟩, by kernel_rfl⟩
theorem agg79 : AggTy Tryz.prog 79 7 := ⟨⟨_, Tryz.underlying79⟩, by kernel_rfl⟩
theorem agg110 : AggTy Tryz.prog 110 4 := ⟨⟨_, Tryz.underlying110⟩, by kernel_rfl⟩
structure ElemTy (P : Program) (t e size bytes : Nat) : Prop where
 und : P.underlying t = some (.slice e)
 info : ∃ i z, P.info? e = some i /\ i.zero = some z /\ i.size = size /\ i.bytes = bytes /\ z.cells.size = size
 pos : 0 < size
def OwnR (w : World) (base e size : Nat) (v : Value) (rows : List (List Value)) : Prop :=
 (∀ r ∈ rows, r.length = size) /\ w.ownsRow base e size v rows.length rows.flatten
theorem OwnR.nil (w : World) (base e size : Nat) : OwnR w base e size (.slice none 0 0) [] := ⟨by simp, World.ownsRow_nil w base e size⟩
theorem OwnR.chg {S : Nat -> Prop} {w w' : World} {base e size : Nat} {v : Value} {rows : List (List Value)} (h : OwnR w base e size v rows) (hc : Chg S w w') (hn : ∀ k, v.ownBlock = some k -> ¬ S k) : OwnR w' base e size v rows := by
 obtain ⟨h0, h1, h2⟩ := h
 refine ⟨h0, h1, ?_⟩
 rcases h2 with h2 | ⟨g, cap, cur, rfl, hg, hh, r⟩
 ·exact .inl h2
 ·exact .inr ⟨g, cap, cur, rfl, hg, (hc.block g (Array.getElem?_eq_some_iff.1 hh).1 (hn g rfl)).trans hh, r⟩
theorem OwnR.alloc {w : World} {base e size : Nat} {v : Value} {rows : List (List Value)} (h : OwnR w base e size v rows) (o : Obj) : OwnR (w.alloc o) base e size v rows :=
 h.chg (S := No) ((Chg.refl _ _).alloc o) (fun _ _ e => e)
theorem OwnR.elem {w : World} {base e size : Nat} {v : Value} {rows : List (List Value)} (h : OwnR w base e size v rows) {k : Nat} (hk : v.ownBlock = some k) : base ≤ k /\ k < w.heap.size /\ ∃ cur, w.heap[k]? = some (.cells cur e (0, 0)) := by
 obtain ⟨-, -, h2⟩ := h
 rcases h2 with ⟨rfl, -⟩ | ⟨g, cap, cur, rfl, hg, hh, r⟩
 ·cases hk
 ·cases hk; exact ⟨hg, (Array.getElem?_eq_some_iff.1 hh).1, cur, hh⟩
theorem OwnR.apart {w : World} {base e size base' e' size' : Nat} {v v' : Value} {rows rows' : List (List Value)} (h : OwnR w base e size v rows) (h' : OwnR w base' e' size' v' rows') (he : e ≠ e') {k : Nat} (hk : v.ownBlock = some k) : ¬ v'.ownBlock = some k := by
 intro hk'
 obtain ⟨-, -, cur, h1⟩ := h.elem hk
 obtain ⟨-, -, cur', h2⟩ := h'.elem hk'
 rw [h1] at h2
 cases h2
 exact he rfl
theorem flatten_get {rows : List (List Value)} {size : Nat} (h : ∀ r ∈ rows, r.length = size) {i j : Nat} {r : List Value} {u : Value} (hr : rows[i]? = some r) (hu : r[j]? = some u) : rows.flatten[i * size + j]? = some u := by
 induction rows generalizing i with
 | nil => simp at hr
 | cons a rs ih =>
  have ha : a.length = size := h a (by simp)
  cases i with
  | zero =>
   simp at hr; subst hr
   have hj : j < a.length := (List.getElem?_eq_some_iff.1 hu).1
   simp only [List.flatten_cons, Nat.zero_mul, Nat.zero_add]
   rw [List.getElem?_append_left hj]; exact hu
  | succ i =>
   simp only [List.getElem?_cons_succ] at hr
   have := ih (fun r hr => h r (by simp [hr])) hr
   simp only [List.flatten_cons]
   rw [List.getElem?_append_right (by rw [ha, Nat.add_mul]; omega), ha]
   rw [show (i + 1) * size + j - size = i * size + j by rw [Nat.add_mul]; omega]
   exact this
theorem flatten_length {rows : List (List Value)} {size : Nat} (h : ∀ r ∈ rows, r.length = size) : rows.flatten.length = rows.length * size := by
 induction rows with
 | nil => simp
 | cons a rs ih =>
  rw [List.flatten_cons, List.length_append, ih (fun r hr => h r (by simp [hr])), h a (by simp), List.length_cons, Nat.add_mul]
  omega
theorem OwnR.rowAt {w : World} {base e size : Nat} {v : Value} {rows : List (List Value)} (h : OwnR w base e size v rows) : RowAt (fun b => v.ownBlock = some b) w v size rows := by
 obtain ⟨h0, h1, h2⟩ := h
 rcases h2 with ⟨rfl, hn⟩ | ⟨g, cap, cur, rfl, hg, hh, h3, h4, h5, h6⟩
 ·have : rows = [] := List.eq_nil_of_length_eq_zero hn
  subst this
  exact ⟨by simp, by simp, none, 0, rfl, fun _ => rfl, fun hne => absurd rfl hne⟩
 ·refine ⟨Nat.le_trans h3 h4, h0, some ⟨g, 0, none⟩, cap, rfl, (by intro e; cases e), fun _ => ⟨g, 0, rfl, rfl, fun i r hr j u hu => ?_⟩⟩
  rw [cell_of_row w g _ cur e (0, 0) hh]
  have := flatten_get h0 hr hu
  rw [← h6] at this
  rw [List.getElem?_take] at this
  split at this
  ·rw [Nat.zero_add]; simpa using this
  ·cases this
theorem RowAt.flat {ok : Nat -> Prop} {w : World} {a : Option Addr} {n cap size : Nat} {rows : List (List Value)} (h : RowAt ok w (.slice a n cap) size rows) (hz : 0 < size) {ad : Addr} (ha : a = some ad) :
  ∀ j u, rows.flatten[j]? = some u -> w.cell? (ad.add j) = some u := by
 subst ha
 intro j u hu
 obtain ⟨h1, h2, a', cap', hv, -, h3⟩ := h
 cases hv
 have hne : rows ≠ [] := fun e => by subst e; simp at hu
 obtain ⟨b, off, hb, hok, hcell⟩ := h3 hne
 cases hb
 have hj : j < rows.flatten.length := (List.getElem?_eq_some_iff.1 hu).1
 rw [flatten_length h2] at hj
 have hi : j / size < rows.length := (Nat.div_lt_iff_lt_mul hz).2 hj
 have hr := List.getElem?_eq_getElem hi
 have hl := h2 _ (List.getElem_mem hi)
 have hm : j % size < (rows[j / size]).length := by rw [hl]; exact Nat.mod_lt _ hz
 have hu2 := List.getElem?_eq_getElem hm
 have e := flatten_get h2 hr hu2
 have ej : j / size * size + j % size = j := by rw [Nat.mul_comm]; exact Nat.div_add_mod j size
 rw [ej, hu] at e
 cases e
 have := hcell _ _ hr _ _ hu2
 rw [add_eq]
 rw [show off + j / size * size + j % size = off + j by omega] at this
 exact this
theorem run_appendRows {P : Program} {w : World} {t e size bytes base : Nat} (hT : ElemTy P t e size bytes) (ty : TypeId) {v : Value} {rows : List (List Value)} (hown : OwnR w base e size v rows)
  {ok : Nat -> Prop} {x : Value} {news : List (List Value)} (hx : RowAt ok w x size news) (h1 : ∀ r ∈ news, r.all (·.oneCell') = true)
  (hn : rows.length + news.length ≤ 1099511627776) (hb : bytes ≤ 128) (hbase : base ≤ w.heap.size) :
  ∃ v' w', (Builtin.append_ #[t, t] ty #[v, x]).run P w = .ok v' w' /\ OwnR w' base e size v' (rows ++ news) /\ Chg (fun b => v.ownBlock = some b) w w' /\
   (v'.ownBlock = v.ownBlock ∨ ∀ k, v'.ownBlock = some k -> w.heap.size ≤ k) /\ OwnR w' base e size v rows := by
 obtain ⟨hu, ⟨i, z, hi, hz, hsize, hby, hzs⟩, hpos⟩ := hT
 have hx0 := hx
 obtain ⟨hm, hs, a, cap, rfl, hcap, hcell⟩ := hx0
 have hall : ∀ r ∈ rows ++ news, r.length = size := fun r hr => (List.mem_append.1 hr).elim (hown.1 r) (hs r)
 have hbytes : (rows.length + news.length) * bytes ≤ 140737488355328 := by
  have := Nat.mul_le_mul hn hb; omega
 have hml : rows.length + news.length ≤ maxLen := by unfold maxLen; omega
 cases a with
 | none =>
  have hnil : news = [] := by
   cases news with
   | nil => rfl
   | cons r rs => obtain ⟨b, off, hb, -⟩ := hcell (by simp); cases hb
  subst hnil
  have hr := run_append_owned_none (P := P) w base t ty e i size hu hi v rows.length _ hown.2
  obtain rfl := hcap rfl
  exact ⟨_, _, hr, by simpa using hown, Chg.refl _ _, .inl rfl, hown⟩
 | some ad =>
  have hflat := hx.flat hpos rfl
  have hone : ∀ u ∈ news.flatten, u.oneCell' = true := fun u hu => by
   obtain ⟨r, hr, hur⟩ := List.mem_flatten.1 hu
   exact List.all_eq_true.1 (h1 r hr) u hur
  obtain ⟨v', w', hrun, hown', hgr, hiff⟩ := run_append_own (P := P) w base t ty e i z size bytes hu hi hz hsize hby hzs hpos v rows.length _ hown.2 ad news.length cap _ (flatten_length hs) hflat hone hml hbytes hbase
  have hO : OwnR w' base e size v' (rows ++ news) := ⟨hall, by simpa using hown'⟩
  suffices hs : (v'.ownBlock = v.ownBlock ∨ ∀ k, v'.ownBlock = some k -> w.heap.size ≤ k) /\ OwnR w' base e size v rows from ⟨v', w', hrun, hO, (Chg.grown hgr).mono (fun _ _ e => e), hs.1, hs.2⟩
  rcases hown.2.2 with ⟨rfl, hn0⟩ | ⟨g, cap0, cur, rfl, hbg, hg, hnc, hcm, hcs, htake⟩
  ·by_cases hm0 : news.length = 0
   ·have hnr : rows = [] := List.eq_nil_of_length_eq_zero hn0
    subst hnr
    exact ⟨.inl (by rw [hiff.2 ⟨rfl, hm0⟩]), OwnR.nil _ _ _ _⟩
   ·have hnr : rows = [] := List.eq_nil_of_length_eq_zero hn0
    subst hnr
    refine ⟨.inr ?_, OwnR.nil _ _ _ _⟩
    subst hsize
    have hr := run_append_nil (P := P) w t ty e i z hu hi hz ad news.length cap _ (flatten_length hs) hflat (by omega) (by unfold maxLen at hml; omega) (by subst hby; simp at hbytes; omega)
    rw [hrun] at hr
    cases hr
    intro k hk; cases hk; exact Nat.le_refl _
  ·by_cases hroom : rows.length + news.length ≤ cap0
   ·subst hsize
    have hr := run_append_room (P := P) w t ty e i hu hi g rows.length cap0 cur hg ad news.length cap _ (flatten_length hs) hflat hone hroom (by rw [flatten_length hs, hcs, ← Nat.add_mul]; exact Nat.mul_le_mul_right _ hroom)
    rw [hrun] at hr
    cases hr
    refine ⟨.inl rfl, hown.1, hown.2.1, .inr ⟨g, cap0, _, rfl, hbg, setRow_heap w g cur _ e _ hg, hnc, hcm, ?_, ?_⟩⟩
    ·have h2 := flatten_length hs
     have h3 : rows.length * i.size + news.flatten.length ≤ cur.size := by rw [h2, hcs, ← Nat.add_mul]; exact Nat.mul_le_mul_right _ hroom
     simp only [List.size_toArray, List.length_append, List.length_take, List.length_drop, Array.length_toList]
     omega
    ·rw [htake, List.append_assoc]
     have h2 := flatten_length hown.1
     rw [← h2]
     exact List.take_left
   ·subst hsize; subst hby
    have hr := run_append_grow (P := P) w t ty e i z hu hi hz ⟨g, 0, none⟩ rows.length cap0 _ hown.2.1 (hown.2.cells (g := g) rfl) ad news.length cap _ (flatten_length hs) hflat (by omega) (by unfold maxLen at hml; omega) (growslice_fits (by omega) hbytes)
    rw [hrun] at hr
    cases hr
    exact ⟨.inr (by intro k hk; cases hk; exact Nat.le_refl _), hown.chg (S := No) (((Chg.refl _ _).drew).alloc _) (fun _ _ e => e)⟩
theorem wp_appendRows {P : Program} {o : Oper} {a : Act} {w : World} {K : Act -> World -> Prop} {Q : Exit -> Act -> World -> Prop} {t e size bytes base : Nat} (hT : ElemTy P t e size bytes) {s x : Operand}
  (ho : o.op = .call { callee := .builtin .append, args := #[s, x], argTypes := #[t, t] }) {v : Value} {rows : List (List Value)} (hs : a.eval s = v) (hown : OwnR w base e size v rows)
  {ok : Nat -> Prop} {xv : Value} {news : List (List Value)} (hxv : a.eval x = xv) (hx : RowAt ok w xv size news) (h1 : ∀ r ∈ news, r.all (·.oneCell') = true)
  (hn : rows.length + news.length ≤ 1099511627776) (hb : bytes ≤ 128) (hbase : base ≤ w.heap.size)
  (h : ∀ v' w', OwnR w' base e size v' (rows ++ news) -> Chg (fun b => v.ownBlock = some b) w w' -> (v'.ownBlock = v.ownBlock ∨ ∀ k, v'.ownBlock = some k -> w.heap.size ≤ k) -> OwnR w' base e size v rows -> K (a.put o.dst v') w') : o.wp P a w K Q := by
 obtain ⟨v', w', hr, h2, h3, h4, h5⟩ := run_appendRows (P := P) hT o.type hown hx h1 hn hb hbase
 unfold Oper.wp execOp
 simp only [ho, resolve, invoke, builtin, Sem.run_bind, Sem.run_pure, Result.andThen_ok, List.map_toArray, List.map_cons, List.map_nil, hs, hxv, hr]
 exact h v' w' h2 h3 h4 h5
theorem wpList_appendRows {P : Program} {ops : Array Oper} {rest : List Oper} {o : Oper} {a : Act} {w : World} {Q : Exit -> Act -> World -> Prop} (hgd : o.guard = none) {t e size bytes base : Nat} (hT : ElemTy P t e size bytes) {s x : Operand}
  (ho : o.op = .call { callee := .builtin .append, args := #[s, x], argTypes := #[t, t] }) {v : Value} {rows : List (List Value)} (hs : a.eval s = v) (hown : OwnR w base e size v rows)
  {ok : Nat -> Prop} {xv : Value} {news : List (List Value)} (hxv : a.eval x = xv) (hx : RowAt ok w xv size news) (h1 : ∀ r ∈ news, r.all (·.oneCell') = true)
  (hn : rows.length + news.length ≤ 1099511627776) (hb : bytes ≤ 128) (hbase : base ≤ w.heap.size)
  (h : ∀ v' w', OwnR w' base e size v' (rows ++ news) -> Chg (fun b => v.ownBlock = some b) w w' -> (v'.ownBlock = v.ownBlock ∨ ∀ k, v'.ownBlock = some k -> w.heap.size ≤ k) -> OwnR w' base e size v rows -> wpList P ops Q rest (a.put o.dst v') w') :
  wpList P ops Q (o :: rest) a w :=
 wpList_plain hgd fun _ hK => wp_appendRows hT ho hs hown hxv hx h1 hn hb hbase fun v' w' a b c d => hK _ _ (h v' w' a b c d)
theorem RowAt.one1 (w : World) (cs : List Value) (ty size : Nat) (h : cs.length = size) : RowAt (fun b => b = w.heap.size) (w.alloc (.cells cs.toArray ty)) (.slice (some ⟨w.heap.size, 0, none⟩) 1 1) size [cs] := by
 refine ⟨by simp [maxLen], by simpa using h, _, _, rfl, (by intro e; cases e), fun _ => ⟨_, _, rfl, rfl, fun i r hr j u hu => ?_⟩⟩
 cases i with
 | zero =>
  simp at hr; subst hr
  have := (Blk.new w cs ty).cell j
  rw [Nat.zero_mul, Nat.add_zero, Nat.zero_add, this, hu]
 | succ i => simp at hr
theorem elem23 : ElemTy Tryz.prog 23 9 1 16 := by
 refine ⟨Tryz.underlying23, ?_, by decide⟩
 have h : (Tryz.prog.info? 9).map (fun i => (i.zero, i.size, i.bytes)) = some (some (.string ByteArray.empty), 1, 16) := by kernel_rfl
 obtain ⟨i, h1, h2, h3, h4⟩ := info_parts h
 exact ⟨i, _, h1, h2, h3, h4, rfl⟩
theorem elem24 : ElemTy Tryz.prog 24 26 7 96 := by
 refine ⟨Tryz.underlying24, ?_, by decide⟩
 have h : (Tryz.prog.info? 26).map (fun i => (i.zero, i.size, i.bytes)) = some (some (.agg zero7.toArray), 7, 96) := by kernel_rfl
 obtain ⟨i, h1, h2, h3, h4⟩ := info_parts h
 exact ⟨i, _, h1, h2, h3, h4, rfl⟩
@[go_sem] theorem run_store_float {P : Program} {w : World} {a : Addr} {m : Mode} (k : FloatKind) (n : Nat) : (store a (.float k n) m).run P w = stored P w a (.float k n) m := run_store P w a _ m rfl
theorem build26_0 (w : World) : (Instr.build 26 #[]).run Tryz.prog w = .ok (.agg zero7.toArray) w := by kernel_rfl
theorem build26_k (k : Int) (w : World) : (Instr.build 26 #[(0, .int .i64 k)]).run Tryz.prog w = .ok (.agg (cells7 k false 0 0 ByteArray.empty (.slice none 0 0) (.slice none 0 0)).toArray) w := by kernel_rfl
end Go.Proofs.YtljaoopfomcaoaaGreatDoor
namespace Go.Proofs.YtljaoopfomcaoaaGreatDoor
def kOk (k : K) : Prop := k.size ≤ 140737488355328
def Wf (n : Nat) : Nat -> J -> Prop
 | 0, _ => False
 | d + 1, j => match j with
  | .float f => FinBits f
  | .list xs => xs.length ≤ n /\ ∀ x ∈ xs, Wf n d x
  | .table kvs => Sorted kvs /\ kvs.length ≤ n /\ ∀ p ∈ kvs, kOk p.1 /\ Wf n d p.2
  | _ => True
theorem Wf.mono {n m d e : Nat} {j : J} (h : Wf n d j) (hn : n ≤ m) (hd : d ≤ e) : Wf m e j := by
 induction d generalizing e j with
 | zero => exact h.elim
 | succ d ih =>
  obtain ⟨e, rfl⟩ : ∃ e', e = e' + 1 := ⟨e - 1, by omega⟩
  cases j with
  | float f => exact h
  | list xs => exact ⟨by have := h.1; omega, fun x hx => ih (h.2 x hx) (by omega)⟩
  | table kvs => exact ⟨h.1, by have := h.2.1; omega, fun p hp => ⟨(h.2.2 p hp).1, ih (h.2.2 p hp).2 (by omega)⟩⟩
  | null | bool | int | text => trivial
theorem Wf.get {n d : Nat} {kvs : T} {k : K} {v : J} (h : Wf n (d + 1) (.table kvs)) (hg : get kvs k = some v) : kOk k /\ Wf n d v := h.2.2 _ (get_mem hg)
theorem mem_get {t : T} (h : Sorted t) {p : K × J} (hm : p ∈ t) : Go.Proofs.YtljaoopfomcaoaaGreatDoor.get t p.1 = some p.2 := get_of_mem h hm
theorem mk_length (ks : List K) (f : K -> Option J) : (mk ks f).length ≤ ks.length := by
 induction ks with
 | nil => simp [mk]
 | cons k r ih =>
  simp only [mk, List.foldr_cons] at *
  cases f k with
  | none => simp only [List.length_cons]; omega
  | some v =>
   exact Nat.le_trans (ins_length _ _ _) (Nat.succ_le_succ ih)
theorem keys_length (t : T) : (keys t).length = t.length := by simp [keys]
theorem merged_length (a b : T) : (merged a b).length ≤ a.length + b.length := by
 rw [merged]
 refine Nat.le_trans (mk_length _ _) ?_
 simp [keys_length]
theorem Wf.merged {n m d : Nat} : ∀ {a b : T}, Wf n d (.table a) -> Wf m d (.table b) -> Wf (n + m) d (.table (merged a b)) := by
 induction d with
 | zero => intro a b h; exact h.elim
 | succ d ih =>
  intro a b ha hb
  refine ⟨sorted_merged a b, ?_, fun p hp => ?_⟩
  ·have := merged_length a b; have := ha.2.1; have := hb.2.1; omega
  ·have hg := mem_get (sorted_merged a b) hp
   rw [get_merged] at hg
   split at hg
   ·obtain ⟨h1, h2⟩ := ha.get hg
    exact ⟨h1, h2.mono (by omega) (Nat.le_refl _)⟩
   ·rename_i y hy
    obtain ⟨h1, h2⟩ := hb.get hy
    split at hg
    ·rename_i x hx
     rw [← Option.some.inj hg]
     exact ⟨h1, ih (ha.get hx).2 h2⟩
    ·rw [← Option.some.inj hg]; exact ⟨h1, h2.mono (by omega) (Nat.le_refl _)⟩
   ·rename_i v _ hy
    rw [← Option.some.inj hg]
    obtain ⟨h1, h2⟩ := hb.get hy
    exact ⟨h1, h2.mono (by omega) (Nat.le_refl _)⟩
def isT : J -> Bool
 | .table _ => true
 | _ => false
def mergedAt (a : T) (k : K) (v : J) : J :=
 match v with
 | .table y => match get a k with
  | some (.table x) => .table (merged x y)
  | _ => .table y
 | v => v
theorem sorted_take {t : T} (h : Sorted t) (n : Nat) : Sorted (t.take n) := List.Pairwise.sublist (List.take_sublist _ _) h
theorem get_snoc {t : T} {p : K × J} (h : Sorted (t ++ [p])) (k : K) : get (t ++ [p]) k = if p.1 = k then some p.2 else get t k := by
 induction t with
 | nil => obtain ⟨a, b⟩ := p; simp [get]
 | cons a r ih =>
  obtain ⟨k', v'⟩ := a
  have hc := List.pairwise_cons.1 h
  simp only [List.cons_append, get]
  by_cases e : k' = k
  ·rw [if_pos e, if_pos e, if_neg (fun e2 => klt_ne (hc.1 p (by simp)) (e.trans e2.symm))]
  ·rw [if_neg e, if_neg e, ih hc.2]
theorem get_mergedAt (a b : T) (k : K) : get (merged a b) k = match get b k with | none => get a k | some v => some (mergedAt a k v) := by
 rw [get_merged]
 cases hb : get b k with
 | none => rfl
 | some v => cases v <;> simp only [mergedAt] <;> (cases get a k with | none => rfl | some x => cases x <;> rfl)
def coal (m : Bool) (a b : T) : T := mk (keys a ++ keys b) fun k =>
 match _h : get a k with
 | none => get b k
 | some (.table x) => match get b k with
  | some (.table y) => some (.table (coal m x y))
  | _ => some (.table x)
 | some .null => match get b k with
  | none => some .null
  | some .null => some .null
  | some _ => if m then some .null else none
 | some v => some v
termination_by SizeOf.sizeOf a
decreasing_by exact sizeOf_get_table _h
def coalAt (m : Bool) (x y : Option J) : Option J :=
 match x with
 | none => y
 | some (.table x) => match y with
  | some (.table y) => some (.table (coal m x y))
  | _ => some (.table x)
 | some .null => match y with
  | none => some .null
  | some .null => some .null
  | some _ => if m then some .null else none
 | some v => some v
theorem get_coal (m : Bool) (a b : T) (k : K) : get (coal m a b) k = coalAt m (get a k) (get b k) := by
 rw [coal, get_mk]
 by_cases hk : k ∈ keys a ++ keys b
 ·rw [if_pos hk]
  unfold coalAt
  split <;> simp_all
 ·rw [if_neg hk]
  have h1 : get a k = none := get_none.2 (fun h => hk (List.mem_append_left _ h))
  have h2 : get b k = none := get_none.2 (fun h => hk (List.mem_append_right _ h))
  rw [h1, h2]; rfl
theorem sorted_coal (m : Bool) (a b : T) : Sorted (coal m a b) := by rw [coal]; exact sorted_mk _ _
def overAt (m : Bool) (dep : Bool) (x y : Option J) : Option J :=
 match x with
 | none => y
 | some .null => if m then some .null else match y with | none => some .null | some _ => none
 | some (.table x) => match y with
  | some (.table y) => some (.table (coal (m || dep) x y))
  | _ => some (.table x)
 | some v => some v
def over (m : Bool) (dep : K -> Bool) (v c : T) : T := mk (keys v ++ keys c) fun k => overAt m (dep k) (get v k) (get c k)
theorem get_over (m : Bool) (dep : K -> Bool) (v c : T) (k : K) : get (over m dep v c) k = overAt m (dep k) (get v k) (get c k) := by
 rw [over, get_mk]
 by_cases hk : k ∈ keys v ++ keys c
 ·rw [if_pos hk]
 ·rw [if_neg hk]
  have h1 : get v k = none := get_none.2 (fun h => hk (List.mem_append_left _ h))
  have h2 : get c k = none := get_none.2 (fun h => hk (List.mem_append_right _ h))
  rw [h1, h2]; rfl
theorem sorted_over (m : Bool) (dep : K -> Bool) (v c : T) : Sorted (over m dep v c) := sorted_mk _ _
def gK : K := "global".toUTF8
def globAt (x y : Option J) : Option J :=
 match y with
 | none => x
 | some (.table v) => match x with
  | none => some (.table v)
  | some (.table x) => some (.table (coal true v x))
  | some z => some z
 | some v => match x with
  | some (.table x) => some (.table x)
  | _ => some v
def globT (mine theirs : T) : T := mk (keys mine ++ keys theirs) fun k => globAt (get mine k) (get theirs k)
theorem get_globT (a b : T) (k : K) : get (globT a b) k = globAt (get a k) (get b k) := by
 rw [globT, get_mk]
 by_cases hk : k ∈ keys a ++ keys b
 ·rw [if_pos hk]
 ·rw [if_neg hk]
  have h1 : get a k = none := get_none.2 (fun h => hk (List.mem_append_left _ h))
  have h2 : get b k = none := get_none.2 (fun h => hk (List.mem_append_right _ h))
  rw [h1, h2]; rfl
theorem sorted_globT (a b : T) : Sorted (globT a b) := sorted_mk _ _
def tabAt (t : T) (k : K) : Option T :=
 match get t k with
 | none => some []
 | some (.table x) => some x
 | some _ => none
def globals (dst src : T) : T :=
 match tabAt dst gK, tabAt src gK with
 | some a, some b => ins dst gK (.table (globT a b))
 | _, _ => dst
structure Imp where
 plain : K
 child : K
 parent : K
 isMap : Bool
structure Want where
 name : K
 version : K
 condition : K
 alias_ : K
 tags : List K
 enabled : Bool
 imports : List Imp
inductive Ch where
 | mk (name version : K) (vals : J) (deps : List Ch) (wants : List Want)
namespace Ch
def name : Ch -> K | .mk n _ _ _ _ => n
def version : Ch -> K | .mk _ v _ _ _ => v
def vals : Ch -> J | .mk _ _ v _ _ => v
def deps : Ch -> List Ch | .mk _ _ _ d _ => d
def wants : Ch -> List Want | .mk _ _ _ _ w => w
end Ch
def tabOf : J -> T
 | .table t => t
 | _ => []
def hasDep (ds : List Ch) (k : K) : Bool := ds.any fun d => decide (d.name = k)
mutual
def allV (m : Bool) : Ch -> T -> Option T
 | .mk _ _ vals deps _, v => allD m deps (over m (hasDep deps) v (tabOf vals))
def allD (m : Bool) : List Ch -> T -> Option T
 | [], out => some out
 | d :: r, out => match tabAt out d.name with
  | none => none
  | some x => match allV m d (globals x out) with
   | none => none
   | some y => allD m r (ins out d.name (.table y))
end
def WU (U : List K) (n : Nat) : Nat -> J -> Prop
 | 0, _ => False
 | d + 1, j => match j with
  | .float f => FinBits f
  | .list xs => xs.length ≤ n /\ ∀ x ∈ xs, WU U n d x
  | .table kvs => Sorted kvs /\ ∀ p ∈ kvs, p.1 ∈ U /\ WU U n d p.2
  | _ => True
theorem nodup_le {α : Type} [DecidableEq α] : ∀ {l m : List α}, l.Nodup -> (∀ x ∈ l, x ∈ m) -> l.length ≤ m.length
 | [], _, _, _ => Nat.zero_le _
 | a :: r, m, hn, hs => by
  obtain ⟨h1, h2⟩ := List.nodup_cons.1 hn
  have ha := hs a (by simp)
  have h3 : r.length ≤ (m.erase a).length := nodup_le h2 (fun x hx => (List.mem_erase_of_ne (fun e => h1 (by rw [← e]; exact hx))).2 (hs x (by simp [hx])))
  rw [List.length_erase_of_mem ha] at h3
  have := List.length_pos_of_mem ha
  simp only [List.length_cons]
  omega
theorem sorted_len {U : List K} {kvs : T} (hs : Sorted kvs) (hk : ∀ p ∈ kvs, p.1 ∈ U) : kvs.length ≤ U.length := by
 rw [← keys_length]
 refine nodup_le ?_ (fun x hx => ?_)
 ·exact List.pairwise_map.2 (hs.imp (fun h => klt_ne h))
 ·obtain ⟨p, hp, rfl⟩ := List.mem_map.1 hx
  exact hk p hp
theorem WU.wf {U : List K} {n : Nat} (hU : ∀ k ∈ U, kOk k) (hn : U.length ≤ n) {d : Nat} : ∀ {j : J}, WU U n d j -> Wf n d j := by
 induction d with
 | zero => intro j h; exact h.elim
 | succ d ih =>
  intro j h
  cases j with
  | float f => exact h
  | list xs => exact ⟨h.1, fun x hx => ih (h.2 x hx)⟩
  | table kvs =>
   refine ⟨h.1, ?_, fun p hp => ⟨hU _ (h.2 p hp).1, ih (h.2 p hp).2⟩⟩
   have := sorted_len h.1 (fun p hp => (h.2 p hp).1)
   omega
  | null | bool | int | text => trivial
theorem WU.mono {U V : List K} {n m d e : Nat} {j : J} (h : WU U n d j) (hU : ∀ k ∈ U, k ∈ V) (hn : n ≤ m) (hd : d ≤ e) : WU V m e j := by
 induction d generalizing e j with
 | zero => exact h.elim
 | succ d ih =>
  obtain ⟨e, rfl⟩ : ∃ e', e = e' + 1 := ⟨e - 1, by omega⟩
  cases j with
  | float f => exact h
  | list xs => exact ⟨by have := h.1; omega, fun x hx => ih (h.2 x hx) (by omega)⟩
  | table kvs => exact ⟨h.1, fun p hp => ⟨hU _ (h.2 p hp).1, ih (h.2 p hp).2 (by omega)⟩⟩
  | null | bool | int | text => trivial
def allKeys : Nat -> J -> List K
 | 0, _ => []
 | d + 1, .list xs => xs.flatMap (allKeys d)
 | d + 1, .table kvs => kvs.flatMap fun p => p.1 :: allKeys d p.2
 | _ + 1, _ => []
theorem Wf.wu {U : List K} {n : Nat} {d : Nat} : ∀ {j : J}, Wf n d j -> (∀ k ∈ allKeys d j, k ∈ U) -> WU U n d j := by
 induction d with
 | zero => intro j h; exact h.elim
 | succ d ih =>
  intro j h hk
  cases j with
  | float f => exact h
  | list xs => exact ⟨h.1, fun x hx => ih (h.2 x hx) (fun k hkx => hk k (List.mem_flatMap.2 ⟨x, hx, hkx⟩))⟩
  | table kvs =>
   refine ⟨h.1, fun p hp => ⟨hk _ (List.mem_flatMap.2 ⟨p, hp, by simp⟩), ih (h.2.2 p hp).2 (fun k hkx => hk k (List.mem_flatMap.2 ⟨p, hp, by simp [hkx]⟩))⟩⟩
  | null | bool | int | text => trivial
theorem WU.get {U : List K} {n d : Nat} {t : T} {k : K} {v : J} (h : WU U n (d + 1) (.table t)) (hg : get t k = some v) : k ∈ U /\ WU U n d v := h.2 _ (get_mem hg)
theorem WU.of_get {U : List K} {n d : Nat} {t : T} (hs : Sorted t) (h : ∀ k v, Go.Proofs.YtljaoopfomcaoaaGreatDoor.get t k = some v -> k ∈ U /\ WU U n d v) : WU U n (d + 1) (.table t) :=
 ⟨hs, fun p hp => h p.1 p.2 (get_of_mem hs hp)⟩
theorem WU.coal {U : List K} {n d : Nat} (m : Bool) : ∀ {a b : T}, WU U n d (.table a) -> WU U n d (.table b) -> WU U n d (.table (coal m a b)) := by
 induction d with
 | zero => intro a b h; exact h.elim
 | succ d ih =>
  intro a b ha hb
  refine WU.of_get (sorted_coal _ _ _) fun k v hv => ?_
  rw [get_coal] at hv
  cases hga : Go.Proofs.YtljaoopfomcaoaaGreatDoor.get a k with
  | none => rw [hga] at hv; exact hb.get hv
  | some x =>
   obtain ⟨h1, h2⟩ := ha.get hga
   rw [hga] at hv
   refine ⟨h1, ?_⟩
   cases hgb : Go.Proofs.YtljaoopfomcaoaaGreatDoor.get b k with
   | none => rw [hgb] at hv; cases x <;> (cases hv; exact h2)
   | some y =>
    obtain ⟨h3, h4⟩ := hb.get hgb
    rw [hgb] at hv
    cases x with
    | table x =>
     cases y with
     | table y => cases hv; exact ih h2 h4
     | _ => cases hv; exact h2
    | null =>
     cases y <;> simp only [coalAt] at hv <;> first | (cases hv; exact h2) | (split at hv <;> cases hv; exact h2)
    | _ => cases hv; exact h2
theorem WU.over {U : List K} {n d : Nat} (m : Bool) (dep : K -> Bool) {a b : T} (ha : WU U n d (.table a)) (hb : WU U n d (.table b)) : WU U n d (.table (over m dep a b)) := by
 cases d with
 | zero => exact ha.elim
 | succ d =>
  refine WU.of_get (sorted_over _ _ _ _) fun k v hv => ?_
  rw [get_over] at hv
  cases hga : Go.Proofs.YtljaoopfomcaoaaGreatDoor.get a k with
  | none => rw [hga] at hv; exact hb.get hv
  | some x =>
   obtain ⟨h1, h2⟩ := ha.get hga
   rw [hga] at hv
   refine ⟨h1, ?_⟩
   cases x with
   | table x =>
    cases hgb : Go.Proofs.YtljaoopfomcaoaaGreatDoor.get b k with
    | none => rw [hgb] at hv; cases hv; exact h2
    | some y =>
     rw [hgb] at hv
     cases y with
     | table y => cases hv; exact WU.coal _ h2 (hb.get hgb).2
     | _ => cases hv; exact h2
   | null =>
    simp only [overAt] at hv
    split at hv
    ·cases hv; exact h2
    ·split at hv <;> cases hv; exact h2
   | _ => cases hv; exact h2
theorem WU.globT {U : List K} {n d : Nat} {a b : T} (ha : WU U n d (.table a)) (hb : WU U n d (.table b)) : WU U n d (.table (globT a b)) := by
 cases d with
 | zero => exact ha.elim
 | succ d =>
  refine WU.of_get (sorted_globT _ _) fun k v hv => ?_
  rw [get_globT] at hv
  cases hgb : Go.Proofs.YtljaoopfomcaoaaGreatDoor.get b k with
  | none => rw [hgb] at hv; exact ha.get hv
  | some y =>
   obtain ⟨h1, h2⟩ := hb.get hgb
   rw [hgb] at hv
   refine ⟨h1, ?_⟩
   cases hga : Go.Proofs.YtljaoopfomcaoaaGreatDoor.get a k with
   | none => rw [hga] at hv; cases y <;> (cases hv; exact h2)
   | some x =>
    obtain ⟨-, h4⟩ := ha.get hga
    rw [hga] at hv
    cases y <;> cases x <;> cases hv <;> first | exact h2 | exact h4 | exact WU.coal _ h2 h4
theorem WU.ins {U : List K} {n d : Nat} {t : T} {k : K} {v : J} (ht : WU U n (d + 1) (.table t)) (hk : k ∈ U) (hv : WU U n d v) : WU U n (d + 1) (.table (ins t k v)) := by
 refine WU.of_get (sorted_ins _ _ ht.1) fun x y hx => ?_
 rw [get_ins] at hx
 split at hx
 ·rename_i e; subst e; cases hx; exact ⟨hk, hv⟩
 ·exact ht.get hx
theorem WU.nil {U : List K} {n d : Nat} : WU U n (d + 1) (.table []) := ⟨List.Pairwise.nil, fun p hp => by cases hp⟩
theorem WU.tabAt {U : List K} {n d : Nat} {t x : T} {k : K} (h : WU U n (d + 2) (.table t)) (hx : tabAt t k = some x) : WU U n (d + 1) (.table x) := by
 unfold Go.Proofs.YtljaoopfomcaoaaGreatDoor.tabAt at hx
 split at hx
 ·cases hx; exact WU.nil
 ·rename_i y hy; cases hx; exact (h.get hy).2
 ·cases hx
theorem WU.globals {U : List K} {n d : Nat} (hg : gK ∈ U) {a b : T} (ha : WU U n (d + 2) (.table a)) (hb : WU U n (d + 2) (.table b)) : WU U n (d + 2) (.table (globals a b)) := by
 unfold Go.Proofs.YtljaoopfomcaoaaGreatDoor.globals
 split
 ·rename_i x y hx hy
  exact ha.ins hg (WU.globT (ha.tabAt hx) (hb.tabAt hy))
 ·exact ha
end Go.Proofs.YtljaoopfomcaoaaGreatDoor
namespace Go.Proofs.YtljaoopfomcaoaaGreatDoor
open Go.RowKit
theorem isTable_any (k i : Int) (b : Bool) (f : Nat) (t : ByteArray) (ks ls : Value) (w : World) :
  Calls Tryz.prog 21 #[.agg (cells7 k b i f t ks ls).toArray] w fun e w' => e = .returned (.bool (k == 7)) /\ Chg No w w' := by
 unfold cells7
 go_enter Tryz.func21, Tryz.ntmps21
 go_wp2
 go_ret
 exact ⟨rfl, (Chg.refl _ _).alloc _⟩
def AtPost (ok : Nat -> Prop) (j : J) (key : K) (w : World) (e : Ending) (w' : World) : Prop :=
 Chg No w w' /\ match atJ j key with
  | some x => ∃ cs, e = .returned (.tuple #[.agg cs.toArray, .bool true]) /\ ValJ ok w' cs x
  | none => e = .returned (.tuple #[.agg zero7.toArray, .bool false])
theorem at_table (ok : Nat -> Prop) (kvs : T) (key : K) (b : Bool) (i : Int) (f : Nat) (t : K) (kv lv : Value) (w : World) (h : ValJ ok w (cells7 7 b i f t kv lv) (.table kvs)) :
  Calls Tryz.prog 50 #[.agg (cells7 7 b i f t kv lv).toArray, .string key] w (AtPost ok (.table kvs) key w) := by
 cases h with
 | @table _ _ _ _ _ _ rows _ hk hl hn hr =>
 have HK := Hd hk
 have HL := Hd hl
 have hk1 := hk.1
 obtain ⟨-, -, ka, kc, rfl, -, -⟩ := hk
 obtain ⟨-, -, la, lc, rfl, -, -⟩ := hl
 simp only [List.length_map] at hk1 HK ⊢
 unfold maxLen at hk1
 have HR := Hd hr
 have HN := Hd hn
 clear hr hn
 go_enter Tryz.func50, Tryz.ntmps50
 unfold cells7
 go_wp2_with fail
 go_loopw [11] (fun c wr => ∃ n : Nat, n ≤ kvs.length /\ c = .int .i64 n /\ (∀ p ∈ kvs.take n, p.1 ≠ key) /\ Chg No w wr /\
   Blk wr w.heap.size (cells7 7 b i f t (Value.slice ka (List.length kvs) kc) (Value.slice la rows.length lc)) 26 /\ Blk wr (w.heap.size + 1) zero7 26) (fun c _ => kvs.length - (intOf c).toNat)
 case atStart => exact ⟨0, Nat.zero_le _, rfl, by simp, ((Chg.refl _ _).alloc _).alloc _, (Blk.new _ _ _).alloc _, Blk.newAt (by simp) _ _⟩
 case round =>
  obtain ⟨n, hn, rfl, hnot, hc, hbx, hrs⟩ := hrel
  have HC := Hd hc
  have HNOT := Hd hnot
  clear hnot hc
  by_cases hlt : n < kvs.length
  ·obtain ⟨p, hp⟩ : ∃ p, kvs[n]? = some p := ⟨_, List.getElem?_eq_getElem hlt⟩
   obtain ⟨kb, ko, rfl, hok, hkc⟩ := HK.out.at (i := n) (r := [.string p.1]) (by simp [hp])
   have hkc := (hkc.chg HC.out id).one
   simp only [Nat.mul_one] at hkc
   have HP := Hd hp
   clear hp
   go_wp2_with (first | (refine wpList_loadAgg rfl agg26 rfl rfl hbx.cells rfl ?_))
   refine (isTable_any _ _ _ _ _ _ _ _).mono ?_
   rintro e w1 ⟨rfl, hc1⟩
   have hbx1 := hbx.chg hc1 id
   have hrs1 := hrs.chg hc1 id
   have HC1 := Hd (HC.out.trans' hc1)
   clear hc1 hbx hrs
   have h6 : w1.cell? ⟨w.heap.size, 6, none⟩ = some (.slice la rows.length lc) := hbx1.cell 6
   have hlt2 : n < rows.length := by rw [HN.out]; exact hlt
   obtain ⟨r, hr⟩ : ∃ r, rows[n]? = some r := ⟨_, List.getElem?_eq_getElem hlt2⟩
   obtain ⟨lb, lo, rfl, hlok, hlc⟩ := HL.out.at (i := n) (r := r) hr
   have HLC := hlc.chg HC1.out id
   have HV := Hd (HR.out n r p hr HP.out)
   have hrl : r.length = 7 := HV.out.length
   have h1 := HV.out.one
   clear hr hlc
   by_cases hpk : p.1 = key
   ·have hpk2 : (p.1.toList == key.toList) = true := by rw [toList_beq]; simpa using hpk
    have HPK := Hd hpk
    clear hpk
    go_wp2_with (first | (refine wpList_loadAgg rfl agg26 rfl rfl HLC hrl ?_) | (refine wpList_storeBlk rfl agg26 rfl rfl rfl hrs1 rfl hrl h1 ?_; intro w2 hb2 hc2 hs2))
    have hc3 : Chg No w w2 := HC1.out.trans hc2 (by intro i hi e; omega)
    refine bodyPost_ret (results_blk_tmp rfl agg26 rfl hb2 hrl) rfl ⟨hc3, ?_⟩
    rw [show atJ (.table kvs) key = some p.2 from get_first HP.out HPK.out HNOT.out]
    exact ⟨r, rfl, HV.out.chg hc3 (fun _ _ e => e)⟩
   ·have hpk2 : (p.1.toList == key.toList) = false := by rw [toList_beq]; simpa using hpk
    have HPK := Hd hpk
    clear hpk
    go_wp2_with fail
    go_roundw
    case rel => exact ⟨n + 1, by omega, by go_num, take_not HP.out HPK.out HNOT.out, HC1.out, hbx1, hrs1⟩
    case measure => simp [intOf]; omega
  ·go_wp2_with (first | (refine wpList_storeBlk rfl agg26 rfl rfl rfl hrs rfl rfl rfl ?_; intro w2 hb2 hc2 hs2))
   have hc3 : Chg No w w2 := HC.out.trans hc2 (by intro i hi e; omega)
   refine bodyPost_ret (results_blk_tmp rfl agg26 rfl hb2 rfl) rfl ⟨hc3, ?_⟩
   have HN2 := HNOT.out
   rw [List.take_of_length_le (by omega)] at HN2
   rw [show atJ (.table kvs) key = none from get_none_of HN2]
   rfl
def dn (done : Nat -> Bool) (i : Nat) : Nat -> Bool := fun j => done j || j == i
def waitsOn (k : Nat) (o : Oper) : Bool := o.after.toList.any fun e => Region.binds .any e && e.on == k
theorem dn_ne {done : Nat -> Bool} {i j : Nat} (h : (j == i) = false) : dn done i j = done j := by simp [dn, h]
theorem dn_self (done : Nat -> Bool) (i : Nat) : dn done i i = true := by simp [dn]
theorem waitsOn_spec {k : Nat} {o : Oper} (h : waitsOn k o = true) : ∃ e ∈ o.after, Region.binds .any e = true /\ e.on = k := by
 obtain ⟨e, he, hb⟩ := List.any_eq_true.1 h
 simp only [Bool.and_eq_true, beq_iff_eq] at hb
 exact ⟨e, by simpa using he, hb.1, hb.2⟩
def StepOk (P : Program) (ops : Array Oper) (Q : Exit -> Act -> World -> Prop) (a0 : Act) (I : Nat -> Value -> World -> Prop) (G : (Nat -> Bool) -> World -> Prop) (i : Nat) (o : Oper) : Prop :=
 ∀ (done : Nat -> Bool) (a : Act) (w : World) (K : Act -> World -> Prop),
  done i = false -> (∀ j k, ((ops[j]?).map (waitsOn k)).getD false = true -> done j = true -> done k = true) ->
  (∀ j d, (ops[j]?).bind (·.dst) = some d -> done j = true -> I j (a.tmps[d]?.getD undef) w) ->
  (∀ t : Nat, (ops.toList.all fun o => o.dst != some t) = true -> a.tmps[t]?.getD undef = a0.tmps[t]?.getD undef) ->
  (∀ k, waitsOn k o = true -> done k = true) -> G done w ->
  (∀ v w', I i v w' -> G (dn done i) w' -> (∀ j, j ≠ i -> done j = true -> ∀ u, I j u w -> I j u w') -> K (a.put o.dst v) w') ->
  (if Region.wanted o (yielded ops a.tmps) then o.wp P a w K Q else K (a.put o.dst undef) w)
def StepsOk (P : Program) (ops : Array Oper) (Q : Exit -> Act -> World -> Prop) (a0 : Act) (I : Nat -> Value -> World -> Prop) (G : (Nat -> Bool) -> World -> Prop) : Nat -> List Oper -> Prop
 | _, [] => True
 | n, o :: rest => StepOk P ops Q a0 I G n o /\ StepsOk P ops Q a0 I G (n + 1) rest
theorem StepsOk.get {P : Program} {ops : Array Oper} {Q : Exit -> Act -> World -> Prop} {a0 : Act} {I : Nat -> Value -> World -> Prop} {G : (Nat -> Bool) -> World -> Prop} : ∀ {l : List Oper} {n : Nat}, StepsOk P ops Q a0 I G n l -> ∀ {i : Nat} {o : Oper}, l[i]? = some o -> StepOk P ops Q a0 I G (n + i) o
 | [], _, _, i, o, h => by simp at h
 | a :: r, n, hs, 0, o, h => by simp at h; subst h; exact hs.1
 | a :: r, n, hs, i + 1, o, h => by
  have := StepsOk.get hs.2 (i := i) (o := o) (by simpa using h)
  rwa [show n + 1 + i = n + (i + 1) by omega] at this
def tidy (ops : List Oper) (size : Nat) : Bool :=
 (ops.filterMap (·.dst)).Nodup && (ops.all fun o => match o.dst with | some d => decide (d < size) | none => true) &&
 (List.range ops.length).all fun i => ((ops[i]?).map fun o => o.after.all fun e => !Region.binds .any e || decide (e.on < i)).getD true
def putAll (vs : Nat -> Value) : Nat -> List Oper -> Act -> Act
 | _, [], a => a
 | n, o :: rest, a => putAll vs (n + 1) rest (a.put o.dst (vs n))
theorem put_size (a : Act) (d : Option Tmp) (v : Value) : (a.put d v).tmps.size = a.tmps.size := by cases d <;> simp [Act.put]
theorem put_defers' (a : Act) (d : Option Tmp) (v : Value) : (a.put d v).defers = a.defers := by cases d <;> rfl
theorem putAll_size (vs : Nat -> Value) : ∀ (l : List Oper) (n : Nat) (a : Act), (putAll vs n l a).tmps.size = a.tmps.size
 | [], _, _ => rfl
 | o :: r, n, a => by rw [putAll, putAll_size vs r, put_size]
theorem putAll_defers (vs : Nat -> Value) : ∀ (l : List Oper) (n : Nat) (a : Act), (putAll vs n l a).defers = a.defers
 | [], _, _ => rfl
 | o :: r, n, a => by rw [putAll, putAll_defers vs r, put_defers']
theorem putAll_other (vs : Nat -> Value) (t : Nat) : ∀ (l : List Oper) (n : Nat) (a : Act), (∀ o ∈ l, o.dst ≠ some t) -> (putAll vs n l a).tmps[t]? = a.tmps[t]?
 | [], _, _, _ => rfl
 | o :: r, n, a, h => by
  rw [putAll, putAll_other vs t r _ _ (fun o ho => h o (by simp [ho]))]
  have h1 := h o (by simp)
  cases hd : o.dst with
  | none => rfl
  | some d =>
   have : d ≠ t := fun e => h1 (by rw [hd, e])
   simp [Act.put, Array.getElem?_setIfInBounds_ne this]
theorem putAll_at (vs : Nat -> Value) : ∀ (l : List Oper) (n : Nat) (a : Act) (i : Nat) (o : Oper) (d : Nat), (l.filterMap (·.dst)).Nodup -> l[i]? = some o -> o.dst = some d -> d < a.tmps.size ->
  (putAll vs n l a).tmps[d]? = some (vs (n + i))
 | [], _, _, i, o, d, _, h, _, _ => by simp at h
 | x :: r, n, a, 0, o, d, hn, h, hd, hlt => by
  simp at h; subst h
  simp only [List.filterMap_cons, hd, List.nodup_cons] at hn
  rw [putAll, putAll_other vs d r _ _ (fun o ho e => hn.1 (List.mem_filterMap.2 ⟨o, ho, e⟩)), hd]
  simp [Act.put, hlt]
 | x :: r, n, a, i + 1, o, d, hn, h, hd, hlt => by
  have hn' : (r.filterMap (·.dst)).Nodup := by
   simp only [List.filterMap_cons] at hn
   split at hn
   ·exact hn
   ·exact (List.nodup_cons.1 hn).2
  rw [putAll, putAll_at vs r (n + 1) _ i o d hn' (by simpa using h) hd (by rw [put_size]; exact hlt), show n + 1 + i = n + (i + 1) by omega]
theorem dst_inj : ∀ {l : List Oper} {i j : Nat} {o p : Oper} {d : Nat}, (l.filterMap (·.dst)).Nodup -> l[i]? = some o -> l[j]? = some p -> o.dst = some d -> p.dst = some d -> i = j
 | [], i, j, o, p, d, _, h, _, _, _ => by simp at h
 | x :: r, 0, 0, o, p, d, _, _, _, _, _ => rfl
 | x :: r, 0, j + 1, o, p, d, hn, h1, h2, hd, hp => by
  simp at h1 h2; subst h1
  simp only [List.filterMap_cons, hd, List.nodup_cons] at hn
  exact absurd (List.mem_filterMap.2 ⟨p, List.mem_of_getElem? h2, hp⟩) hn.1
 | x :: r, i + 1, 0, o, p, d, hn, h1, h2, hd, hp => by
  simp at h1 h2; subst h2
  simp only [List.filterMap_cons, hp, List.nodup_cons] at hn
  exact absurd (List.mem_filterMap.2 ⟨o, List.mem_of_getElem? h1, hd⟩) hn.1
 | x :: r, i + 1, j + 1, o, p, d, hn, h1, h2, hd, hp => by
  have hn' : (r.filterMap (·.dst)).Nodup := by
   simp only [List.filterMap_cons] at hn
   split at hn
   ·exact hn
   ·exact (List.nodup_cons.1 hn).2
  simp at h1 h2
  rw [dst_inj hn' h1 h2 hd hp]
theorem eval_eq (a b : Act) (t : Nat) (h : a.tmps[t]? = b.tmps[t]?) : a.eval (.tmp t) = b.eval (.tmp t) := by
 simp [Act.eval, h]
section
variable {P : Program} {l : List Oper} {Q : Exit -> Act -> World -> Prop} {a0 : Act} {I : Nat -> Value -> World -> Prop} {G : (Nat -> Bool) -> World -> Prop}
structure OnWay (l : List Oper) (a0 : Act) (I : Nat -> Value -> World -> Prop) (G : (Nat -> Bool) -> World -> Prop) (listed : Array Bool) (a : Act) (w : World) : Prop where
 size : listed.size = l.length
 tsize : a.tmps.size = a0.tmps.size
 defers : a.defers = a0.defers
 closed : ∀ j oj, l.toArray[j]? = some oj -> listed.getD j false = true -> ∀ e ∈ oj.after, Region.binds .any e = true -> listed.getD e.on false = true
 slots : ∀ j oj d, l.toArray[j]? = some oj -> oj.dst = some d -> listed.getD j false = true -> I j (a.eval (.tmp d)) w
 mute : ∀ j oj, l.toArray[j]? = some oj -> oj.dst = none -> listed.getD j false = true -> ∃ u, I j u w
 other : ∀ t, (∀ j oj, l.toArray[j]? = some oj -> oj.dst = some t -> listed.getD j false = false) -> a.tmps[t]? = a0.tmps[t]?
 glob : G (fun j => listed.getD j false) w
theorem put_tmps_ne (a : Act) {x : Option Tmp} {t : Nat} (v : Value) (h : x ≠ some t) : (a.put x v).tmps[t]? = a.tmps[t]? := by
 cases x with
 | none => rfl
 | some d =>
  have : d ≠ t := fun e => h (by rw [e])
  simp [Act.put, Array.getElem?_setIfInBounds_ne this]
theorem getD_set (listed : Array Bool) (i j : Nat) (hi : i < listed.size) : (listed.setIfInBounds i true).getD j false = (listed.getD j false || j == i) := by
 by_cases e : j = i
 ·subst e; simp [hi]
 ·have e' : i ≠ j := fun h => e h.symm
  have : (j == i) = false := by simpa using e
  simp [this, Array.getElem?_setIfInBounds_ne e']
theorem wpAny_of (ht : tidy l a0.tmps.size = true) (hs : StepsOk P l.toArray Q a0 I G 0 l)
  (hend : ∀ (vs : Nat -> Value) (w' : World), (∀ j oj, l[j]? = some oj -> oj.dst ≠ none -> I j (vs j) w') -> (∀ j oj, l[j]? = some oj -> oj.dst = none -> ∃ u, I j u w') -> G (fun j => decide (j < l.length)) w' -> Q .normal (putAll vs 0 l a0) w') :
  ∀ (fuel : Nat) (listed : Array Bool) (a : Act) (w : World), OnWay l a0 I G listed a w -> ((List.range l.length).filter fun i => !listed.getD i false).length ≤ fuel -> wpAny P .any l.toArray Q fuel listed a w := by
 simp only [tidy, Bool.and_eq_true, decide_eq_true_eq, List.all_eq_true] at ht
 obtain ⟨⟨hnd, hin⟩, hbe⟩ := ht
 have hin' : ∀ (j : Nat) (oj : Oper) (d : Nat), l[j]? = some oj -> oj.dst = some d -> d < a0.tmps.size := fun j oj d hj hd => by
  have := hin oj (List.mem_of_getElem? hj)
  simpa [hd] using this
 have full : ∀ (listed : Array Bool), listed.size = l.length -> Region.ready .any l.toArray listed = [] -> ∀ i, i < l.length -> listed.getD i false = true := by
  intro listed hsz hr i
  induction i using Nat.strongRecOn with
  | _ i ih =>
   intro hi
   by_cases hl : listed.getD i false = true
   ·exact hl
   ·exfalso
    have hm : i ∈ Region.ready .any l.toArray listed := by
     unfold Region.ready
     refine List.mem_filter.2 ⟨List.mem_range.2 (by simpa using hi), ?_⟩
     have ho : l.toArray[i]? = some l[i] := by simp [hi]
     have hl2 : listed.getD i true = false := by
      have : i < listed.size := by omega
      simp [this] at hl ⊢
      exact hl
     rw [hl2, ho]
     simp only [Bool.not_false, Bool.true_and, Option.map_some, Option.getD_some, Array.all_eq_true_iff_forall_mem]
     intro e he
     have h2 := hbe i (List.mem_range.2 hi)
     rw [List.getElem?_eq_getElem hi] at h2
     simp only [Option.map_some, Option.getD_some, Array.all_eq_true_iff_forall_mem] at h2
     have h3 := h2 e he
     by_cases hb : Region.binds .any e = true
     ·rw [hb] at h3 ⊢
      simp at h3
      have := ih e.on h3 (by omega)
      simpa using this
     ·simp at hb; simp [hb]
    rw [hr] at hm
    cases hm
 have atEnd : ∀ (listed : Array Bool) (a : Act) (w : World), OnWay l a0 I G listed a w -> (∀ i, i < l.length -> listed.getD i false = true) -> Q .normal a w := by
  intro listed a w h hall
  have hg : (fun j => listed.getD j false) = fun j => decide (j < l.length) := by
   funext j
   by_cases hj : j < l.length
   ·simp only [hall j hj, decide_eq_true hj]
   ·have : ¬ j < listed.size := by rw [h.size]; exact hj
    simp [hj, this]
  have hlt : ∀ {j : Nat} {oj : Oper}, l[j]? = some oj -> j < l.length := fun hj => (List.getElem?_eq_some_iff.1 hj).1
  have hq := hend (fun j => match (l[j]?).bind (·.dst) with | some d => a.eval (.tmp d) | none => undef) w
   (fun j oj hj hne => by
    cases hd : oj.dst with
    | none => exact absurd hd hne
    | some d =>
     simp only [hj, Option.bind_some, hd]
     exact h.slots j oj d (by simpa using hj) hd (hall j (hlt hj)))
   (fun j oj hj hd => h.mute j oj (by simpa using hj) hd (hall j (hlt hj)))
   (hg ▸ h.glob)
  have ea : putAll (fun j => match (l[j]?).bind (·.dst) with | some d => a.eval (.tmp d) | none => undef) 0 l a0 = a := by
   have hsz := putAll_size (fun j => match (l[j]?).bind (·.dst) with | some d => a.eval (.tmp d) | none => undef) l 0 a0
   have hdf := putAll_defers (fun j => match (l[j]?).bind (·.dst) with | some d => a.eval (.tmp d) | none => undef) l 0 a0
   have htm : (putAll (fun j => match (l[j]?).bind (·.dst) with | some d => a.eval (.tmp d) | none => undef) 0 l a0).tmps = a.tmps := by
    apply Array.ext_getElem?
    intro t
    by_cases hx : ∃ (j : Nat) (oj : Oper), l[j]? = some oj /\ oj.dst = some t
    ·obtain ⟨j, oj, hj, hd⟩ := hx
     have hb := hin' j oj t hj hd
     rw [putAll_at _ l 0 a0 j oj t hnd hj hd hb]
     simp only [Nat.zero_add, hj, Option.bind_some, hd]
     have : t < a.tmps.size := by rw [h.tsize]; exact hb
     simp [Act.eval, this]
    ·rw [putAll_other _ t l 0 a0 (fun o ho e => by
      obtain ⟨j, hj⟩ := List.getElem?_of_mem ho
      exact hx ⟨j, o, hj, e⟩)]
     exact (h.other t (fun j oj hj hd => (hx ⟨j, oj, by simpa using hj, hd⟩).elim)).symm
   rw [← h.defers] at hdf
   cases hp : putAll (fun j => match (l[j]?).bind (·.dst) with | some d => a.eval (.tmp d) | none => undef) 0 l a0 with
   | mk tm df =>
    rw [hp] at htm hdf
    cases a; simp at htm hdf; simp [htm, hdf]
  rw [ea] at hq
  exact hq
 intro fuel
 induction fuel with
 | zero =>
  intro listed a w h hc
  have hall : ∀ i, i < l.length -> listed.getD i false = true := by
   intro i hi
   by_cases hl : listed.getD i false = true
   ·exact hl
   ·exfalso
    have : i ∈ (List.range l.length).filter fun i => !listed.getD i false := List.mem_filter.2 ⟨List.mem_range.2 hi, by simpa using hl⟩
    have := List.length_pos_of_mem this
    omega
  refine ⟨?_, atEnd listed a w h hall⟩
  unfold Region.ready
  rw [List.filter_eq_nil_iff]
  intro i hi
  have hi' : i < l.length := by simpa using hi
  have h1 := hall i hi'
  have : i < listed.size := by rw [h.size]; exact hi'
  simp [this] at h1 ⊢
  intro hx; rw [h1] at hx; cases hx
 | succ fuel ih =>
  intro listed a w h hc
  refine ⟨fun hr => atEnd listed a w h (full listed h.size hr), fun i hi => ?_⟩
  unfold Region.ready at hi
  obtain ⟨hi1, hi2⟩ := List.mem_filter.1 hi
  have hil : i < l.length := by simpa using hi1
  have ho : l.toArray[i]? = some l[i] := by simp [hil]
  have hisz : i < listed.size := by rw [h.size]; exact hil
  rw [ho] at hi2
  simp only [Option.map_some, Option.getD_some, Bool.and_eq_true, Bool.not_eq_true', Array.all_eq_true_iff_forall_mem, Bool.or_eq_true] at hi2
  obtain ⟨hu, qb⟩ := hi2
  have hu' : listed.getD i false = false := by simp [hisz] at hu ⊢; exact hu
  have hst := hs.get (i := i) (o := l[i]) (by simp [hil])
  rw [Nat.zero_add] at hst
  have hdeps : ∀ e ∈ (l[i]).after, Region.binds .any e = true -> listed.getD e.on false = true := fun e he hb => by
   rcases qb e he with h1 | h1
   ·rw [hb] at h1; cases h1
   ·exact h1
  have hcount : ((List.range l.length).filter fun j => !(listed.setIfInBounds i true).getD j false).length ≤ fuel := by
   have hsub : ((List.range l.length).filter fun j => !(listed.setIfInBounds i true).getD j false).length < ((List.range l.length).filter fun j => !listed.getD j false).length := by
    have e1 : ((List.range l.length).filter fun j => !(listed.setIfInBounds i true).getD j false) = (((List.range l.length).filter fun j => !listed.getD j false).filter fun j => !(j == i)) := by
     rw [List.filter_filter]
     congr 1
     funext j
     rw [getD_set listed i j hisz]
     cases listed.getD j false <;> cases (j == i) <;> rfl
    rw [e1]
    refine List.length_filter_lt_length_iff_exists.2 ⟨i, List.mem_filter.2 ⟨List.mem_range.2 hil, by rw [hu']; rfl⟩, by simp⟩
   omega
  have hnext : ∀ v w', I i v w' -> G (dn (fun j => listed.getD j false) i) w' -> (∀ j, j ≠ i -> listed.getD j false = true -> ∀ u, I j u w -> I j u w') -> wpAny P .any l.toArray Q fuel (listed.setIfInBounds i true) (a.put (l[i]).dst v) w' := by
   intro v w' hI hG hst'
   refine ih _ _ _ ⟨by simpa using h.size, by rw [put_size]; exact h.tsize, by rw [put_defers']; exact h.defers, ?_, ?_, ?_, ?_, ?_⟩ hcount
   ·intro j oj hj hl e he hb
    rw [getD_set listed i _ hisz] at hl ⊢
    by_cases hji : j = i
    ·subst hji
     rw [ho] at hj; cases hj
     rw [hdeps e he hb]; rfl
    ·have : (j == i) = false := by simpa using hji
     rw [this, Bool.or_false] at hl
     rw [h.closed j oj hj hl e he hb]; rfl
   ·intro j oj d hj hd hl
    rw [getD_set listed i _ hisz] at hl
    have hb : d < a.tmps.size := by rw [h.tsize]; exact hin' j oj d (by simpa using hj) hd
    by_cases hji : j = i
    ·subst hji
     rw [ho] at hj; cases hj
     have : (a.put (l[j]).dst v).eval (.tmp d) = v := by rw [hd]; simp [Act.eval, Act.put, hb]
     rw [this]; exact hI
    ·have hx : (j == i) = false := by simpa using hji
     rw [hx, Bool.or_false] at hl
     have hne : (l[i]).dst ≠ some d := fun e => hji (dst_inj hnd (by simpa using hj) (by simp [hil]) hd e)
     rw [eval_eq _ a d (put_tmps_ne a v hne)]
     exact hst' j hji hl _ (h.slots j oj d hj hd hl)
   ·intro j oj hj hd hl
    rw [getD_set listed i _ hisz] at hl
    by_cases hji : j = i
    ·subst hji; exact ⟨v, hI⟩
    ·have hx : (j == i) = false := by simpa using hji
     rw [hx, Bool.or_false] at hl
     obtain ⟨u, hu⟩ := h.mute j oj hj hd hl
     exact ⟨u, hst' j hji hl u hu⟩
   ·intro t ht
    have hne : (l[i]).dst ≠ some t := fun e => by
     have := ht i l[i] ho e
     rw [getD_set listed i _ hisz] at this
     simp at this
    rw [put_tmps_ne a v hne]
    refine h.other t fun j oj hj hd => ?_
    have := ht j oj hj hd
    rw [getD_set listed i _ hisz] at this
    simp only [Bool.or_eq_false_iff] at this
    exact this.1
   ·have : (fun j => (listed.setIfInBounds i true).getD j false) = dn (fun j => listed.getD j false) i := by
     funext j
     rw [getD_set listed i _ hisz]; rfl
    rw [this]; exact hG
  have hstep := hst (fun j => listed.getD j false) a w (wpAny P .any l.toArray Q fuel (listed.setIfInBounds i true)) hu'
   (fun j k hw hl => by
    cases hj : l.toArray[j]? with
    | none => rw [hj] at hw; cases hw
    | some oj =>
     rw [hj] at hw
     obtain ⟨e, he, hb, hk⟩ := waitsOn_spec hw
     rw [← hk]; exact h.closed j oj hj hl e he hb)
   (fun j d hd hl => by
    cases hj : l.toArray[j]? with
    | none => rw [hj] at hd; cases hd
    | some oj => rw [hj] at hd; have := h.slots j oj d hj hd hl; simpa [Act.eval] using this)
   (fun t ht => congrArg (·.getD undef) (h.other t (fun j oj hj hd => by
    have h1 := List.all_eq_true.1 ht oj (List.mem_of_getElem? (by simpa using hj))
    rw [hd] at h1; simp at h1)))
   (fun k hw => by
    obtain ⟨e, he, hb, hk⟩ := waitsOn_spec hw
    rw [← hk]; exact hdeps e he hb) h.glob hnext
  unfold wpOp
  rw [ho]
  simp only
  split
  ·rename_i hw; rw [if_pos hw] at hstep; exact .inl hstep
  ·rename_i hw; rw [if_neg hw] at hstep; exact hstep
theorem wp_region_inv {id : Nat} {w : World} (I : Nat -> Value -> World -> Prop) (G : (Nat -> Bool) -> World -> Prop) (hm : P.follows .mixedOrders = true) (ht : tidy l a0.tmps.size = true)
  (h0 : G (fun _ => false) w.drew) (hs : StepsOk P l.toArray Q a0 I G 0 l)
  (hend : ∀ (vs : Nat -> Value) (w' : World), (∀ j oj, l[j]? = some oj -> oj.dst ≠ none -> I j (vs j) w') -> (∀ j oj, l[j]? = some oj -> oj.dst = none -> ∃ u, I j u w') -> G (fun j => decide (j < l.length)) w' -> Q .normal (putAll vs 0 l a0) w') :
  (Code.region id l.toArray true).wp P Q a0 w := by
 refine wp_region_any hm (wpAny_of ht hs hend _ _ _ _ ?_ ?_)
 ·have hf : ∀ j, (Array.replicate l.toArray.size false).getD j false = false := fun j => by
   simp only [Array.getD_eq_getD_getElem?, Array.getElem?_replicate]
   split <;> rfl
  refine ⟨by simp, rfl, rfl, ?_, ?_, ?_, ?_, ?_⟩
  ·intro j oj hj hl; rw [hf] at hl; cases hl
  ·intro j oj d hj hd hl; rw [hf] at hl; cases hl
  ·intro j oj hj hd hl; rw [hf] at hl; cases hl
  ·intro t _; rfl
  ·have : (fun j => (Array.replicate l.toArray.size false).getD j false) = fun _ => false := funext hf
   rw [this]; exact h0
 ·exact Nat.le_trans (List.length_filter_le _ _) (by simp)
end
structure Fact where
 holds : Value -> World -> Prop
 safe : (Nat -> Prop) -> World -> Prop
 stab : ∀ S v w w', holds v w -> Chg S w w' -> safe S w -> holds v w'
 none : ∀ w, safe No w
def Fact.any : Fact := ⟨fun _ _ => True, fun _ _ => True, fun _ _ _ _ _ _ _ => trivial, fun _ => trivial⟩
def Fact.eq (v0 : Value) : Fact := ⟨fun v _ => v = v0, fun _ _ => True, fun _ _ _ _ h _ _ => h, fun _ => trivial⟩
def Fact.temp (lo : Nat) (row : List Value) (e : TypeId) : Fact :=
 ⟨fun v w => ∃ t, v = .slice (some ⟨t, 0, Option.none⟩) 1 1 /\ lo ≤ t /\ Blk w t row e, fun S _ => ∀ k, S k -> k < lo,
  fun S v w w' h hc hs => by obtain ⟨t, hv, hl, hb⟩ := h; exact ⟨t, hv, hl, hb.chg hc (fun e => by have := hs t e; omega)⟩, fun _ _ e => e.elim⟩
def Fact.own (base e size : Nat) (rows : List (List Value)) : Fact :=
 ⟨fun v w => OwnR w base e size v rows, fun S w => ∀ k, S k -> base ≤ k -> ¬ ∃ cur, w.heap[k]? = some (.cells cur e (0, 0)),
  fun S v w w' h hc hs => h.chg hc (fun k hk hS => by obtain ⟨h1, -, h2⟩ := h.elem hk; exact hs k hS h1 h2), fun _ _ e => e.elim⟩
def Fact.val (ok : Nat -> Prop) (j : J) : Fact :=
 ⟨fun v w => ∃ cs : List Value, v = .agg cs.toArray /\ ValJ ok w cs j, fun S _ => ∀ b, ok b -> ¬ S b,
  fun S v w w' h hc hs => by obtain ⟨cs, hv, h⟩ := h; exact ⟨cs, hv, h.chg hc hs⟩, fun _ _ _ e => e⟩
def FI (fs : List Fact) (i : Nat) (v : Value) (w : World) : Prop := (fs.getD i Fact.any).holds v w
theorem FI.keep {fs : List Fact} {i : Nat} {v : Value} {w w' : World} {S : Nat -> Prop} (h : FI fs i v w) (hc : Chg S w w') (hs : (fs.getD i Fact.any).safe S w) : FI fs i v w' :=
 (fs.getD i Fact.any).stab S v w w' h hc hs
theorem FI.keepNo {fs : List Fact} {i : Nat} {v : Value} {w w' : World} (h : FI fs i v w) (hc : Chg No w w') : FI fs i v w' := h.keep hc ((fs.getD i Fact.any).none w)
theorem OwnR.notElem {w : World} {base e e' size : Nat} {v : Value} {rows : List (List Value)} (h : OwnR w base e size v rows) (he : e ≠ e') {k : Nat} (hk : v.ownBlock = some k) : ¬ ∃ cur, w.heap[k]? = some (.cells cur e' (0, 0)) := by
 rintro ⟨cur, h1⟩
 obtain ⟨-, -, cur', h2⟩ := h.elem hk
 rw [h1] at h2
 cases h2
 exact he rfl
theorem OwnR.slice {w : World} {base e size : Nat} {v : Value} {rows : List (List Value)} (h : OwnR w base e size v rows) : ∃ a n c, v = .slice a n c := by
 obtain ⟨-, -, h2⟩ := h
 rcases h2 with ⟨rfl, -⟩ | ⟨g, cap, cur, rfl, -⟩
 ·exact ⟨_, _, _, rfl⟩
 ·exact ⟨_, _, _, rfl⟩
theorem Blk.row1 {w : World} {t : Nat} {row : List Value} {ty : TypeId} (h : Blk w t row ty) {size : Nat} (hl : row.length = size) : RowAt (fun b => b = t) w (.slice (some ⟨t, 0, none⟩) 1 1) size [row] := by
 refine ⟨by simp [maxLen], by simpa using hl, _, _, rfl, (by intro e; cases e), fun _ => ⟨_, _, rfl, rfl, fun i r hr j u hu => ?_⟩⟩
 cases i with
 | zero =>
  simp at hr; subst hr
  have := h.cell j
  rw [Nat.zero_mul, Nat.add_zero, Nat.zero_add, this, hu]
 | succ i => simp at hr
theorem safe_of {fs : List Fact} {i : Nat} {S : Nat -> Prop} {w : World} (h : ∀ j, j < fs.length -> j ≠ i -> (fs.getD j Fact.any).safe S w) : ∀ j, j ≠ i -> (fs.getD j Fact.any).safe S w := by
 intro j hj
 by_cases hl : j < fs.length
 ·exact h j hl hj
 ·rw [List.getD_eq_getElem?_getD, List.getElem?_eq_none (by omega)]
  trivial
theorem if_wanted {o : Oper} {y : Nat -> Option Bool} {A B : Prop} (hg : o.guard = none) (h : A) : if Region.wanted o y = true then A else B := by
 rw [if_pos (by simp [Region.wanted, hg])]; exact h
def RowsV (ok : Nat -> Prop) (w : World) (rows : List (List Value)) (acc : T) : Prop :=
 rows.length = acc.length /\ ∀ (i : Nat) (r : List Value) (p : K × J), rows[i]? = some r -> acc[i]? = some p -> ValJ ok w r p.2
def keyRows (acc : T) : List (List Value) := acc.map fun p => [.string p.1]
structure WithAcc (kvs : T) (key : K) (x : J) (n : Nat) (d : Bool) (acc : T) : Prop where
 acc0 : d = false -> acc = kvs.take n /\ ∀ p ∈ kvs.take n, klt p.1 key
 acc1 : d = true -> acc = ins (kvs.take n) key x /\ ∃ q ∈ kvs.take n, ¬ klt q.1 key
structure OutMem (ok : Nat -> Prop) (w wr : World) (bs : List (Nat × List Value)) (g base : Nat) (acc : T) (rows : List (List Value)) (kv lv : Value) : Prop where
 chg : Chg No w wr
 og : w.heap.size ≤ g
 gb : g < base
 bb : base ≤ wr.heap.size
 bs : ∀ p ∈ bs, Blk wr p.1 p.2 26 /\ p.1 < base /\ p.1 ≠ g
 b : Blk wr g (cells7 7 false 0 0 ByteArray.empty kv lv) 26
 ck : OwnR wr base 9 1 kv (keyRows acc)
 cl : OwnR wr base 26 7 lv rows
 rv : RowsV ok w rows acc
structure OutMid (ok : Nat -> Prop) (w wr : World) (lo : Nat) (bs : List (Nat × List Value)) (g base : Nat) (acc : T) (rows : List (List Value)) (kv lv : Value) (k : K) (r : List Value) (d5 d6 : Bool) : Prop where
 chg : Chg No w wr
 og : w.heap.size ≤ g
 gb : g < base
 bb : base ≤ lo
 hlo : lo ≤ wr.heap.size
 bs : ∀ p ∈ bs, Blk wr p.1 p.2 26 /\ p.1 < base /\ p.1 ≠ g
 ck : OwnR wr base 9 1 kv (keyRows acc)
 cl : OwnR wr base 26 7 lv rows
 klo : ∀ x, kv.ownBlock = some x -> x < lo
 llo : ∀ x, lv.ownBlock = some x -> x < lo
 b : ∃ k' l', Blk wr g (cells7 7 false 0 0 ByteArray.empty k' l') 26 /\ (if d5 then OwnR wr base 9 1 k' (keyRows acc ++ [[.string k]]) else k' = kv) /\ (if d6 then OwnR wr base 26 7 l' (rows ++ [r]) else l' = lv)
theorem OutMem.mid {ok : Nat -> Prop} {w wr : World} {bs : List (Nat × List Value)} {g base : Nat} {acc : T} {rows : List (List Value)} {kv lv : Value} (h : OutMem ok w wr bs g base acc rows kv lv) (k : K) (r : List Value) :
  OutMid ok w wr.drew wr.heap.size bs g base acc rows kv lv k r false false :=
 ⟨h.chg.drew, h.og, h.gb, h.bb, Nat.le_refl _, h.bs, h.ck, h.cl, fun x hx => (h.ck.elem hx).2.1, fun x hx => (h.cl.elem hx).2.1, ⟨kv, lv, h.b, rfl, rfl⟩⟩
theorem OutMid.chgNo {ok : Nat -> Prop} {w wr wr' : World} {lo : Nat} {bs : List (Nat × List Value)} {g base : Nat} {acc : T} {rows : List (List Value)} {kv lv : Value} {k : K} {r : List Value} {d5 d6 : Bool}
  (h : OutMid ok w wr lo bs g base acc rows kv lv k r d5 d6) (hc : Chg No wr wr') : OutMid ok w wr' lo bs g base acc rows kv lv k r d5 d6 := by
 obtain ⟨k', l', hb, h1, h2⟩ := h.b
 refine ⟨h.chg.trans' hc, h.og, h.gb, h.bb, Nat.le_trans h.hlo hc.size, fun p hp => ⟨(h.bs p hp).1.chg hc id, (h.bs p hp).2⟩, h.ck.chg hc (fun _ _ e => e), h.cl.chg hc (fun _ _ e => e), h.klo, h.llo, k', l', hb.chg hc id, ?_, ?_⟩
 ·cases d5
  ·exact h1
  ·exact h1.chg hc (fun _ _ e => e)
 ·cases d6
  ·exact h2
  ·exact h2.chg hc (fun _ _ e => e)
theorem OutMid.app {ok : Nat -> Prop} {w wr wr' : World} {lo : Nat} {bs : List (Nat × List Value)} {g base : Nat} {acc : T} {rows : List (List Value)} {kv lv : Value} {k : K} {r : List Value}
  (h : OutMid ok w wr lo bs g base acc rows kv lv k r false false) {v : Value} (hc : Chg (fun b => v.ownBlock = some b) wr wr') (hv : ∀ x, v.ownBlock = some x -> base ≤ x)
  (hk : OwnR wr' base 9 1 kv (keyRows acc)) (hl : OwnR wr' base 26 7 lv rows) : OutMid ok w wr' lo bs g base acc rows kv lv k r false false := by
 obtain ⟨k', l', hb, h1, h2⟩ := h.b
 have hgb := h.gb
 have hog := h.og
 refine ⟨h.chg.trans hc (fun i hi e => by have := hv i e; omega), h.og, h.gb, h.bb, Nat.le_trans h.hlo hc.size, fun p hp => ⟨(h.bs p hp).1.chg hc (fun e => by have := hv _ e; have := (h.bs p hp).2.1; omega), (h.bs p hp).2⟩, hk, hl, h.klo, h.llo, k', l', hb.chg hc (fun e => by have := hv _ e; omega), h1, h2⟩
theorem OutMid.store5 {ok : Nat -> Prop} {w wr : World} {lo : Nat} {bs : List (Nat × List Value)} {g base : Nat} {acc : T} {rows : List (List Value)} {kv lv : Value} {k : K} {r : List Value} {d6 : Bool}
  (h : OutMid ok w wr lo bs g base acc rows kv lv k r false d6) {v : Value} (hv : OwnR wr base 9 1 v (keyRows acc ++ [[.string k]])) :
  OutMid ok w (wr.setCell ⟨g, 5, none⟩ v) lo bs g base acc rows kv lv k r true d6 /\ Chg (· = g) wr (wr.setCell ⟨g, 5, none⟩ v) := by
 obtain ⟨k', l', hb, h1, h2⟩ := h.b
 have hgb := h.gb
 have hog := h.og
 have hc : Chg (· = g) wr (wr.setCell ⟨g, 5, none⟩ v) := Chg.setCell (S := (· = g)) (Chg.refl _ _) (fun _ => rfl) _
 have hne : ∀ {e size : Nat} {u : Value} {rs : List (List Value)}, OwnR wr base e size u rs -> OwnR (wr.setCell ⟨g, 5, none⟩ v) base e size u rs := fun ho => ho.chg hc (fun x hx e => by have := (ho.elem hx).1; omega)
 refine ⟨⟨h.chg.trans hc (fun i hi e => by omega), h.og, h.gb, h.bb, by simpa using h.hlo, fun p hp => ⟨(h.bs p hp).1.chg hc (h.bs p hp).2.2, (h.bs p hp).2⟩, hne h.ck, hne h.cl, h.klo, h.llo, v, l', ?_, hne hv, ?_⟩, hc⟩
 ·have := heap_setCell_same wr g 5 _ _ v hb
  simpa [Blk, cells7] using this
 ·cases d6
  ·exact h2
  ·exact hne h2
theorem OutMid.store6 {ok : Nat -> Prop} {w wr : World} {lo : Nat} {bs : List (Nat × List Value)} {g base : Nat} {acc : T} {rows : List (List Value)} {kv lv : Value} {k : K} {r : List Value} {d5 : Bool}
  (h : OutMid ok w wr lo bs g base acc rows kv lv k r d5 false) {v : Value} (hv : OwnR wr base 26 7 v (rows ++ [r])) :
  OutMid ok w (wr.setCell ⟨g, 6, none⟩ v) lo bs g base acc rows kv lv k r d5 true /\ Chg (· = g) wr (wr.setCell ⟨g, 6, none⟩ v) := by
 obtain ⟨k', l', hb, h1, h2⟩ := h.b
 have hgb := h.gb
 have hog := h.og
 have hc : Chg (· = g) wr (wr.setCell ⟨g, 6, none⟩ v) := Chg.setCell (S := (· = g)) (Chg.refl _ _) (fun _ => rfl) _
 have hne : ∀ {e size : Nat} {u : Value} {rs : List (List Value)}, OwnR wr base e size u rs -> OwnR (wr.setCell ⟨g, 6, none⟩ v) base e size u rs := fun ho => ho.chg hc (fun x hx e => by have := (ho.elem hx).1; omega)
 refine ⟨⟨h.chg.trans hc (fun i hi e => by omega), h.og, h.gb, h.bb, by simpa using h.hlo, fun p hp => ⟨(h.bs p hp).1.chg hc (h.bs p hp).2.2, (h.bs p hp).2⟩, hne h.ck, hne h.cl, h.klo, h.llo, k', v, ?_, ?_, hne hv⟩, hc⟩
 ·have := heap_setCell_same wr g 6 _ _ v hb
  simpa [Blk, cells7] using this
 ·cases d5
  ·exact h1
  ·exact hne h1
theorem OutMid.out {ok : Nat -> Prop} {w wr : World} {lo : Nat} {bs : List (Nat × List Value)} {g base : Nat} {acc : T} {rows : List (List Value)} {kv lv : Value} {k : K} {r : List Value}
  (h : OutMid ok w wr lo bs g base acc rows kv lv k r true true) {x : J} (hrv : RowsV ok w rows acc) (hr : ValJ ok w r x) :
  ∃ k' l', OutMem ok w wr bs g base (acc ++ [(k, x)]) (rows ++ [r]) k' l' := by
 obtain ⟨k', l', hb, h1, h2⟩ := h.b
 refine ⟨k', l', h.chg, h.og, h.gb, Nat.le_trans h.bb h.hlo, h.bs, hb, ?_, h2, ?_⟩
 ·simpa [keyRows] using h1
 ·refine ⟨by simp [hrv.1], fun i r' p hr' hp => ?_⟩
  by_cases hi : i < rows.length
  ·rw [List.getElem?_append_left hi] at hr'
   rw [List.getElem?_append_left (by rw [← hrv.1]; exact hi)] at hp
   exact hrv.2 i r' p hr' hp
  ·rw [List.getElem?_append_right (by omega)] at hr'
   rw [List.getElem?_append_right (by rw [← hrv.1]; omega)] at hp
   have h0 : i - rows.length = 0 := by
    have := (List.getElem?_eq_some_iff.1 hr').1; simp at this; omega
   rw [h0] at hr'
   rw [← hrv.1, h0] at hp
   simp at hr' hp
   subst hr'; subst hp
   exact hr
theorem WithAcc.len {kvs : T} {key : K} {x : J} {n : Nat} {d : Bool} {acc : T} (h : WithAcc kvs key x n d acc) : acc.length ≤ n + 1 := by
 cases d with
 | false => obtain ⟨rfl, -⟩ := h.acc0 rfl; have := List.length_take_le n kvs; omega
 | true => obtain ⟨rfl, -⟩ := h.acc1 rfl; have := List.length_take_le n kvs; have := ins_length (kvs.take n) key x; omega
theorem WithAcc.stepA {kvs : T} {key : K} {x : J} {n : Nat} {acc : T} {p : K × J} (h : WithAcc kvs key x n true acc) (hs : Sorted kvs) (hp : kvs[n]? = some p) : p.1 ≠ key /\ WithAcc kvs key x (n + 1) true (acc ++ [p]) := by
 obtain ⟨rfl, q, hq, hnq⟩ := h.acc1 rfl
 have ht : kvs.take (n + 1) = kvs.take n ++ [p] := by rw [List.take_add_one, hp]; rfl
 have hqp : klt q.1 p.1 := by
  have h2 : Sorted (kvs.take (n + 1)) := List.Pairwise.sublist (List.take_sublist _ _) hs
  rw [ht] at h2
  exact (List.pairwise_append.1 h2).2.2 q hq p (by simp)
 refine ⟨fun e => hnq (e ▸ hqp), (by intro e; cases e), fun _ => ⟨?_, q, ?_, hnq⟩⟩
 ·rw [ht, ins_snoc ⟨q, hq, hnq⟩]
 ·rw [ht]; exact List.mem_append_left _ hq
theorem WithAcc.stepB {kvs : T} {key : K} {x : J} {n : Nat} {acc : T} {p : K × J} (h : WithAcc kvs key x n false acc) (hp : kvs[n]? = some p) (hk : klt p.1 key) : p.1 ≠ key /\ WithAcc kvs key x (n + 1) false (acc ++ [p]) := by
 obtain ⟨rfl, hall⟩ := h.acc0 rfl
 have ht : kvs.take (n + 1) = kvs.take n ++ [p] := by rw [List.take_add_one, hp]; rfl
 refine ⟨klt_ne hk, fun _ => ⟨ht.symm, fun q hq => ?_⟩, (by intro e; cases e)⟩
 rw [ht] at hq
 rcases List.mem_append.1 hq with hq | hq
 ·exact hall q hq
 ·obtain rfl := List.mem_singleton.1 hq; exact hk
theorem WithAcc.stepC {kvs : T} {key : K} {x : J} {n : Nat} {acc : T} {p : K × J} (h : WithAcc kvs key x n false acc) (hp : kvs[n]? = some p) (hk : ¬ klt p.1 key) : WithAcc kvs key x (n + 1) true (acc ++ (key, x) :: if p.1 = key then [] else [p]) := by
 obtain ⟨rfl, hall⟩ := h.acc0 rfl
 have ht : kvs.take (n + 1) = kvs.take n ++ [p] := by rw [List.take_add_one, hp]; rfl
 refine ⟨(by intro e; cases e), fun _ => ⟨?_, p, ?_, hk⟩⟩
 ·rw [ht, ins_here hall hk]
 ·rw [ht]; simp
theorem OutMem.val {ok : Nat -> Prop} {w wr : World} {bs : List (Nat × List Value)} {g base : Nat} {acc : T} {rows : List (List Value)} {kv lv : Value} (h : OutMem ok w wr bs g base acc rows kv lv) :
  ValJ (fun b => (ok b /\ b < w.heap.size) ∨ base ≤ b) wr (cells7 7 false 0 0 ByteArray.empty kv lv) (.table acc) := by
 refine .table (h.ck.rowAt.mono (fun b _ hb2 => .inr (h.ck.elem hb2).1) (by decide)) (h.cl.rowAt.mono (fun b _ hb2 => .inr (h.cl.elem hb2).1) (by decide)) h.rv.1 fun n r p hr hp => ?_
 exact ((h.rv.2 n r p hr hp).mono (ok' := fun b => ok b /\ b < w.heap.size) (fun b hb hb2 => ⟨hb2, hb⟩)).chg h.chg (fun _ _ e => e) |>.mono (fun b _ hb2 => .inl hb2)
theorem OutMem.done {ok : Nat -> Prop} {w wr w2 : World} {bs : List (Nat × List Value)} {g base g2 : Nat} {acc : T} {rows : List (List Value)} {kv lv : Value} (h : OutMem ok w wr bs g base acc rows kv lv)
  (hc : Chg (· = g2) wr w2) (h1 : w.heap.size ≤ g2) (h2 : g2 < base) : ValJ (fun b => ok b ∨ w.heap.size ≤ b) w2 (cells7 7 false 0 0 ByteArray.empty kv lv) (.table acc) /\ Chg No w w2 := by
 have hg := h.og
 have hb := h.gb
 refine ⟨(h.val.chg hc (fun b hb2 e => ?_)).mono (fun b _ hb2 => ?_), h.chg.trans hc (fun i hi e => by omega)⟩
 ·rcases hb2 with ⟨-, hb2⟩ | hb2 <;> omega
 ·rcases hb2 with ⟨hb2, -⟩ | hb2
  ·exact .inl hb2
  ·exact .inr (by omega)
theorem RowAt.zero {ok : Nat -> Prop} {w : World} {size : Nat} : RowAt ok w (.slice none 0 0) size [] := ⟨by simp, by simp, none, 0, rfl, fun _ => rfl, fun hne => absurd rfl hne⟩
theorem with_any (ok : Nat -> Prop) (kvs : T) (key : K) (x : J) (b : Bool) (i : Int) (f : Nat) (t : K) (kv lv : Value) (vs : List Value) (w : World)
  (h : ValJ ok w (cells7 7 b i f t kv lv) (.table kvs)) (hv : ValJ ok w vs x) (hs : Sorted kvs) (hn : kvs.length < 1099511627776) :
  Calls Tryz.prog 51 #[.agg (cells7 7 b i f t kv lv).toArray, .string key, .agg vs.toArray] w fun e w' => ∃ cs, e = .returned (.agg cs.toArray) /\ ValJ (fun b => ok b ∨ w.heap.size ≤ b) w' cs (.table (ins kvs key x)) /\ Chg No w w' := by
 obtain ⟨vk, vb, vi, vf, vt, vkv, vlv, rfl⟩ := hv.seven
 cases h with
 | @table _ _ _ _ _ _ rows0 _ hk hl hn0 hr =>
 have HK := Hd hk
 have HL := Hd hl
 obtain ⟨-, -, ka, kc, rfl, -, -⟩ := hk
 obtain ⟨-, -, la, lc, rfl, -, -⟩ := hl
 simp only [List.length_map] at HK ⊢
 have HR := Hd hr
 have HN := Hd hn0
 have HV := Hd hv
 have HS := Hd hs
 clear hr hn0 hv hs
 have hbk := build26_k 7
 go_enter Tryz.func51, Tryz.ntmps51
 unfold cells7
 go_wp2_with fail
 obtain ⟨g1, hg1⟩ : ∃ g1, g1 = w.heap.size + 1 := ⟨_, rfl⟩
 obtain ⟨g2, hg2⟩ : ∃ g2, g2 = w.heap.size + 1 + 1 := ⟨_, rfl⟩
 obtain ⟨g3, hg3⟩ : ∃ g3, g3 = w.heap.size + 1 + 1 + 1 := ⟨_, rfl⟩
 rw [← hg3, ← hg2, ← hg1]
 obtain ⟨bsl, hbsl⟩ : ∃ bsl, bsl = [(w.heap.size, cells7 7 b i f t (Value.slice ka (List.length kvs) kc) (Value.slice la rows0.length lc)), (g1, cells7 vk vb vi vf vt vkv vlv), (g2, zero7)] := ⟨_, rfl⟩
 go_loopw [8, 15] (fun d c wr => ∃ (n : Nat) (db : Bool) (acc : T) (rows : List (List Value)) (kv lv : Value), n ≤ kvs.length /\ d = .bool db /\ c = .int .i64 n /\
   WithAcc kvs key x n db acc /\ OutMem ok w wr bsl g3 (g3 + 1) acc rows kv lv) (fun _ c _ => kvs.length - (intOf c).toNat)
 case atStart =>
  refine ⟨0, false, [], [], .slice none 0 0, .slice none 0 0, Nat.zero_le _, rfl, rfl, ⟨fun _ => ⟨rfl, by simp⟩, (by intro e; cases e)⟩, ⟨((((Chg.refl _ _).alloc _).alloc _).alloc _).alloc _, by omega, by omega, by simp [hg3], ?_, ?_, OwnR.nil _ _ _ _, OwnR.nil _ _ _ _, rfl, by simp⟩⟩
  ·subst hbsl
   intro p hp
   simp only [List.mem_cons, List.mem_nil_iff, or_false] at hp
   rcases hp with rfl | rfl | rfl
   ·exact ⟨(((Blk.new _ _ _).alloc _).alloc _).alloc _, by simp; omega, by simp; omega⟩
   ·exact ⟨((Blk.newAt (by simp [hg1]) _ _).alloc _).alloc _, by simp; omega, by simp; omega⟩
   ·exact ⟨(Blk.newAt (by simp [hg2]) _ _).alloc _, by simp; omega, by simp; omega⟩
  ·exact Blk.newAt (by simp [hg3]) _ _
 case round =>
  obtain ⟨n, db, acc, rows, kv, lv, hn1, rfl, rfl, hacc, hi⟩ := hrel
  have HI := Hd hi
  have HA := Hd hacc
  have HG1 := Hd hg1
  have HG2 := Hd hg2
  have HG3 := Hd hg3
  have HB := Hd hbsl
  clear hi hacc hg1 hg2 hg3 hbsl
  have m0 : (w.heap.size, cells7 7 b i f t (Value.slice ka (List.length kvs) kc) (Value.slice la rows0.length lc)) ∈ bsl := by rw [HB.out]; exact .head _
  have m1 : (g1, cells7 vk vb vi vf vt vkv vlv) ∈ bsl := by rw [HB.out]; exact .tail _ (.head _)
  have m2 : (g2, zero7) ∈ bsl := by rw [HB.out]; exact .tail _ (.tail _ (.head _))
  have M0 := Hd m0
  have M1 := Hd m1
  have M2 := Hd m2
  clear m0 m1 m2
  by_cases hlt : n < kvs.length
  ·obtain ⟨p, hp⟩ : ∃ p, kvs[n]? = some p := ⟨_, List.getElem?_eq_getElem hlt⟩
   have hlt2 : n < rows0.length := by rw [HN.out]; exact hlt
   obtain ⟨r, hr0⟩ : ∃ r, rows0[n]? = some r := ⟨_, List.getElem?_eq_getElem hlt2⟩
   obtain ⟨kb, ko, rfl, hok, hkc⟩ := HK.out.at (i := n) (r := [.string p.1]) (by simp [hp])
   obtain ⟨lb, lo, rfl, hlok, hlc⟩ := HL.out.at (i := n) (r := r) hr0
   have hkc := (hkc.chg HI.out.chg id).one
   simp only [Nat.mul_one] at hkc
   have HLC := hlc
   have HV9 := Hd (HR.out n r p hr0 hp)
   obtain ⟨rk, rb, ri, rf, rt, rkv, rlv, rfl⟩ := HV9.out.seven
   have hrl : (cells7 rk rb ri rf rt rkv rlv).length = 7 := rfl
   have HP := Hd hp
   have h63 : (n : Int) < 9223372036854775808 := by omega
   have h64 : (n : Int) < (rows0.length : Int) := by omega
   clear hp hr0 hlc
   have hlen := HA.out.len
   cases db with
   | true =>
    obtain ⟨hpk, hA2⟩ := HA.out.stepA HS.out HP.out
    have hpb : (p.1.toList == key.toList) = false := by rw [toList_beq]; simpa using hpk
    have HA2 := Hd hA2
    clear hpk hA2
    go_wp2_with fail
    refine wp_region_inv (FI [.eq (.pointer (some ⟨g3, 5, none⟩)), .eq kv, .eq (.string p.1), .temp wr.heap.size [.string p.1] 9, .own (g3 + 1) 9 1 (keyRows acc ++ [[.string p.1]]), .eq (.pointer (some ⟨g3, 6, none⟩)), .eq lv, .eq (.pointer (some ⟨w.heap.size, 6, none⟩)), .eq (.slice (some ⟨lb, lo, none⟩) rows0.length lc), .eq (.int .i64 n), .eq (.pointer (some ⟨lb, lo + n * 7, none⟩)), .eq (.agg (cells7 rk rb ri rf rt rkv rlv).toArray), .temp wr.heap.size (cells7 rk rb ri rf rt rkv rlv) 26, .own (g3 + 1) 26 7 (rows ++ [(cells7 rk rb ri rf rt rkv rlv)]), .eq (.pointer (some ⟨g3, 5, none⟩)), .any, .eq (.pointer (some ⟨g3, 6, none⟩)), .any])
     (fun done w' => OutMid ok w w' wr.heap.size bsl g3 (g3 + 1) acc rows kv lv p.1 (cells7 rk rb ri rf rt rkv rlv) (done 15) (done 17))
     (by kernel_rfl) (by kernel_rfl) (HI.out.mid _ _) ?_ ?_
    ·refine ⟨?_, ?_, ?_, ?_, ?_, ?_, ?_, ?_, ?_, ?_, ?_, ?_, ?_, ?_, ?_, ?_, ?_, ?_, trivial⟩
     ·intro done a w1 K hd qd qe qf qb hG hK
      have e7 : a.tmps[7]?.getD undef = .pointer (some ⟨g3, 0, none⟩) := qf 7 rfl
      clear qd qe qf qb
      go_simp
      exact hK _ _ rfl (by simpa [dn] using hG) (fun _ _ _ _ h => h)
     ·intro done a w1 K hd qd qe qf qb hG hK
      have e42 : a.tmps[42]?.getD undef = .pointer (some ⟨g3, 5, none⟩) := qe 0 42 rfl (qb 0 rfl)
      have n15 : done 15 = false := by
       cases h : done 15 with
       | false => rfl
       | true => have := qd 15 1 rfl h; rw [hd] at this; cases this
      obtain ⟨k', l', hb, h1, -⟩ := hG.b
      rw [n15] at h1
      obtain rfl : k' = kv := h1
      have c5 : w1.cell? ⟨g3, 5, none⟩ = some k' := hb.cell 5
      clear qd qe qf qb
      go_simp
      exact hK _ _ rfl (by simpa [dn] using hG) (fun _ _ _ _ h => h)
     ·intro done a w1 K hd qd qe qf qb hG hK
      have e10 : a.tmps[10]?.getD undef = .string p.1 := qf 10 rfl
      clear qd qe qf qb
      go_simp
      exact hK _ _ rfl (by simpa [dn] using hG) (fun _ _ _ _ h => h)
     ·intro done a w1 K hd qd qe qf qb hG hK
      have e44 : a.tmps[44]?.getD undef = .string p.1 := qe 2 44 rfl (qb 2 rfl)
      clear qd qe qf qb
      go_simp
      refine hK _ _ ⟨_, rfl, hG.hlo, Blk.new _ [.string p.1] _⟩ (by simpa [dn] using hG.chgNo ((Chg.refl _ _).alloc _)) (fun _ _ _ _ h => h.keepNo ((Chg.refl _ _).alloc _))
     ·intro done a w1 K hd qd qe qf qb hG hK
      have e43 : a.tmps[43]?.getD undef = kv := qe 1 43 rfl (qb 1 rfl)
      obtain ⟨t, e45, hlt, hbt⟩ := qe 3 45 rfl (qb 3 rfl)
      have n15 : done 15 = false := by
       cases h : done 15 with
       | false => rfl
       | true => have := qd 15 4 rfl h; rw [hd] at this; cases this
      have n17 : done 17 = false := by
       cases h : done 17 with
       | false => rfl
       | true => have := qd 17 4 rfl h; rw [hd] at this; cases this
      rw [n15, n17] at hG
      refine if_wanted rfl ?_
      refine wp_appendRows elem23 rfl (by simpa [Act.eval] using e43) hG.ck (by simpa [Act.eval] using e45) (hbt.row1 rfl) (by simp [Value.oneCell']) (by simp only [keyRows, List.length_map, List.length_singleton]; have := hlen; omega) (by decide) (Nat.le_trans hG.bb hG.hlo) fun v' w' hO hC hB hOld => ?_
      have hC2 := hG.cl.chg hC (fun k hk hk2 => hG.ck.apart hG.cl (by decide) hk2 hk)
      refine hK v' w' hO (by simpa [dn, n15, n17] using hG.app hC (fun k hk => (hG.ck.elem hk).1) hOld hC2) ?_
      refine fun j hj _ u hu => hu.keep hC (safe_of (i := 4) (fun j hl hj => ?_) j hj)
      match j, hj with
      | 0, _ => exact trivial
      | 1, _ => exact trivial
      | 2, _ => exact trivial
      | 3, _ => exact fun k hk => hG.klo k hk
      | 4, hj => exact absurd rfl hj
      | 5, _ => exact trivial
      | 6, _ => exact trivial
      | 7, _ => exact trivial
      | 8, _ => exact trivial
      | 9, _ => exact trivial
      | 10, _ => exact trivial
      | 11, _ => exact trivial
      | 12, _ => exact fun k hk => hG.klo k hk
      | 13, _ => exact fun k hk _ => hG.ck.notElem (by decide) hk
      | 14, _ => exact trivial
      | 15, _ => exact trivial
      | 16, _ => exact trivial
      | 17, _ => exact trivial
      | j + 18, _ => exact absurd hl (by simp)
     ·intro done a w1 K hd qd qe qf qb hG hK
      have e7 : a.tmps[7]?.getD undef = .pointer (some ⟨g3, 0, none⟩) := qf 7 rfl
      clear qd qe qf qb
      go_simp
      exact hK _ _ rfl (by simpa [dn] using hG) (fun _ _ _ _ h => h)
     ·intro done a w1 K hd qd qe qf qb hG hK
      have e47 : a.tmps[47]?.getD undef = .pointer (some ⟨g3, 6, none⟩) := qe 5 47 rfl (qb 5 rfl)
      have n17 : done 17 = false := by
       cases h : done 17 with
       | false => rfl
       | true => have := qd 17 6 rfl h; rw [hd] at this; cases this
      obtain ⟨k', l', hb, -, h2⟩ := hG.b
      rw [n17] at h2
      obtain rfl : l' = lv := h2
      have c6 : w1.cell? ⟨g3, 6, none⟩ = some l' := hb.cell 6
      clear qd qe qf qb
      go_simp
      exact hK _ _ rfl (by simpa [dn] using hG) (fun _ _ _ _ h => h)
     ·intro done a w1 K hd qd qe qf qb hG hK
      have e3 : a.tmps[3]?.getD undef = .pointer (some ⟨w.heap.size, 0, none⟩) := qf 3 rfl
      clear qd qe qf qb
      go_simp
      exact hK _ _ rfl (by simpa [dn] using hG) (fun _ _ _ _ h => h)
     ·intro done a w1 K hd qd qe qf qb hG hK
      have e49 : a.tmps[49]?.getD undef = .pointer (some ⟨w.heap.size, 6, none⟩) := qe 7 49 rfl (qb 7 rfl)
      have c6 : w1.cell? ⟨w.heap.size, 6, none⟩ = some (.slice (some ⟨lb, lo, none⟩) rows0.length lc) := (hG.bs _ M0.out).1.cell 6
      clear qd qe qf qb
      go_simp
      exact hK _ _ rfl (by simpa [dn] using hG) (fun _ _ _ _ h => h)
     ·intro done a w1 K hd qd qe qf qb hG hK
      have e9 : a.tmps[9]?.getD undef = .int .i64 n := qf 9 rfl
      clear qd qe qf qb
      go_simp
      exact hK _ _ rfl (by simpa [dn] using hG) (fun _ _ _ _ h => h)
     ·intro done a w1 K hd qd qe qf qb hG hK
      have e50 : a.tmps[50]?.getD undef = .slice (some ⟨lb, lo, none⟩) rows0.length lc := qe 8 50 rfl (qb 8 rfl)
      have e51 : a.tmps[51]?.getD undef = .int .i64 n := qe 9 51 rfl (qb 9 rfl)
      clear qd qe qf qb
      go_simp
      exact hK _ _ rfl (by simpa [dn] using hG) (fun _ _ _ _ h => h)
     ·intro done a w1 K hd qd qe qf qb hG hK
      have e52 : a.tmps[52]?.getD undef = .pointer (some ⟨lb, lo + n * 7, none⟩) := qe 10 52 rfl (qb 10 rfl)
      refine if_wanted rfl ?_
      refine wp_loadAgg agg26 rfl (by simpa [Act.eval] using e52) (HLC.chg hG.chg id) hrl ?_
      exact hK _ _ rfl (by simpa [dn] using hG) (fun _ _ _ _ h => h)
     ·intro done a w1 K hd qd qe qf qb hG hK
      have e53 : a.tmps[53]?.getD undef = .agg (cells7 rk rb ri rf rt rkv rlv).toArray := qe 11 53 rfl (qb 11 rfl)
      clear qd qe qf qb
      unfold cells7 at e53
      go_simp
      refine hK _ _ ⟨_, rfl, hG.hlo, Blk.new _ (cells7 rk rb ri rf rt rkv rlv) _⟩ (by simpa [dn] using hG.chgNo ((Chg.refl _ _).alloc _)) (fun _ _ _ _ h => h.keepNo ((Chg.refl _ _).alloc _))
     ·intro done a w1 K hd qd qe qf qb hG hK
      have e48 : a.tmps[48]?.getD undef = lv := qe 6 48 rfl (qb 6 rfl)
      obtain ⟨t, e54, hlt, hbt⟩ := qe 12 54 rfl (qb 12 rfl)
      have n15 : done 15 = false := by
       cases h : done 15 with
       | false => rfl
       | true => have := qd 15 13 rfl h; rw [hd] at this; cases this
      have n17 : done 17 = false := by
       cases h : done 17 with
       | false => rfl
       | true => have := qd 17 13 rfl h; rw [hd] at this; cases this
      rw [n15, n17] at hG
      refine if_wanted rfl ?_
      refine wp_appendRows elem24 rfl (by simpa [Act.eval] using e48) hG.cl (by simpa [Act.eval] using e54) (hbt.row1 rfl) (by intro r hr; obtain rfl := List.mem_singleton.1 hr; exact HV9.out.one) (by simp only [List.length_singleton]; have := hlen; have := HI.out.rv.1; omega) (by decide) (Nat.le_trans hG.bb hG.hlo) fun v' w' hO hC hB hOld => ?_
      have hC2 := hG.ck.chg hC (fun k hk hk2 => hG.cl.apart hG.ck (by decide) hk2 hk)
      refine hK v' w' hO (by simpa [dn, n15, n17] using hG.app hC (fun k hk => (hG.cl.elem hk).1) hC2 hOld) ?_
      refine fun j hj _ u hu => hu.keep hC (safe_of (i := 13) (fun j hl hj => ?_) j hj)
      match j, hj with
      | 0, _ => exact trivial
      | 1, _ => exact trivial
      | 2, _ => exact trivial
      | 3, _ => exact fun k hk => hG.llo k hk
      | 4, _ => exact fun k hk _ => hG.cl.notElem (by decide) hk
      | 5, _ => exact trivial
      | 6, _ => exact trivial
      | 7, _ => exact trivial
      | 8, _ => exact trivial
      | 9, _ => exact trivial
      | 10, _ => exact trivial
      | 11, _ => exact trivial
      | 12, _ => exact fun k hk => hG.llo k hk
      | 13, hj => exact absurd rfl hj
      | 14, _ => exact trivial
      | 15, _ => exact trivial
      | 16, _ => exact trivial
      | 17, _ => exact trivial
      | j + 18, _ => exact absurd hl (by simp)
     ·intro done a w1 K hd qd qe qf qb hG hK
      have e7 : a.tmps[7]?.getD undef = .pointer (some ⟨g3, 0, none⟩) := qf 7 rfl
      clear qd qe qf qb
      go_simp
      exact hK _ _ rfl (by simpa [dn] using hG) (fun _ _ _ _ h => h)
     ·intro done a w1 K hd qd qe qf qb hG hK
      have e56 : a.tmps[56]?.getD undef = .pointer (some ⟨g3, 5, none⟩) := qe 14 56 rfl (qb 14 rfl)
      have hO := qe 4 46 rfl (qb 4 rfl)
      obtain ⟨sa, sn, sc, hv⟩ := OwnR.slice hO
      rw [hd] at hG
      obtain ⟨k', l', hb, -, -⟩ := hG.b
      have c5 : w1.cell? ⟨g3, 5, none⟩ = some k' := hb.cell 5
      have f5 : w1.frozen? ⟨g3, 5, none⟩ = false := hb.frozen 5
      change OwnR _ _ _ _ _ _ at hO
      rw [hv] at hO
      have e46 := hv
      obtain ⟨hG2, hC⟩ := hG.store5 hO
      have HK2 := Hd hG2
      have HC2 := Hd hC
      have hgb := hG.gb
      have hgl := Nat.lt_of_lt_of_le hG.gb hG.bb
      clear qd qe qf qb
      clear hv hG hO hG2 hC
      go_simp
      refine hK undef _ trivial (by simpa [dn] using HK2.out) ?_
      have hC := HC2.out
      refine fun j hj _ u hu => hu.keep hC (safe_of (i := 15) (fun j hl hj => ?_) j hj)
      match j, hj with
      | 0, _ => exact trivial
      | 1, _ => exact trivial
      | 2, _ => exact trivial
      | 3, _ => exact fun k hk => by omega
      | 4, _ => exact fun k hk hb => by omega
      | 5, _ => exact trivial
      | 6, _ => exact trivial
      | 7, _ => exact trivial
      | 8, _ => exact trivial
      | 9, _ => exact trivial
      | 10, _ => exact trivial
      | 11, _ => exact trivial
      | 12, _ => exact fun k hk => by omega
      | 13, _ => exact fun k hk hb => by omega
      | 14, _ => exact trivial
      | 15, hj => exact absurd rfl hj
      | 16, _ => exact trivial
      | 17, _ => exact trivial
      | j + 18, _ => exact absurd hl (by simp)
     ·intro done a w1 K hd qd qe qf qb hG hK
      have e7 : a.tmps[7]?.getD undef = .pointer (some ⟨g3, 0, none⟩) := qf 7 rfl
      clear qd qe qf qb
      go_simp
      exact hK _ _ rfl (by simpa [dn] using hG) (fun _ _ _ _ h => h)
     ·intro done a w1 K hd qd qe qf qb hG hK
      have e57 : a.tmps[57]?.getD undef = .pointer (some ⟨g3, 6, none⟩) := qe 16 57 rfl (qb 16 rfl)
      have hO := qe 13 55 rfl (qb 13 rfl)
      obtain ⟨sa, sn, sc, hv⟩ := OwnR.slice hO
      rw [hd] at hG
      obtain ⟨k', l', hb, -, -⟩ := hG.b
      have c5 : w1.cell? ⟨g3, 6, none⟩ = some l' := hb.cell 6
      have f5 : w1.frozen? ⟨g3, 6, none⟩ = false := hb.frozen 6
      change OwnR _ _ _ _ _ _ at hO
      rw [hv] at hO
      have e55 := hv
      obtain ⟨hG2, hC⟩ := hG.store6 hO
      have HK2 := Hd hG2
      have HC2 := Hd hC
      have hgb := hG.gb
      have hgl := Nat.lt_of_lt_of_le hG.gb hG.bb
      clear qd qe qf qb
      clear hv hG hO hG2 hC
      go_simp
      refine hK undef _ trivial (by simpa [dn] using HK2.out) ?_
      have hC := HC2.out
      refine fun j hj _ u hu => hu.keep hC (safe_of (i := 17) (fun j hl hj => ?_) j hj)
      match j, hj with
      | 0, _ => exact trivial
      | 1, _ => exact trivial
      | 2, _ => exact trivial
      | 3, _ => exact fun k hk => by omega
      | 4, _ => exact fun k hk hb => by omega
      | 5, _ => exact trivial
      | 6, _ => exact trivial
      | 7, _ => exact trivial
      | 8, _ => exact trivial
      | 9, _ => exact trivial
      | 10, _ => exact trivial
      | 11, _ => exact trivial
      | 12, _ => exact fun k hk => by omega
      | 13, _ => exact fun k hk hb => by omega
      | 14, _ => exact trivial
      | 15, _ => exact trivial
      | 16, _ => exact trivial
      | 17, hj => exact absurd rfl hj
      | j + 18, _ => exact absurd hl (by simp)
    ·intro vs w2 hvs _ hG
     obtain ⟨k9, l9, h9⟩ := OutMid.out hG HI.out.rv HV9.out
     have H9 := Hd h9
     clear h9 hG hvs
     simp only [putAll, Act.put, List.setIfInBounds_toArray, List.set_cons_succ, List.set_cons_zero]
     go_wp2_with fail
     go_roundw
     case rel => exact ⟨n + 1, true, acc ++ [p], rows ++ [(cells7 rk rb ri rf rt rkv rlv)], k9, l9, by omega, rfl, by go_num, HA2.out, H9.out⟩
     case measure => simp [intOf]; omega
   | false =>
    by_cases hk : klt p.1 key
    ·have hbl : Op.bytesLess p.1.toList key.toList = true := by rw [bytesLess_klt]; simpa using hk
     obtain ⟨hpk, hA2⟩ := HA.out.stepB HP.out hk
     have hpb : (p.1.toList == key.toList) = false := by rw [toList_beq]; simpa using hpk
     have HA2 := Hd hA2
     clear hpk hA2 hk
     go_wp2_with fail
     refine wp_region_inv (FI [.eq (.pointer (some ⟨g3, 5, none⟩)), .eq kv, .eq (.string p.1), .temp wr.heap.size [.string p.1] 9, .own (g3 + 1) 9 1 (keyRows acc ++ [[.string p.1]]), .eq (.pointer (some ⟨g3, 6, none⟩)), .eq lv, .eq (.pointer (some ⟨w.heap.size, 6, none⟩)), .eq (.slice (some ⟨lb, lo, none⟩) rows0.length lc), .eq (.int .i64 n), .eq (.pointer (some ⟨lb, lo + n * 7, none⟩)), .eq (.agg (cells7 rk rb ri rf rt rkv rlv).toArray), .temp wr.heap.size (cells7 rk rb ri rf rt rkv rlv) 26, .own (g3 + 1) 26 7 (rows ++ [(cells7 rk rb ri rf rt rkv rlv)]), .eq (.pointer (some ⟨g3, 5, none⟩)), .any, .eq (.pointer (some ⟨g3, 6, none⟩)), .any])
      (fun done w' => OutMid ok w w' wr.heap.size bsl g3 (g3 + 1) acc rows kv lv p.1 (cells7 rk rb ri rf rt rkv rlv) (done 15) (done 17))
      (by kernel_rfl) (by kernel_rfl) (HI.out.mid _ _) ?_ ?_
     ·refine ⟨?_, ?_, ?_, ?_, ?_, ?_, ?_, ?_, ?_, ?_, ?_, ?_, ?_, ?_, ?_, ?_, ?_, ?_, trivial⟩
      ·intro done a w1 K hd qd qe qf qb hG hK
       have e7 : a.tmps[7]?.getD undef = .pointer (some ⟨g3, 0, none⟩) := qf 7 rfl
       clear qd qe qf qb
       go_simp
       exact hK _ _ rfl (by simpa [dn] using hG) (fun _ _ _ _ h => h)
      ·intro done a w1 K hd qd qe qf qb hG hK
       have e42 : a.tmps[42]?.getD undef = .pointer (some ⟨g3, 5, none⟩) := qe 0 42 rfl (qb 0 rfl)
       have n15 : done 15 = false := by
        cases h : done 15 with
        | false => rfl
        | true => have := qd 15 1 rfl h; rw [hd] at this; cases this
       obtain ⟨k', l', hb, h1, -⟩ := hG.b
       rw [n15] at h1
       obtain rfl : k' = kv := h1
       have c5 : w1.cell? ⟨g3, 5, none⟩ = some k' := hb.cell 5
       clear qd qe qf qb
       go_simp
       exact hK _ _ rfl (by simpa [dn] using hG) (fun _ _ _ _ h => h)
      ·intro done a w1 K hd qd qe qf qb hG hK
       have e10 : a.tmps[10]?.getD undef = .string p.1 := qf 10 rfl
       clear qd qe qf qb
       go_simp
       exact hK _ _ rfl (by simpa [dn] using hG) (fun _ _ _ _ h => h)
      ·intro done a w1 K hd qd qe qf qb hG hK
       have e44 : a.tmps[44]?.getD undef = .string p.1 := qe 2 44 rfl (qb 2 rfl)
       clear qd qe qf qb
       go_simp
       refine hK _ _ ⟨_, rfl, hG.hlo, Blk.new _ [.string p.1] _⟩ (by simpa [dn] using hG.chgNo ((Chg.refl _ _).alloc _)) (fun _ _ _ _ h => h.keepNo ((Chg.refl _ _).alloc _))
      ·intro done a w1 K hd qd qe qf qb hG hK
       have e43 : a.tmps[43]?.getD undef = kv := qe 1 43 rfl (qb 1 rfl)
       obtain ⟨t, e45, hlt, hbt⟩ := qe 3 45 rfl (qb 3 rfl)
       have n15 : done 15 = false := by
        cases h : done 15 with
        | false => rfl
        | true => have := qd 15 4 rfl h; rw [hd] at this; cases this
       have n17 : done 17 = false := by
        cases h : done 17 with
        | false => rfl
        | true => have := qd 17 4 rfl h; rw [hd] at this; cases this
       rw [n15, n17] at hG
       refine if_wanted rfl ?_
       refine wp_appendRows elem23 rfl (by simpa [Act.eval] using e43) hG.ck (by simpa [Act.eval] using e45) (hbt.row1 rfl) (by simp [Value.oneCell']) (by simp only [keyRows, List.length_map, List.length_singleton]; have := hlen; omega) (by decide) (Nat.le_trans hG.bb hG.hlo) fun v' w' hO hC hB hOld => ?_
       have hC2 := hG.cl.chg hC (fun k hk hk2 => hG.ck.apart hG.cl (by decide) hk2 hk)
       refine hK v' w' hO (by simpa [dn, n15, n17] using hG.app hC (fun k hk => (hG.ck.elem hk).1) hOld hC2) ?_
       refine fun j hj _ u hu => hu.keep hC (safe_of (i := 4) (fun j hl hj => ?_) j hj)
       match j, hj with
       | 0, _ => exact trivial
       | 1, _ => exact trivial
       | 2, _ => exact trivial
       | 3, _ => exact fun k hk => hG.klo k hk
       | 4, hj => exact absurd rfl hj
       | 5, _ => exact trivial
       | 6, _ => exact trivial
       | 7, _ => exact trivial
       | 8, _ => exact trivial
       | 9, _ => exact trivial
       | 10, _ => exact trivial
       | 11, _ => exact trivial
       | 12, _ => exact fun k hk => hG.klo k hk
       | 13, _ => exact fun k hk _ => hG.ck.notElem (by decide) hk
       | 14, _ => exact trivial
       | 15, _ => exact trivial
       | 16, _ => exact trivial
       | 17, _ => exact trivial
       | j + 18, _ => exact absurd hl (by simp)
      ·intro done a w1 K hd qd qe qf qb hG hK
       have e7 : a.tmps[7]?.getD undef = .pointer (some ⟨g3, 0, none⟩) := qf 7 rfl
       clear qd qe qf qb
       go_simp
       exact hK _ _ rfl (by simpa [dn] using hG) (fun _ _ _ _ h => h)
      ·intro done a w1 K hd qd qe qf qb hG hK
       have e47 : a.tmps[47]?.getD undef = .pointer (some ⟨g3, 6, none⟩) := qe 5 47 rfl (qb 5 rfl)
       have n17 : done 17 = false := by
        cases h : done 17 with
        | false => rfl
        | true => have := qd 17 6 rfl h; rw [hd] at this; cases this
       obtain ⟨k', l', hb, -, h2⟩ := hG.b
       rw [n17] at h2
       obtain rfl : l' = lv := h2
       have c6 : w1.cell? ⟨g3, 6, none⟩ = some l' := hb.cell 6
       clear qd qe qf qb
       go_simp
       exact hK _ _ rfl (by simpa [dn] using hG) (fun _ _ _ _ h => h)
      ·intro done a w1 K hd qd qe qf qb hG hK
       have e3 : a.tmps[3]?.getD undef = .pointer (some ⟨w.heap.size, 0, none⟩) := qf 3 rfl
       clear qd qe qf qb
       go_simp
       exact hK _ _ rfl (by simpa [dn] using hG) (fun _ _ _ _ h => h)
      ·intro done a w1 K hd qd qe qf qb hG hK
       have e49 : a.tmps[49]?.getD undef = .pointer (some ⟨w.heap.size, 6, none⟩) := qe 7 49 rfl (qb 7 rfl)
       have c6 : w1.cell? ⟨w.heap.size, 6, none⟩ = some (.slice (some ⟨lb, lo, none⟩) rows0.length lc) := (hG.bs _ M0.out).1.cell 6
       clear qd qe qf qb
       go_simp
       exact hK _ _ rfl (by simpa [dn] using hG) (fun _ _ _ _ h => h)
      ·intro done a w1 K hd qd qe qf qb hG hK
       have e9 : a.tmps[9]?.getD undef = .int .i64 n := qf 9 rfl
       clear qd qe qf qb
       go_simp
       exact hK _ _ rfl (by simpa [dn] using hG) (fun _ _ _ _ h => h)
      ·intro done a w1 K hd qd qe qf qb hG hK
       have e50 : a.tmps[50]?.getD undef = .slice (some ⟨lb, lo, none⟩) rows0.length lc := qe 8 50 rfl (qb 8 rfl)
       have e51 : a.tmps[51]?.getD undef = .int .i64 n := qe 9 51 rfl (qb 9 rfl)
       clear qd qe qf qb
       go_simp
       exact hK _ _ rfl (by simpa [dn] using hG) (fun _ _ _ _ h => h)
      ·intro done a w1 K hd qd qe qf qb hG hK
       have e52 : a.tmps[52]?.getD undef = .pointer (some ⟨lb, lo + n * 7, none⟩) := qe 10 52 rfl (qb 10 rfl)
       refine if_wanted rfl ?_
       refine wp_loadAgg agg26 rfl (by simpa [Act.eval] using e52) (HLC.chg hG.chg id) hrl ?_
       exact hK _ _ rfl (by simpa [dn] using hG) (fun _ _ _ _ h => h)
      ·intro done a w1 K hd qd qe qf qb hG hK
       have e53 : a.tmps[53]?.getD undef = .agg (cells7 rk rb ri rf rt rkv rlv).toArray := qe 11 53 rfl (qb 11 rfl)
       clear qd qe qf qb
       unfold cells7 at e53
       go_simp
       refine hK _ _ ⟨_, rfl, hG.hlo, Blk.new _ (cells7 rk rb ri rf rt rkv rlv) _⟩ (by simpa [dn] using hG.chgNo ((Chg.refl _ _).alloc _)) (fun _ _ _ _ h => h.keepNo ((Chg.refl _ _).alloc _))
      ·intro done a w1 K hd qd qe qf qb hG hK
       have e48 : a.tmps[48]?.getD undef = lv := qe 6 48 rfl (qb 6 rfl)
       obtain ⟨t, e54, hlt, hbt⟩ := qe 12 54 rfl (qb 12 rfl)
       have n15 : done 15 = false := by
        cases h : done 15 with
        | false => rfl
        | true => have := qd 15 13 rfl h; rw [hd] at this; cases this
       have n17 : done 17 = false := by
        cases h : done 17 with
        | false => rfl
        | true => have := qd 17 13 rfl h; rw [hd] at this; cases this
       rw [n15, n17] at hG
       refine if_wanted rfl ?_
       refine wp_appendRows elem24 rfl (by simpa [Act.eval] using e48) hG.cl (by simpa [Act.eval] using e54) (hbt.row1 rfl) (by intro r hr; obtain rfl := List.mem_singleton.1 hr; exact HV9.out.one) (by simp only [List.length_singleton]; have := hlen; have := HI.out.rv.1; omega) (by decide) (Nat.le_trans hG.bb hG.hlo) fun v' w' hO hC hB hOld => ?_
       have hC2 := hG.ck.chg hC (fun k hk hk2 => hG.cl.apart hG.ck (by decide) hk2 hk)
       refine hK v' w' hO (by simpa [dn, n15, n17] using hG.app hC (fun k hk => (hG.cl.elem hk).1) hC2 hOld) ?_
       refine fun j hj _ u hu => hu.keep hC (safe_of (i := 13) (fun j hl hj => ?_) j hj)
       match j, hj with
       | 0, _ => exact trivial
       | 1, _ => exact trivial
       | 2, _ => exact trivial
       | 3, _ => exact fun k hk => hG.llo k hk
       | 4, _ => exact fun k hk _ => hG.cl.notElem (by decide) hk
       | 5, _ => exact trivial
       | 6, _ => exact trivial
       | 7, _ => exact trivial
       | 8, _ => exact trivial
       | 9, _ => exact trivial
       | 10, _ => exact trivial
       | 11, _ => exact trivial
       | 12, _ => exact fun k hk => hG.llo k hk
       | 13, hj => exact absurd rfl hj
       | 14, _ => exact trivial
       | 15, _ => exact trivial
       | 16, _ => exact trivial
       | 17, _ => exact trivial
       | j + 18, _ => exact absurd hl (by simp)
      ·intro done a w1 K hd qd qe qf qb hG hK
       have e7 : a.tmps[7]?.getD undef = .pointer (some ⟨g3, 0, none⟩) := qf 7 rfl
       clear qd qe qf qb
       go_simp
       exact hK _ _ rfl (by simpa [dn] using hG) (fun _ _ _ _ h => h)
      ·intro done a w1 K hd qd qe qf qb hG hK
       have e56 : a.tmps[56]?.getD undef = .pointer (some ⟨g3, 5, none⟩) := qe 14 56 rfl (qb 14 rfl)
       have hO := qe 4 46 rfl (qb 4 rfl)
       obtain ⟨sa, sn, sc, hv⟩ := OwnR.slice hO
       rw [hd] at hG
       obtain ⟨k', l', hb, -, -⟩ := hG.b
       have c5 : w1.cell? ⟨g3, 5, none⟩ = some k' := hb.cell 5
       have f5 : w1.frozen? ⟨g3, 5, none⟩ = false := hb.frozen 5
       change OwnR _ _ _ _ _ _ at hO
       rw [hv] at hO
       have e46 := hv
       obtain ⟨hG2, hC⟩ := hG.store5 hO
       have HK2 := Hd hG2
       have HC2 := Hd hC
       have hgb := hG.gb
       have hgl := Nat.lt_of_lt_of_le hG.gb hG.bb
       clear qd qe qf qb
       clear hv hG hO hG2 hC
       go_simp
       refine hK undef _ trivial (by simpa [dn] using HK2.out) ?_
       have hC := HC2.out
       refine fun j hj _ u hu => hu.keep hC (safe_of (i := 15) (fun j hl hj => ?_) j hj)
       match j, hj with
       | 0, _ => exact trivial
       | 1, _ => exact trivial
       | 2, _ => exact trivial
       | 3, _ => exact fun k hk => by omega
       | 4, _ => exact fun k hk hb => by omega
       | 5, _ => exact trivial
       | 6, _ => exact trivial
       | 7, _ => exact trivial
       | 8, _ => exact trivial
       | 9, _ => exact trivial
       | 10, _ => exact trivial
       | 11, _ => exact trivial
       | 12, _ => exact fun k hk => by omega
       | 13, _ => exact fun k hk hb => by omega
       | 14, _ => exact trivial
       | 15, hj => exact absurd rfl hj
       | 16, _ => exact trivial
       | 17, _ => exact trivial
       | j + 18, _ => exact absurd hl (by simp)
      ·intro done a w1 K hd qd qe qf qb hG hK
       have e7 : a.tmps[7]?.getD undef = .pointer (some ⟨g3, 0, none⟩) := qf 7 rfl
       clear qd qe qf qb
       go_simp
       exact hK _ _ rfl (by simpa [dn] using hG) (fun _ _ _ _ h => h)
      ·intro done a w1 K hd qd qe qf qb hG hK
       have e57 : a.tmps[57]?.getD undef = .pointer (some ⟨g3, 6, none⟩) := qe 16 57 rfl (qb 16 rfl)
       have hO := qe 13 55 rfl (qb 13 rfl)
       obtain ⟨sa, sn, sc, hv⟩ := OwnR.slice hO
       rw [hd] at hG
       obtain ⟨k', l', hb, -, -⟩ := hG.b
       have c5 : w1.cell? ⟨g3, 6, none⟩ = some l' := hb.cell 6
       have f5 : w1.frozen? ⟨g3, 6, none⟩ = false := hb.frozen 6
       change OwnR _ _ _ _ _ _ at hO
       rw [hv] at hO
       have e55 := hv
       obtain ⟨hG2, hC⟩ := hG.store6 hO
       have HK2 := Hd hG2
       have HC2 := Hd hC
       have hgb := hG.gb
       have hgl := Nat.lt_of_lt_of_le hG.gb hG.bb
       clear qd qe qf qb
       clear hv hG hO hG2 hC
       go_simp
       refine hK undef _ trivial (by simpa [dn] using HK2.out) ?_
       have hC := HC2.out
       refine fun j hj _ u hu => hu.keep hC (safe_of (i := 17) (fun j hl hj => ?_) j hj)
       match j, hj with
       | 0, _ => exact trivial
       | 1, _ => exact trivial
       | 2, _ => exact trivial
       | 3, _ => exact fun k hk => by omega
       | 4, _ => exact fun k hk hb => by omega
       | 5, _ => exact trivial
       | 6, _ => exact trivial
       | 7, _ => exact trivial
       | 8, _ => exact trivial
       | 9, _ => exact trivial
       | 10, _ => exact trivial
       | 11, _ => exact trivial
       | 12, _ => exact fun k hk => by omega
       | 13, _ => exact fun k hk hb => by omega
       | 14, _ => exact trivial
       | 15, _ => exact trivial
       | 16, _ => exact trivial
       | 17, hj => exact absurd rfl hj
       | j + 18, _ => exact absurd hl (by simp)
     ·intro vs w2 hvs _ hG
      obtain ⟨k9, l9, h9⟩ := OutMid.out hG HI.out.rv HV9.out
      have H9 := Hd h9
      clear h9 hG hvs
      simp only [putAll, Act.put, List.setIfInBounds_toArray, List.set_cons_succ, List.set_cons_zero]
      go_wp2_with fail
      go_roundw
      case rel => exact ⟨n + 1, false, acc ++ [p], rows ++ [(cells7 rk rb ri rf rt rkv rlv)], k9, l9, by omega, rfl, by go_num, HA2.out, H9.out⟩
      case measure => simp [intOf]; omega
    ·have hbl : Op.bytesLess p.1.toList key.toList = false := by rw [bytesLess_klt]; simpa using hk
     have hA2 := HA.out.stepC HP.out hk
     have hlen2 : acc.length ≤ n := by obtain ⟨e, -⟩ := HA.out.acc0 rfl; rw [e]; exact List.length_take_le _ _
     clear hk
     have HA2 := Hd hA2
     clear hA2
     go_wp2_with fail
     refine wp_region_inv (FI [.eq (.pointer (some ⟨g3, 5, none⟩)), .eq kv, .eq (.string key), .temp wr.heap.size [.string key] 9, .own (g3 + 1) 9 1 (keyRows acc ++ [[.string key]]), .eq (.pointer (some ⟨g3, 6, none⟩)), .eq lv, .eq (.agg (cells7 vk vb vi vf vt vkv vlv).toArray), .temp wr.heap.size (cells7 vk vb vi vf vt vkv vlv) 26, .own (g3 + 1) 26 7 (rows ++ [(cells7 vk vb vi vf vt vkv vlv)]), .eq (.pointer (some ⟨g3, 5, none⟩)), .any, .eq (.pointer (some ⟨g3, 6, none⟩)), .any, .eq (.bool true)])
      (fun done w' => OutMid ok w w' wr.heap.size bsl g3 (g3 + 1) acc rows kv lv key (cells7 vk vb vi vf vt vkv vlv) (done 11) (done 13))
      (by kernel_rfl) (by kernel_rfl) (HI.out.mid _ _) ?_ ?_
     ·refine ⟨?_, ?_, ?_, ?_, ?_, ?_, ?_, ?_, ?_, ?_, ?_, ?_, ?_, ?_, ?_, trivial⟩
      ·intro done a w1 K hd qd qe qf qb hG hK
       have e7 : a.tmps[7]?.getD undef = .pointer (some ⟨g3, 0, none⟩) := qf 7 rfl
       clear qd qe qf qb
       go_simp
       exact hK _ _ rfl (by simpa [dn] using hG) (fun _ _ _ _ h => h)
      ·intro done a w1 K hd qd qe qf qb hG hK
       have e27 : a.tmps[27]?.getD undef = .pointer (some ⟨g3, 5, none⟩) := qe 0 27 rfl (qb 0 rfl)
       have n11 : done 11 = false := by
        cases h : done 11 with
        | false => rfl
        | true => have := qd 11 1 rfl h; rw [hd] at this; cases this
       obtain ⟨k', l', hb, h1, -⟩ := hG.b
       rw [n11] at h1
       obtain rfl : k' = kv := h1
       have c5 : w1.cell? ⟨g3, 5, none⟩ = some k' := hb.cell 5
       clear qd qe qf qb
       go_simp
       exact hK _ _ rfl (by simpa [dn] using hG) (fun _ _ _ _ h => h)
      ·intro done a w1 K hd qd qe qf qb hG hK
       have e1 : a.tmps[1]?.getD undef = .string key := qf 1 rfl
       clear qd qe qf qb
       go_simp
       exact hK _ _ rfl (by simpa [dn] using hG) (fun _ _ _ _ h => h)
      ·intro done a w1 K hd qd qe qf qb hG hK
       have e29 : a.tmps[29]?.getD undef = .string key := qe 2 29 rfl (qb 2 rfl)
       clear qd qe qf qb
       go_simp
       refine hK _ _ ⟨_, rfl, hG.hlo, Blk.new _ [.string key] _⟩ (by simpa [dn] using hG.chgNo ((Chg.refl _ _).alloc _)) (fun _ _ _ _ h => h.keepNo ((Chg.refl _ _).alloc _))
      ·intro done a w1 K hd qd qe qf qb hG hK
       have e28 : a.tmps[28]?.getD undef = kv := qe 1 28 rfl (qb 1 rfl)
       obtain ⟨t, e30, hlt, hbt⟩ := qe 3 30 rfl (qb 3 rfl)
       have n11 : done 11 = false := by
        cases h : done 11 with
        | false => rfl
        | true => have := qd 11 4 rfl h; rw [hd] at this; cases this
       have n13 : done 13 = false := by
        cases h : done 13 with
        | false => rfl
        | true => have := qd 13 4 rfl h; rw [hd] at this; cases this
       rw [n11, n13] at hG
       refine if_wanted rfl ?_
       refine wp_appendRows elem23 rfl (by simpa [Act.eval] using e28) hG.ck (by simpa [Act.eval] using e30) (hbt.row1 rfl) (by simp [Value.oneCell']) (by simp only [keyRows, List.length_map, List.length_singleton]; have := hlen; omega) (by decide) (Nat.le_trans hG.bb hG.hlo) fun v' w' hO hC hB hOld => ?_
       have hC2 := hG.cl.chg hC (fun k hk hk2 => hG.ck.apart hG.cl (by decide) hk2 hk)
       refine hK v' w' hO (by simpa [dn, n11, n13] using hG.app hC (fun k hk => (hG.ck.elem hk).1) hOld hC2) ?_
       refine fun j hj _ u hu => hu.keep hC (safe_of (i := 4) (fun j hl hj => ?_) j hj)
       match j, hj with
       | 0, _ => exact trivial
       | 1, _ => exact trivial
       | 2, _ => exact trivial
       | 3, _ => exact fun k hk => hG.klo k hk
       | 4, hj => exact absurd rfl hj
       | 5, _ => exact trivial
       | 6, _ => exact trivial
       | 7, _ => exact trivial
       | 8, _ => exact fun k hk => hG.klo k hk
       | 9, _ => exact fun k hk _ => hG.ck.notElem (by decide) hk
       | 10, _ => exact trivial
       | 11, _ => exact trivial
       | 12, _ => exact trivial
       | 13, _ => exact trivial
       | 14, _ => exact trivial
       | j + 15, _ => exact absurd hl (by simp)
      ·intro done a w1 K hd qd qe qf qb hG hK
       have e7 : a.tmps[7]?.getD undef = .pointer (some ⟨g3, 0, none⟩) := qf 7 rfl
       clear qd qe qf qb
       go_simp
       exact hK _ _ rfl (by simpa [dn] using hG) (fun _ _ _ _ h => h)
      ·intro done a w1 K hd qd qe qf qb hG hK
       have e32 : a.tmps[32]?.getD undef = .pointer (some ⟨g3, 6, none⟩) := qe 5 32 rfl (qb 5 rfl)
       have n13 : done 13 = false := by
        cases h : done 13 with
        | false => rfl
        | true => have := qd 13 6 rfl h; rw [hd] at this; cases this
       obtain ⟨k', l', hb, -, h2⟩ := hG.b
       rw [n13] at h2
       obtain rfl : l' = lv := h2
       have c6 : w1.cell? ⟨g3, 6, none⟩ = some l' := hb.cell 6
       clear qd qe qf qb
       go_simp
       exact hK _ _ rfl (by simpa [dn] using hG) (fun _ _ _ _ h => h)
      ·intro done a w1 K hd qd qe qf qb hG hK
       have e5 : a.tmps[5]?.getD undef = .pointer (some ⟨g1, 0, none⟩) := qf 5 rfl
       have hb1 : Blk w1 g1 (cells7 vk vb vi vf vt vkv vlv) 26 := (hG.bs _ M1.out).1
       refine if_wanted rfl ?_
       refine wp_loadAgg agg26 rfl (by simpa [Act.eval] using e5) hb1.cells rfl ?_
       exact hK _ _ rfl (by simpa [dn] using hG) (fun _ _ _ _ h => h)
      ·intro done a w1 K hd qd qe qf qb hG hK
       have e34 : a.tmps[34]?.getD undef = .agg (cells7 vk vb vi vf vt vkv vlv).toArray := qe 7 34 rfl (qb 7 rfl)
       clear qd qe qf qb
       unfold cells7 at e34
       go_simp
       refine hK _ _ ⟨_, rfl, hG.hlo, Blk.new _ (cells7 vk vb vi vf vt vkv vlv) _⟩ (by simpa [dn] using hG.chgNo ((Chg.refl _ _).alloc _)) (fun _ _ _ _ h => h.keepNo ((Chg.refl _ _).alloc _))
      ·intro done a w1 K hd qd qe qf qb hG hK
       have e33 : a.tmps[33]?.getD undef = lv := qe 6 33 rfl (qb 6 rfl)
       obtain ⟨t, e35, hlt, hbt⟩ := qe 8 35 rfl (qb 8 rfl)
       have n11 : done 11 = false := by
        cases h : done 11 with
        | false => rfl
        | true => have := qd 11 9 rfl h; rw [hd] at this; cases this
       have n13 : done 13 = false := by
        cases h : done 13 with
        | false => rfl
        | true => have := qd 13 9 rfl h; rw [hd] at this; cases this
       rw [n11, n13] at hG
       refine if_wanted rfl ?_
       refine wp_appendRows elem24 rfl (by simpa [Act.eval] using e33) hG.cl (by simpa [Act.eval] using e35) (hbt.row1 rfl) (by intro r hr; obtain rfl := List.mem_singleton.1 hr; exact HV.out.one) (by simp only [List.length_singleton]; have := hlen; have := HI.out.rv.1; omega) (by decide) (Nat.le_trans hG.bb hG.hlo) fun v' w' hO hC hB hOld => ?_
       have hC2 := hG.ck.chg hC (fun k hk hk2 => hG.cl.apart hG.ck (by decide) hk2 hk)
       refine hK v' w' hO (by simpa [dn, n11, n13] using hG.app hC (fun k hk => (hG.cl.elem hk).1) hC2 hOld) ?_
       refine fun j hj _ u hu => hu.keep hC (safe_of (i := 9) (fun j hl hj => ?_) j hj)
       match j, hj with
       | 0, _ => exact trivial
       | 1, _ => exact trivial
       | 2, _ => exact trivial
       | 3, _ => exact fun k hk => hG.llo k hk
       | 4, _ => exact fun k hk _ => hG.cl.notElem (by decide) hk
       | 5, _ => exact trivial
       | 6, _ => exact trivial
       | 7, _ => exact trivial
       | 8, _ => exact fun k hk => hG.llo k hk
       | 9, hj => exact absurd rfl hj
       | 10, _ => exact trivial
       | 11, _ => exact trivial
       | 12, _ => exact trivial
       | 13, _ => exact trivial
       | 14, _ => exact trivial
       | j + 15, _ => exact absurd hl (by simp)
      ·intro done a w1 K hd qd qe qf qb hG hK
       have e7 : a.tmps[7]?.getD undef = .pointer (some ⟨g3, 0, none⟩) := qf 7 rfl
       clear qd qe qf qb
       go_simp
       exact hK _ _ rfl (by simpa [dn] using hG) (fun _ _ _ _ h => h)
      ·intro done a w1 K hd qd qe qf qb hG hK
       have e37 : a.tmps[37]?.getD undef = .pointer (some ⟨g3, 5, none⟩) := qe 10 37 rfl (qb 10 rfl)
       have hO := qe 4 31 rfl (qb 4 rfl)
       obtain ⟨sa, sn, sc, hv⟩ := OwnR.slice hO
       rw [hd] at hG
       obtain ⟨k', l', hb, -, -⟩ := hG.b
       have c5 : w1.cell? ⟨g3, 5, none⟩ = some k' := hb.cell 5
       have f5 : w1.frozen? ⟨g3, 5, none⟩ = false := hb.frozen 5
       change OwnR _ _ _ _ _ _ at hO
       rw [hv] at hO
       have e31 := hv
       obtain ⟨hG2, hC⟩ := hG.store5 hO
       have HK2 := Hd hG2
       have HC2 := Hd hC
       have hgb := hG.gb
       have hgl := Nat.lt_of_lt_of_le hG.gb hG.bb
       clear qd qe qf qb
       clear hv hG hO hG2 hC
       go_simp
       refine hK undef _ trivial (by simpa [dn] using HK2.out) ?_
       have hC := HC2.out
       refine fun j hj _ u hu => hu.keep hC (safe_of (i := 11) (fun j hl hj => ?_) j hj)
       match j, hj with
       | 0, _ => exact trivial
       | 1, _ => exact trivial
       | 2, _ => exact trivial
       | 3, _ => exact fun k hk => by omega
       | 4, _ => exact fun k hk hb => by omega
       | 5, _ => exact trivial
       | 6, _ => exact trivial
       | 7, _ => exact trivial
       | 8, _ => exact fun k hk => by omega
       | 9, _ => exact fun k hk hb => by omega
       | 10, _ => exact trivial
       | 11, hj => exact absurd rfl hj
       | 12, _ => exact trivial
       | 13, _ => exact trivial
       | 14, _ => exact trivial
       | j + 15, _ => exact absurd hl (by simp)
      ·intro done a w1 K hd qd qe qf qb hG hK
       have e7 : a.tmps[7]?.getD undef = .pointer (some ⟨g3, 0, none⟩) := qf 7 rfl
       clear qd qe qf qb
       go_simp
       exact hK _ _ rfl (by simpa [dn] using hG) (fun _ _ _ _ h => h)
      ·intro done a w1 K hd qd qe qf qb hG hK
       have e38 : a.tmps[38]?.getD undef = .pointer (some ⟨g3, 6, none⟩) := qe 12 38 rfl (qb 12 rfl)
       have hO := qe 9 36 rfl (qb 9 rfl)
       obtain ⟨sa, sn, sc, hv⟩ := OwnR.slice hO
       rw [hd] at hG
       obtain ⟨k', l', hb, -, -⟩ := hG.b
       have c5 : w1.cell? ⟨g3, 6, none⟩ = some l' := hb.cell 6
       have f5 : w1.frozen? ⟨g3, 6, none⟩ = false := hb.frozen 6
       change OwnR _ _ _ _ _ _ at hO
       rw [hv] at hO
       have e36 := hv
       obtain ⟨hG2, hC⟩ := hG.store6 hO
       have HK2 := Hd hG2
       have HC2 := Hd hC
       have hgb := hG.gb
       have hgl := Nat.lt_of_lt_of_le hG.gb hG.bb
       clear qd qe qf qb
       clear hv hG hO hG2 hC
       go_simp
       refine hK undef _ trivial (by simpa [dn] using HK2.out) ?_
       have hC := HC2.out
       refine fun j hj _ u hu => hu.keep hC (safe_of (i := 13) (fun j hl hj => ?_) j hj)
       match j, hj with
       | 0, _ => exact trivial
       | 1, _ => exact trivial
       | 2, _ => exact trivial
       | 3, _ => exact fun k hk => by omega
       | 4, _ => exact fun k hk hb => by omega
       | 5, _ => exact trivial
       | 6, _ => exact trivial
       | 7, _ => exact trivial
       | 8, _ => exact fun k hk => by omega
       | 9, _ => exact fun k hk hb => by omega
       | 10, _ => exact trivial
       | 11, _ => exact trivial
       | 12, _ => exact trivial
       | 13, hj => exact absurd rfl hj
       | 14, _ => exact trivial
       | j + 15, _ => exact absurd hl (by simp)
      ·intro done a w1 K hd qd qe qf qb hG hK
       clear qd qe qf qb
       go_simp
       exact hK _ _ rfl (by simpa [dn] using hG) (fun _ _ _ _ h => h)
     ·intro vs w2 hvs _ hG
      obtain ⟨k7, l7, h7⟩ := OutMid.out hG HI.out.rv HV.out
      have e8 : vs 14 = .bool true := hvs 14 _ rfl (by simp)
      have HI7 := Hd h7
      clear h7 hG hvs
      simp only [putAll, Act.put, List.setIfInBounds_toArray, List.set_cons_succ, List.set_cons_zero, e8]
      by_cases hpk : p.1 = key
      ·have hpb : (p.1.toList == key.toList) = true := by rw [toList_beq]; simpa using hpk
       have HPK := Hd hpk
       clear hpk
       go_wp2_with fail
       go_roundw
       case rel => exact ⟨n + 1, true, acc ++ [(key, x)], rows ++ [(cells7 vk vb vi vf vt vkv vlv)], k7, l7, by omega, rfl, by go_num, by have := HA2.out; rwa [if_pos HPK.out] at this, HI7.out⟩
       case measure => simp [intOf]; omega
      ·have hpb : (p.1.toList == key.toList) = false := by rw [toList_beq]; simpa using hpk
       have HPK := Hd hpk
       clear hpk
       have hlen3 : (acc ++ [(key, x)]).length ≤ n + 1 := by simp; omega
       go_wp2_with fail
       refine wp_region_inv (FI [.eq (.pointer (some ⟨g3, 5, none⟩)), .eq k7, .eq (.string p.1), .temp w2.heap.size [.string p.1] 9, .own (g3 + 1) 9 1 (keyRows (acc ++ [(key, x)]) ++ [[.string p.1]]), .eq (.pointer (some ⟨g3, 6, none⟩)), .eq l7, .eq (.pointer (some ⟨w.heap.size, 6, none⟩)), .eq (.slice (some ⟨lb, lo, none⟩) rows0.length lc), .eq (.int .i64 n), .eq (.pointer (some ⟨lb, lo + n * 7, none⟩)), .eq (.agg (cells7 rk rb ri rf rt rkv rlv).toArray), .temp w2.heap.size (cells7 rk rb ri rf rt rkv rlv) 26, .own (g3 + 1) 26 7 ((rows ++ [(cells7 vk vb vi vf vt vkv vlv)]) ++ [(cells7 rk rb ri rf rt rkv rlv)]), .eq (.pointer (some ⟨g3, 5, none⟩)), .any, .eq (.pointer (some ⟨g3, 6, none⟩)), .any])
        (fun done w' => OutMid ok w w' w2.heap.size bsl g3 (g3 + 1) (acc ++ [(key, x)]) (rows ++ [(cells7 vk vb vi vf vt vkv vlv)]) k7 l7 p.1 (cells7 rk rb ri rf rt rkv rlv) (done 15) (done 17))
        (by kernel_rfl) (by kernel_rfl) (HI7.out.mid _ _) ?_ ?_
       ·refine ⟨?_, ?_, ?_, ?_, ?_, ?_, ?_, ?_, ?_, ?_, ?_, ?_, ?_, ?_, ?_, ?_, ?_, ?_, trivial⟩
        ·intro done a w1 K hd qd qe qf qb hG hK
         have e7 : a.tmps[7]?.getD undef = .pointer (some ⟨g3, 0, none⟩) := qf 7 rfl
         clear qd qe qf qb
         go_simp
         exact hK _ _ rfl (by simpa [dn] using hG) (fun _ _ _ _ h => h)
        ·intro done a w1 K hd qd qe qf qb hG hK
         have e42 : a.tmps[42]?.getD undef = .pointer (some ⟨g3, 5, none⟩) := qe 0 42 rfl (qb 0 rfl)
         have n15 : done 15 = false := by
          cases h : done 15 with
          | false => rfl
          | true => have := qd 15 1 rfl h; rw [hd] at this; cases this
         obtain ⟨k', l', hb, h1, -⟩ := hG.b
         rw [n15] at h1
         obtain rfl : k' = k7 := h1
         have c5 : w1.cell? ⟨g3, 5, none⟩ = some k' := hb.cell 5
         clear qd qe qf qb
         go_simp
         exact hK _ _ rfl (by simpa [dn] using hG) (fun _ _ _ _ h => h)
        ·intro done a w1 K hd qd qe qf qb hG hK
         have e10 : a.tmps[10]?.getD undef = .string p.1 := qf 10 rfl
         clear qd qe qf qb
         go_simp
         exact hK _ _ rfl (by simpa [dn] using hG) (fun _ _ _ _ h => h)
        ·intro done a w1 K hd qd qe qf qb hG hK
         have e44 : a.tmps[44]?.getD undef = .string p.1 := qe 2 44 rfl (qb 2 rfl)
         clear qd qe qf qb
         go_simp
         refine hK _ _ ⟨_, rfl, hG.hlo, Blk.new _ [.string p.1] _⟩ (by simpa [dn] using hG.chgNo ((Chg.refl _ _).alloc _)) (fun _ _ _ _ h => h.keepNo ((Chg.refl _ _).alloc _))
        ·intro done a w1 K hd qd qe qf qb hG hK
         have e43 : a.tmps[43]?.getD undef = k7 := qe 1 43 rfl (qb 1 rfl)
         obtain ⟨t, e45, hlt, hbt⟩ := qe 3 45 rfl (qb 3 rfl)
         have n15 : done 15 = false := by
          cases h : done 15 with
          | false => rfl
          | true => have := qd 15 4 rfl h; rw [hd] at this; cases this
         have n17 : done 17 = false := by
          cases h : done 17 with
          | false => rfl
          | true => have := qd 17 4 rfl h; rw [hd] at this; cases this
         rw [n15, n17] at hG
         refine if_wanted rfl ?_
         refine wp_appendRows elem23 rfl (by simpa [Act.eval] using e43) hG.ck (by simpa [Act.eval] using e45) (hbt.row1 rfl) (by simp [Value.oneCell']) (by simp only [keyRows, List.length_map, List.length_singleton]; have := hlen3; omega) (by decide) (Nat.le_trans hG.bb hG.hlo) fun v' w' hO hC hB hOld => ?_
         have hC2 := hG.cl.chg hC (fun k hk hk2 => hG.ck.apart hG.cl (by decide) hk2 hk)
         refine hK v' w' hO (by simpa [dn, n15, n17] using hG.app hC (fun k hk => (hG.ck.elem hk).1) hOld hC2) ?_
         refine fun j hj _ u hu => hu.keep hC (safe_of (i := 4) (fun j hl hj => ?_) j hj)
         match j, hj with
         | 0, _ => exact trivial
         | 1, _ => exact trivial
         | 2, _ => exact trivial
         | 3, _ => exact fun k hk => hG.klo k hk
         | 4, hj => exact absurd rfl hj
         | 5, _ => exact trivial
         | 6, _ => exact trivial
         | 7, _ => exact trivial
         | 8, _ => exact trivial
         | 9, _ => exact trivial
         | 10, _ => exact trivial
         | 11, _ => exact trivial
         | 12, _ => exact fun k hk => hG.klo k hk
         | 13, _ => exact fun k hk _ => hG.ck.notElem (by decide) hk
         | 14, _ => exact trivial
         | 15, _ => exact trivial
         | 16, _ => exact trivial
         | 17, _ => exact trivial
         | j + 18, _ => exact absurd hl (by simp)
        ·intro done a w1 K hd qd qe qf qb hG hK
         have e7 : a.tmps[7]?.getD undef = .pointer (some ⟨g3, 0, none⟩) := qf 7 rfl
         clear qd qe qf qb
         go_simp
         exact hK _ _ rfl (by simpa [dn] using hG) (fun _ _ _ _ h => h)
        ·intro done a w1 K hd qd qe qf qb hG hK
         have e47 : a.tmps[47]?.getD undef = .pointer (some ⟨g3, 6, none⟩) := qe 5 47 rfl (qb 5 rfl)
         have n17 : done 17 = false := by
          cases h : done 17 with
          | false => rfl
          | true => have := qd 17 6 rfl h; rw [hd] at this; cases this
         obtain ⟨k', l', hb, -, h2⟩ := hG.b
         rw [n17] at h2
         obtain rfl : l' = l7 := h2
         have c6 : w1.cell? ⟨g3, 6, none⟩ = some l' := hb.cell 6
         clear qd qe qf qb
         go_simp
         exact hK _ _ rfl (by simpa [dn] using hG) (fun _ _ _ _ h => h)
        ·intro done a w1 K hd qd qe qf qb hG hK
         have e3 : a.tmps[3]?.getD undef = .pointer (some ⟨w.heap.size, 0, none⟩) := qf 3 rfl
         clear qd qe qf qb
         go_simp
         exact hK _ _ rfl (by simpa [dn] using hG) (fun _ _ _ _ h => h)
        ·intro done a w1 K hd qd qe qf qb hG hK
         have e49 : a.tmps[49]?.getD undef = .pointer (some ⟨w.heap.size, 6, none⟩) := qe 7 49 rfl (qb 7 rfl)
         have c6 : w1.cell? ⟨w.heap.size, 6, none⟩ = some (.slice (some ⟨lb, lo, none⟩) rows0.length lc) := (hG.bs _ M0.out).1.cell 6
         clear qd qe qf qb
         go_simp
         exact hK _ _ rfl (by simpa [dn] using hG) (fun _ _ _ _ h => h)
        ·intro done a w1 K hd qd qe qf qb hG hK
         have e9 : a.tmps[9]?.getD undef = .int .i64 n := qf 9 rfl
         clear qd qe qf qb
         go_simp
         exact hK _ _ rfl (by simpa [dn] using hG) (fun _ _ _ _ h => h)
        ·intro done a w1 K hd qd qe qf qb hG hK
         have e50 : a.tmps[50]?.getD undef = .slice (some ⟨lb, lo, none⟩) rows0.length lc := qe 8 50 rfl (qb 8 rfl)
         have e51 : a.tmps[51]?.getD undef = .int .i64 n := qe 9 51 rfl (qb 9 rfl)
         clear qd qe qf qb
         go_simp
         exact hK _ _ rfl (by simpa [dn] using hG) (fun _ _ _ _ h => h)
        ·intro done a w1 K hd qd qe qf qb hG hK
         have e52 : a.tmps[52]?.getD undef = .pointer (some ⟨lb, lo + n * 7, none⟩) := qe 10 52 rfl (qb 10 rfl)
         refine if_wanted rfl ?_
         refine wp_loadAgg agg26 rfl (by simpa [Act.eval] using e52) (HLC.chg hG.chg id) hrl ?_
         exact hK _ _ rfl (by simpa [dn] using hG) (fun _ _ _ _ h => h)
        ·intro done a w1 K hd qd qe qf qb hG hK
         have e53 : a.tmps[53]?.getD undef = .agg (cells7 rk rb ri rf rt rkv rlv).toArray := qe 11 53 rfl (qb 11 rfl)
         clear qd qe qf qb
         unfold cells7 at e53
         go_simp
         refine hK _ _ ⟨_, rfl, hG.hlo, Blk.new _ (cells7 rk rb ri rf rt rkv rlv) _⟩ (by simpa [dn] using hG.chgNo ((Chg.refl _ _).alloc _)) (fun _ _ _ _ h => h.keepNo ((Chg.refl _ _).alloc _))
        ·intro done a w1 K hd qd qe qf qb hG hK
         have e48 : a.tmps[48]?.getD undef = l7 := qe 6 48 rfl (qb 6 rfl)
         obtain ⟨t, e54, hlt, hbt⟩ := qe 12 54 rfl (qb 12 rfl)
         have n15 : done 15 = false := by
          cases h : done 15 with
          | false => rfl
          | true => have := qd 15 13 rfl h; rw [hd] at this; cases this
         have n17 : done 17 = false := by
          cases h : done 17 with
          | false => rfl
          | true => have := qd 17 13 rfl h; rw [hd] at this; cases this
         rw [n15, n17] at hG
         refine if_wanted rfl ?_
         refine wp_appendRows elem24 rfl (by simpa [Act.eval] using e48) hG.cl (by simpa [Act.eval] using e54) (hbt.row1 rfl) (by intro r hr; obtain rfl := List.mem_singleton.1 hr; exact HV9.out.one) (by simp only [List.length_singleton]; have := hlen3; have := HI7.out.rv.1; omega) (by decide) (Nat.le_trans hG.bb hG.hlo) fun v' w' hO hC hB hOld => ?_
         have hC2 := hG.ck.chg hC (fun k hk hk2 => hG.cl.apart hG.ck (by decide) hk2 hk)
         refine hK v' w' hO (by simpa [dn, n15, n17] using hG.app hC (fun k hk => (hG.cl.elem hk).1) hC2 hOld) ?_
         refine fun j hj _ u hu => hu.keep hC (safe_of (i := 13) (fun j hl hj => ?_) j hj)
         match j, hj with
         | 0, _ => exact trivial
         | 1, _ => exact trivial
         | 2, _ => exact trivial
         | 3, _ => exact fun k hk => hG.llo k hk
         | 4, _ => exact fun k hk _ => hG.cl.notElem (by decide) hk
         | 5, _ => exact trivial
         | 6, _ => exact trivial
         | 7, _ => exact trivial
         | 8, _ => exact trivial
         | 9, _ => exact trivial
         | 10, _ => exact trivial
         | 11, _ => exact trivial
         | 12, _ => exact fun k hk => hG.llo k hk
         | 13, hj => exact absurd rfl hj
         | 14, _ => exact trivial
         | 15, _ => exact trivial
         | 16, _ => exact trivial
         | 17, _ => exact trivial
         | j + 18, _ => exact absurd hl (by simp)
        ·intro done a w1 K hd qd qe qf qb hG hK
         have e7 : a.tmps[7]?.getD undef = .pointer (some ⟨g3, 0, none⟩) := qf 7 rfl
         clear qd qe qf qb
         go_simp
         exact hK _ _ rfl (by simpa [dn] using hG) (fun _ _ _ _ h => h)
        ·intro done a w1 K hd qd qe qf qb hG hK
         have e56 : a.tmps[56]?.getD undef = .pointer (some ⟨g3, 5, none⟩) := qe 14 56 rfl (qb 14 rfl)
         have hO := qe 4 46 rfl (qb 4 rfl)
         obtain ⟨sa, sn, sc, hv⟩ := OwnR.slice hO
         rw [hd] at hG
         obtain ⟨k', l', hb, -, -⟩ := hG.b
         have c5 : w1.cell? ⟨g3, 5, none⟩ = some k' := hb.cell 5
         have f5 : w1.frozen? ⟨g3, 5, none⟩ = false := hb.frozen 5
         change OwnR _ _ _ _ _ _ at hO
         rw [hv] at hO
         have e46 := hv
         obtain ⟨hG2, hC⟩ := hG.store5 hO
         have HK2 := Hd hG2
         have HC2 := Hd hC
         have hgb := hG.gb
         have hgl := Nat.lt_of_lt_of_le hG.gb hG.bb
         clear qd qe qf qb
         clear hv hG hO hG2 hC
         go_simp
         refine hK undef _ trivial (by simpa [dn] using HK2.out) ?_
         have hC := HC2.out
         refine fun j hj _ u hu => hu.keep hC (safe_of (i := 15) (fun j hl hj => ?_) j hj)
         match j, hj with
         | 0, _ => exact trivial
         | 1, _ => exact trivial
         | 2, _ => exact trivial
         | 3, _ => exact fun k hk => by omega
         | 4, _ => exact fun k hk hb => by omega
         | 5, _ => exact trivial
         | 6, _ => exact trivial
         | 7, _ => exact trivial
         | 8, _ => exact trivial
         | 9, _ => exact trivial
         | 10, _ => exact trivial
         | 11, _ => exact trivial
         | 12, _ => exact fun k hk => by omega
         | 13, _ => exact fun k hk hb => by omega
         | 14, _ => exact trivial
         | 15, hj => exact absurd rfl hj
         | 16, _ => exact trivial
         | 17, _ => exact trivial
         | j + 18, _ => exact absurd hl (by simp)
        ·intro done a w1 K hd qd qe qf qb hG hK
         have e7 : a.tmps[7]?.getD undef = .pointer (some ⟨g3, 0, none⟩) := qf 7 rfl
         clear qd qe qf qb
         go_simp
         exact hK _ _ rfl (by simpa [dn] using hG) (fun _ _ _ _ h => h)
        ·intro done a w1 K hd qd qe qf qb hG hK
         have e57 : a.tmps[57]?.getD undef = .pointer (some ⟨g3, 6, none⟩) := qe 16 57 rfl (qb 16 rfl)
         have hO := qe 13 55 rfl (qb 13 rfl)
         obtain ⟨sa, sn, sc, hv⟩ := OwnR.slice hO
         rw [hd] at hG
         obtain ⟨k', l', hb, -, -⟩ := hG.b
         have c5 : w1.cell? ⟨g3, 6, none⟩ = some l' := hb.cell 6
         have f5 : w1.frozen? ⟨g3, 6, none⟩ = false := hb.frozen 6
         change OwnR _ _ _ _ _ _ at hO
         rw [hv] at hO
         have e55 := hv
         obtain ⟨hG2, hC⟩ := hG.store6 hO
         have HK2 := Hd hG2
         have HC2 := Hd hC
         have hgb := hG.gb
         have hgl := Nat.lt_of_lt_of_le hG.gb hG.bb
         clear qd qe qf qb
         clear hv hG hO hG2 hC
         go_simp
         refine hK undef _ trivial (by simpa [dn] using HK2.out) ?_
         have hC := HC2.out
         refine fun j hj _ u hu => hu.keep hC (safe_of (i := 17) (fun j hl hj => ?_) j hj)
         match j, hj with
         | 0, _ => exact trivial
         | 1, _ => exact trivial
         | 2, _ => exact trivial
         | 3, _ => exact fun k hk => by omega
         | 4, _ => exact fun k hk hb => by omega
         | 5, _ => exact trivial
         | 6, _ => exact trivial
         | 7, _ => exact trivial
         | 8, _ => exact trivial
         | 9, _ => exact trivial
         | 10, _ => exact trivial
         | 11, _ => exact trivial
         | 12, _ => exact fun k hk => by omega
         | 13, _ => exact fun k hk hb => by omega
         | 14, _ => exact trivial
         | 15, _ => exact trivial
         | 16, _ => exact trivial
         | 17, hj => exact absurd rfl hj
         | j + 18, _ => exact absurd hl (by simp)
       ·intro vs w2 hvs _ hG
        obtain ⟨k9, l9, h9⟩ := OutMid.out hG HI7.out.rv HV9.out
        have H9 := Hd h9
        clear h9 hG hvs
        simp only [putAll, Act.put, List.setIfInBounds_toArray, List.set_cons_succ, List.set_cons_zero]
        go_wp2_with fail
        go_roundw
        case rel => exact ⟨n + 1, true, (acc ++ [(key, x)]) ++ [p], (rows ++ [(cells7 vk vb vi vf vt vkv vlv)]) ++ [(cells7 rk rb ri rf rt rkv rlv)], k9, l9, by omega, rfl, by go_num, by have := HA2.out; rw [if_neg HPK.out] at this; simpa using this, H9.out⟩
        case measure => simp [intOf]; omega
  ·obtain rfl : n = kvs.length := by omega
   have hlen := HA.out.len
   cases db with
   | true =>
    have hacc : acc = ins kvs key x := by have := (HA.out.acc1 rfl).1; rwa [List.take_length] at this
    have HACC := Hd hacc
    clear hacc
    have hb3 := HI.out.b
    have hb2 := (HI.out.bs _ M2.out).1
    have ho1 := cells7_one (k := 7) (b := false) (i := 0) (f := 0) (t := ByteArray.empty) HI.out.ck.rowAt.one HI.out.cl.rowAt.one
    go_wp2_with (first | (refine wpList_loadAgg rfl agg26 rfl rfl hb3.cells rfl ?_) | (refine wpList_storeBlk rfl agg26 rfl rfl rfl hb2 rfl rfl ho1 ?_; intro w4 hb4 hc4 hs4))
    obtain ⟨hval, hch⟩ := HI.out.done hc4 (by rw [HG2.out]; omega) (by rw [HG2.out, HG3.out]; omega)
    refine bodyPost_ret (results_blk rfl agg26 rfl hb4 rfl) rfl ⟨_, rfl, ?_, hch⟩
    rw [← HACC.out]
    exact hval
   | false =>
    have hacc : acc ++ [(key, x)] = ins kvs key x := by obtain ⟨h1, h2⟩ := HA.out.acc0 rfl; rw [List.take_length] at h1 h2; rw [h1, ins_all h2]
    have HACC := Hd hacc
    have hlen2 : acc.length ≤ kvs.length := by obtain ⟨e, -⟩ := HA.out.acc0 rfl; rw [e]; exact List.length_take_le _ _
    clear hacc
    go_wp2_with fail
    refine wp_region_inv (FI [.eq (.pointer (some ⟨g3, 5, none⟩)), .eq kv, .eq (.string key), .temp wr.heap.size [.string key] 9, .own (g3 + 1) 9 1 (keyRows acc ++ [[.string key]]), .eq (.pointer (some ⟨g3, 6, none⟩)), .eq lv, .eq (.agg (cells7 vk vb vi vf vt vkv vlv).toArray), .temp wr.heap.size (cells7 vk vb vi vf vt vkv vlv) 26, .own (g3 + 1) 26 7 (rows ++ [(cells7 vk vb vi vf vt vkv vlv)]), .eq (.pointer (some ⟨g3, 5, none⟩)), .any, .eq (.pointer (some ⟨g3, 6, none⟩)), .any])
     (fun done w' => OutMid ok w w' wr.heap.size bsl g3 (g3 + 1) acc rows kv lv key (cells7 vk vb vi vf vt vkv vlv) (done 11) (done 13))
     (by kernel_rfl) (by kernel_rfl) (HI.out.mid _ _) ?_ ?_
    ·refine ⟨?_, ?_, ?_, ?_, ?_, ?_, ?_, ?_, ?_, ?_, ?_, ?_, ?_, ?_, trivial⟩
     ·intro done a w1 K hd qd qe qf qb hG hK
      have e7 : a.tmps[7]?.getD undef = .pointer (some ⟨g3, 0, none⟩) := qf 7 rfl
      clear qd qe qf qb
      go_simp
      exact hK _ _ rfl (by simpa [dn] using hG) (fun _ _ _ _ h => h)
     ·intro done a w1 K hd qd qe qf qb hG hK
      have e61 : a.tmps[61]?.getD undef = .pointer (some ⟨g3, 5, none⟩) := qe 0 61 rfl (qb 0 rfl)
      have n11 : done 11 = false := by
       cases h : done 11 with
       | false => rfl
       | true => have := qd 11 1 rfl h; rw [hd] at this; cases this
      obtain ⟨k', l', hb, h1, -⟩ := hG.b
      rw [n11] at h1
      obtain rfl : k' = kv := h1
      have c5 : w1.cell? ⟨g3, 5, none⟩ = some k' := hb.cell 5
      clear qd qe qf qb
      go_simp
      exact hK _ _ rfl (by simpa [dn] using hG) (fun _ _ _ _ h => h)
     ·intro done a w1 K hd qd qe qf qb hG hK
      have e1 : a.tmps[1]?.getD undef = .string key := qf 1 rfl
      clear qd qe qf qb
      go_simp
      exact hK _ _ rfl (by simpa [dn] using hG) (fun _ _ _ _ h => h)
     ·intro done a w1 K hd qd qe qf qb hG hK
      have e63 : a.tmps[63]?.getD undef = .string key := qe 2 63 rfl (qb 2 rfl)
      clear qd qe qf qb
      go_simp
      refine hK _ _ ⟨_, rfl, hG.hlo, Blk.new _ [.string key] _⟩ (by simpa [dn] using hG.chgNo ((Chg.refl _ _).alloc _)) (fun _ _ _ _ h => h.keepNo ((Chg.refl _ _).alloc _))
     ·intro done a w1 K hd qd qe qf qb hG hK
      have e62 : a.tmps[62]?.getD undef = kv := qe 1 62 rfl (qb 1 rfl)
      obtain ⟨t, e64, hlt, hbt⟩ := qe 3 64 rfl (qb 3 rfl)
      have n11 : done 11 = false := by
       cases h : done 11 with
       | false => rfl
       | true => have := qd 11 4 rfl h; rw [hd] at this; cases this
      have n13 : done 13 = false := by
       cases h : done 13 with
       | false => rfl
       | true => have := qd 13 4 rfl h; rw [hd] at this; cases this
      rw [n11, n13] at hG
      refine if_wanted rfl ?_
      refine wp_appendRows elem23 rfl (by simpa [Act.eval] using e62) hG.ck (by simpa [Act.eval] using e64) (hbt.row1 rfl) (by simp [Value.oneCell']) (by simp only [keyRows, List.length_map, List.length_singleton]; have := hlen2; omega) (by decide) (Nat.le_trans hG.bb hG.hlo) fun v' w' hO hC hB hOld => ?_
      have hC2 := hG.cl.chg hC (fun k hk hk2 => hG.ck.apart hG.cl (by decide) hk2 hk)
      refine hK v' w' hO (by simpa [dn, n11, n13] using hG.app hC (fun k hk => (hG.ck.elem hk).1) hOld hC2) ?_
      refine fun j hj _ u hu => hu.keep hC (safe_of (i := 4) (fun j hl hj => ?_) j hj)
      match j, hj with
      | 0, _ => exact trivial
      | 1, _ => exact trivial
      | 2, _ => exact trivial
      | 3, _ => exact fun k hk => hG.klo k hk
      | 4, hj => exact absurd rfl hj
      | 5, _ => exact trivial
      | 6, _ => exact trivial
      | 7, _ => exact trivial
      | 8, _ => exact fun k hk => hG.klo k hk
      | 9, _ => exact fun k hk _ => hG.ck.notElem (by decide) hk
      | 10, _ => exact trivial
      | 11, _ => exact trivial
      | 12, _ => exact trivial
      | 13, _ => exact trivial
      | j + 14, _ => exact absurd hl (by simp)
     ·intro done a w1 K hd qd qe qf qb hG hK
      have e7 : a.tmps[7]?.getD undef = .pointer (some ⟨g3, 0, none⟩) := qf 7 rfl
      clear qd qe qf qb
      go_simp
      exact hK _ _ rfl (by simpa [dn] using hG) (fun _ _ _ _ h => h)
     ·intro done a w1 K hd qd qe qf qb hG hK
      have e66 : a.tmps[66]?.getD undef = .pointer (some ⟨g3, 6, none⟩) := qe 5 66 rfl (qb 5 rfl)
      have n13 : done 13 = false := by
       cases h : done 13 with
       | false => rfl
       | true => have := qd 13 6 rfl h; rw [hd] at this; cases this
      obtain ⟨k', l', hb, -, h2⟩ := hG.b
      rw [n13] at h2
      obtain rfl : l' = lv := h2
      have c6 : w1.cell? ⟨g3, 6, none⟩ = some l' := hb.cell 6
      clear qd qe qf qb
      go_simp
      exact hK _ _ rfl (by simpa [dn] using hG) (fun _ _ _ _ h => h)
     ·intro done a w1 K hd qd qe qf qb hG hK
      have e5 : a.tmps[5]?.getD undef = .pointer (some ⟨g1, 0, none⟩) := qf 5 rfl
      have hb1 : Blk w1 g1 (cells7 vk vb vi vf vt vkv vlv) 26 := (hG.bs _ M1.out).1
      refine if_wanted rfl ?_
      refine wp_loadAgg agg26 rfl (by simpa [Act.eval] using e5) hb1.cells rfl ?_
      exact hK _ _ rfl (by simpa [dn] using hG) (fun _ _ _ _ h => h)
     ·intro done a w1 K hd qd qe qf qb hG hK
      have e68 : a.tmps[68]?.getD undef = .agg (cells7 vk vb vi vf vt vkv vlv).toArray := qe 7 68 rfl (qb 7 rfl)
      clear qd qe qf qb
      unfold cells7 at e68
      go_simp
      refine hK _ _ ⟨_, rfl, hG.hlo, Blk.new _ (cells7 vk vb vi vf vt vkv vlv) _⟩ (by simpa [dn] using hG.chgNo ((Chg.refl _ _).alloc _)) (fun _ _ _ _ h => h.keepNo ((Chg.refl _ _).alloc _))
     ·intro done a w1 K hd qd qe qf qb hG hK
      have e67 : a.tmps[67]?.getD undef = lv := qe 6 67 rfl (qb 6 rfl)
      obtain ⟨t, e69, hlt, hbt⟩ := qe 8 69 rfl (qb 8 rfl)
      have n11 : done 11 = false := by
       cases h : done 11 with
       | false => rfl
       | true => have := qd 11 9 rfl h; rw [hd] at this; cases this
      have n13 : done 13 = false := by
       cases h : done 13 with
       | false => rfl
       | true => have := qd 13 9 rfl h; rw [hd] at this; cases this
      rw [n11, n13] at hG
      refine if_wanted rfl ?_
      refine wp_appendRows elem24 rfl (by simpa [Act.eval] using e67) hG.cl (by simpa [Act.eval] using e69) (hbt.row1 rfl) (by intro r hr; obtain rfl := List.mem_singleton.1 hr; exact HV.out.one) (by simp only [List.length_singleton]; have := hlen2; have := HI.out.rv.1; omega) (by decide) (Nat.le_trans hG.bb hG.hlo) fun v' w' hO hC hB hOld => ?_
      have hC2 := hG.ck.chg hC (fun k hk hk2 => hG.cl.apart hG.ck (by decide) hk2 hk)
      refine hK v' w' hO (by simpa [dn, n11, n13] using hG.app hC (fun k hk => (hG.cl.elem hk).1) hC2 hOld) ?_
      refine fun j hj _ u hu => hu.keep hC (safe_of (i := 9) (fun j hl hj => ?_) j hj)
      match j, hj with
      | 0, _ => exact trivial
      | 1, _ => exact trivial
      | 2, _ => exact trivial
      | 3, _ => exact fun k hk => hG.llo k hk
      | 4, _ => exact fun k hk _ => hG.cl.notElem (by decide) hk
      | 5, _ => exact trivial
      | 6, _ => exact trivial
      | 7, _ => exact trivial
      | 8, _ => exact fun k hk => hG.llo k hk
      | 9, hj => exact absurd rfl hj
      | 10, _ => exact trivial
      | 11, _ => exact trivial
      | 12, _ => exact trivial
      | 13, _ => exact trivial
      | j + 14, _ => exact absurd hl (by simp)
     ·intro done a w1 K hd qd qe qf qb hG hK
      have e7 : a.tmps[7]?.getD undef = .pointer (some ⟨g3, 0, none⟩) := qf 7 rfl
      clear qd qe qf qb
      go_simp
      exact hK _ _ rfl (by simpa [dn] using hG) (fun _ _ _ _ h => h)
     ·intro done a w1 K hd qd qe qf qb hG hK
      have e71 : a.tmps[71]?.getD undef = .pointer (some ⟨g3, 5, none⟩) := qe 10 71 rfl (qb 10 rfl)
      have hO := qe 4 65 rfl (qb 4 rfl)
      obtain ⟨sa, sn, sc, hv⟩ := OwnR.slice hO
      rw [hd] at hG
      obtain ⟨k', l', hb, -, -⟩ := hG.b
      have c5 : w1.cell? ⟨g3, 5, none⟩ = some k' := hb.cell 5
      have f5 : w1.frozen? ⟨g3, 5, none⟩ = false := hb.frozen 5
      change OwnR _ _ _ _ _ _ at hO
      rw [hv] at hO
      have e65 := hv
      obtain ⟨hG2, hC⟩ := hG.store5 hO
      have HK2 := Hd hG2
      have HC2 := Hd hC
      have hgb := hG.gb
      have hgl := Nat.lt_of_lt_of_le hG.gb hG.bb
      clear qd qe qf qb
      clear hv hG hO hG2 hC
      go_simp
      refine hK undef _ trivial (by simpa [dn] using HK2.out) ?_
      have hC := HC2.out
      refine fun j hj _ u hu => hu.keep hC (safe_of (i := 11) (fun j hl hj => ?_) j hj)
      match j, hj with
      | 0, _ => exact trivial
      | 1, _ => exact trivial
      | 2, _ => exact trivial
      | 3, _ => exact fun k hk => by omega
      | 4, _ => exact fun k hk hb => by omega
      | 5, _ => exact trivial
      | 6, _ => exact trivial
      | 7, _ => exact trivial
      | 8, _ => exact fun k hk => by omega
      | 9, _ => exact fun k hk hb => by omega
      | 10, _ => exact trivial
      | 11, hj => exact absurd rfl hj
      | 12, _ => exact trivial
      | 13, _ => exact trivial
      | j + 14, _ => exact absurd hl (by simp)
     ·intro done a w1 K hd qd qe qf qb hG hK
      have e7 : a.tmps[7]?.getD undef = .pointer (some ⟨g3, 0, none⟩) := qf 7 rfl
      clear qd qe qf qb
      go_simp
      exact hK _ _ rfl (by simpa [dn] using hG) (fun _ _ _ _ h => h)
     ·intro done a w1 K hd qd qe qf qb hG hK
      have e72 : a.tmps[72]?.getD undef = .pointer (some ⟨g3, 6, none⟩) := qe 12 72 rfl (qb 12 rfl)
      have hO := qe 9 70 rfl (qb 9 rfl)
      obtain ⟨sa, sn, sc, hv⟩ := OwnR.slice hO
      rw [hd] at hG
      obtain ⟨k', l', hb, -, -⟩ := hG.b
      have c5 : w1.cell? ⟨g3, 6, none⟩ = some l' := hb.cell 6
      have f5 : w1.frozen? ⟨g3, 6, none⟩ = false := hb.frozen 6
      change OwnR _ _ _ _ _ _ at hO
      rw [hv] at hO
      have e70 := hv
      obtain ⟨hG2, hC⟩ := hG.store6 hO
      have HK2 := Hd hG2
      have HC2 := Hd hC
      have hgb := hG.gb
      have hgl := Nat.lt_of_lt_of_le hG.gb hG.bb
      clear qd qe qf qb
      clear hv hG hO hG2 hC
      go_simp
      refine hK undef _ trivial (by simpa [dn] using HK2.out) ?_
      have hC := HC2.out
      refine fun j hj _ u hu => hu.keep hC (safe_of (i := 13) (fun j hl hj => ?_) j hj)
      match j, hj with
      | 0, _ => exact trivial
      | 1, _ => exact trivial
      | 2, _ => exact trivial
      | 3, _ => exact fun k hk => by omega
      | 4, _ => exact fun k hk hb => by omega
      | 5, _ => exact trivial
      | 6, _ => exact trivial
      | 7, _ => exact trivial
      | 8, _ => exact fun k hk => by omega
      | 9, _ => exact fun k hk hb => by omega
      | 10, _ => exact trivial
      | 11, _ => exact trivial
      | 12, _ => exact trivial
      | 13, hj => exact absurd rfl hj
      | j + 14, _ => exact absurd hl (by simp)
    ·intro vs w2 hvs _ hG
     obtain ⟨k7, l7, h7⟩ := OutMid.out hG HI.out.rv HV.out
     have HI7 := Hd h7
     clear h7 hG hvs
     simp only [putAll, Act.put, List.setIfInBounds_toArray, List.set_cons_succ, List.set_cons_zero]
     have hb3 := HI7.out.b
     have hb2 := (HI7.out.bs _ M2.out).1
     have ho1 := cells7_one (k := 7) (b := false) (i := 0) (f := 0) (t := ByteArray.empty) HI7.out.ck.rowAt.one HI7.out.cl.rowAt.one
     go_wp2_with (first | (refine wpList_loadAgg rfl agg26 rfl rfl hb3.cells rfl ?_) | (refine wpList_storeBlk rfl agg26 rfl rfl rfl hb2 rfl rfl ho1 ?_; intro w4 hb4 hc4 hs4))
     obtain ⟨hval, hch⟩ := HI7.out.done hc4 (by rw [HG2.out]; omega) (by rw [HG2.out, HG3.out]; omega)
     refine bodyPost_ret (results_blk rfl agg26 rfl hb4 rfl) rfl ⟨_, rfl, ?_, hch⟩
     rw [← HACC.out]
     exact hval
theorem ValJ.table7 {ok : Nat -> Prop} {w : World} {cs : List Value} {kvs : T} (h : ValJ ok w cs (.table kvs)) : ∃ b i f t kv lv, cs = cells7 7 b i f t kv lv := by
 cases h; exact ⟨_, _, _, _, _, _, rfl⟩
abbrev okL (ok : Nat -> Prop) (w : World) (g : Nat) : Nat -> Prop := fun x => (ok x /\ x < w.heap.size) ∨ g < x
theorem ValJ.old {ok : Nat -> Prop} {w wr : World} {cs : List Value} {j : J} (h : ValJ ok w cs j) (hc : Chg No w wr) (g : Nat) : ValJ (okL ok w g) wr cs j :=
 ((h.mono (ok' := fun b => ok b /\ b < w.heap.size) (fun b hb hb2 => ⟨hb2, hb⟩)).chg hc (fun _ _ e => e)).mono (fun b _ hb2 => .inl hb2)
abbrev okB (ok : Nat -> Prop) (w : World) : Nat -> Prop := fun x => ok x /\ x < w.heap.size
theorem ValJ.bel {ok : Nat -> Prop} {w : World} {cs : List Value} {j : J} (h : ValJ ok w cs j) : ValJ (okB ok w) w cs j := h.mono (fun b hb hb2 => ⟨hb2, hb⟩)
theorem wpList_loadAggG {P : Program} {ops : Array Oper} {rest : List Oper} {o : Oper} {a : Act} {w : World} {Q : Exit -> Act -> World -> Prop} {ty n : Nat} (hgd : Region.wanted o (yielded ops a.tmps) = true) (hT : AggTy P ty n) {x : Operand} (ho : o.op = .load ty x)
  {b off : Nat} (hx : a.eval x = .pointer (some ⟨b, off, none⟩)) {cs : List Value} (hc : CellsAt w b off cs) (hl : cs.length = n)
  (h : wpList P ops Q rest (a.put o.dst (.agg cs.toArray)) w) : wpList P ops Q (o :: rest) a w :=
 BigFrame.wpList_want hgd fun _ hK => wp_loadAgg hT ho hx hc hl (hK _ _ h)
theorem ValJ.keep {ok S : Nat -> Prop} {w w' : World} {cs : List Value} {j : J} (h : ValJ ok w cs j) (hc : Chg S w w') (hs : ∀ b, b < w.heap.size -> ok b -> ¬ S b) : ValJ ok w' cs j :=
 ((h.mono (ok' := fun b => ok b /\ b < w.heap.size) (fun b hb hb2 => ⟨hb2, hb⟩)).chg hc (fun b hb => hs b hb.2 hb.1)).mono (fun b _ hb2 => hb2.1)
abbrev RV (v : Value) : Option (DataW Value × List MemPlace) := some (.held v, [])
def klit (k : K) : Lit := .string k.data.toList
theorem klit_inj {a b : K} (h : klit a = klit b) : a = b := by
 cases a; cases b
 simp only [klit, Lit.string.injEq, Array.toList_inj] at h
 exact congrArg _ h
theorem klit_key (k : K) : WideAt.IsKeyLit (klit k) := trivial
theorem klit_same (a b : K) : (klit a).sameKey (klit b) = (a == b) := by
 by_cases e : a = b
 ·subst e; rw [WideAt.sameKey_self (klit_key a)]; simp
 ·rw [Maps.sameKey_ne (fun h => e (klit_inj h))]; simp [e]
theorem keyed9 : Maps.Keyed Tryz.prog 9 := Maps.string_keyed Tryz.underlying9
theorem keyOf_klit {k : K} (h : k.size ≤ maxLen) : keyOf Tryz.prog 9 (.string k) = some (klit k) := by
 simp [keyOf, Tryz.underlying9, mapKey, klit, h]
theorem keyOf_inv {v : Value} {l : Lit} (h : keyOf Tryz.prog 9 v = some l) : ∃ k : K, v = .string k /\ l = klit k /\ k.size ≤ maxLen := by
 cases v <;> simp [keyOf, Tryz.underlying9, mapKey] at h
 rename_i s
 exact ⟨s, rfl, h.2.symm, h.1⟩
def mv (D : DataW Value) (k : K) : Option Value :=
 match D.atKey (klit k) .nil with
 | .held v => some v
 | _ => none
theorem mv_put {D : DataW Value} (hD : Maps.IsMap D) (k : K) (v : Value) (k' : K) : mv (D.put (klit k) (.held v)) k' = if k' = k then some v else mv D k' := by
 unfold mv
 by_cases e : k' = k
 ·subst e; rw [Maps.atKey_put_same hD (klit_key _), if_pos rfl]
 ·rw [Maps.atKey_put_other (fun h => e (klit_inj h)), if_neg e]
theorem mv_del {D : DataW Value} (k k' : K) : mv (D.del (klit k)) k' = if k' = k then none else mv D k' := by
 unfold mv
 by_cases e : k' = k
 ·subst e; rw [Maps.atKey_del_same, if_pos rfl]
 ·rw [Maps.atKey_del_other (fun h => e (klit_inj h)), if_neg e]
def MapB (w : World) (b n : Nat) (f : K -> Option Value) : Prop :=
 ∃ D : DataW Value, w.ownsMap Tryz.prog 9 RV b n D /\ ∀ k, f k = mv D k
theorem look_of {w : World} {b n : Nat} {D : DataW Value} (h : w.ownsMap Tryz.prog 9 RV b n D) {k : K} (hk : k.size ≤ maxLen) (c : Bool) :
  (Instr.lookup 67 (.map (some b)) (.string k) c).run Tryz.prog w = .ok (if c then .tuple #[(mv D k).getD .nilIface, .bool (mv D k).isSome] else (mv D k).getD .nilIface) w /\ Maps.has D (klit k) = (mv D k).isSome /\ (∀ z, D.atKey (klit k) z = match mv D k with | some v => .held v | none => z) := by
 obtain ⟨es, clock, hb, F, _, rfl⟩ := h
 have hz := Tryz.zeroValue20 w
 rcases Maps.fit_look c keyed9 Tryz.underlying67 hz hb F (keyOf_klit hk) with ⟨hrun, _, hat⟩ | ⟨e0, y, _, _, hrun, hRv, hat, _⟩
 ·have hm : mv (DataW.map ((es.toList.map (WideElems.rg Tryz.prog 9 RV)).foldr DataW.insert [])) k = none := by unfold mv; rw [hat]
  rw [hm]
  refine ⟨?_, by rw [Maps.has_false_of_atKey hat]; rfl, hat⟩
  rw [hrun]; cases c <;> rfl
 ·have hy : y.1 = .held e0.val := by cases hRv; rfl
  rw [hy] at hat
  have hm : mv (DataW.map ((es.toList.map (WideElems.rg Tryz.prog 9 RV)).foldr DataW.insert [])) k = some e0.val := by unfold mv; rw [hat]
  rw [hm]
  refine ⟨?_, by rw [Maps.has_true_of_atKey hat]; rfl, hat⟩
  rw [hrun]; cases c <;> rfl
theorem MapB.made (w : World) : MapB (w.alloc (.map #[] 0)) w.heap.size 0 (fun _ => none) := ⟨_, World.ownsMap_made w _ _ _, fun _ => rfl⟩
theorem MapB.chg {S : Nat -> Prop} {w w' : World} {b n : Nat} {f : K -> Option Value} (h : MapB w b n f) (hc : Chg S w w') (hn : ¬ S b) : MapB w' b n f := by
 obtain ⟨D, h1, h2⟩ := h
 have hlt := h1.lt
 obtain ⟨es, clock, hb, r⟩ := h1
 exact ⟨D, ⟨es, clock, (hc.block b hlt hn).trans hb, r⟩, h2⟩
theorem MapB.lt {w : World} {b n : Nat} {f : K -> Option Value} (h : MapB w b n f) : b < w.heap.size := h.choose_spec.1.lt
theorem MapB.mono {w : World} {b n m : Nat} {f : K -> Option Value} (h : MapB w b n f) (hm : n ≤ m) : MapB w b m f := by
 obtain ⟨D, h1, h2⟩ := h
 exact ⟨D, h1.mono hm, h2⟩
theorem MapB.alloc {w : World} {b n : Nat} {f : K -> Option Value} (h : MapB w b n f) (o : Obj) : MapB (w.alloc o) b n f := h.chg ((Chg.refl No w).alloc o) id
theorem MapB.isMap {P : Program} {k : TypeId} {R : Value -> Option (DataW Value × List MemPlace)} {w : World} {b n : Nat} {D : DataW Value} (h : w.ownsMap P k R b n D) : Maps.IsMap D := h.isMap
section
variable {w : World} {ops : Array Oper} {rest : List Oper} {o : Oper} {a : Act} {Q : Exit -> Act -> World -> Prop}
theorem wpList_putB (hg : o.guard = none) {m x v : Operand} (hop : o.op = Op.mapUpdate 67 m x v) {b n : Nat} {f : K -> Option Value} (hm : a.eval m = .map (some b)) (hb : MapB w b n f) (hn : n < maxLen)
  {k : K} {u : Value} (hx : a.eval x = .string k) (hk : k.size ≤ maxLen) (hv : a.eval v = u)
  (hK : ∀ w', MapB w' b (n + 1) (fun z => if z = k then some u else f z) -> Chg (· = b) w w' -> w'.heap.size = w.heap.size -> wpList Tryz.prog ops Q rest (a.put o.dst undef) w') :
  wpList Tryz.prog ops Q (o :: rest) a w := by
 obtain ⟨D, h1, h2⟩ := hb
 refine wpList_mapUpdate_in w hg m x v 67 hop 9 20 keyed9 Tryz.underlying67 RV b n D hm h1 hn _ u (klit k) hx hv (keyOf_klit hk) (.held u) [] rfl ?_
 intro w' h3 h4
 refine hK w' ⟨_, h3, fun z => ?_⟩ ((Chg.grown h4.grown).mono (fun i _ e => (Option.some.inj e).symm)) ?_
 ·simp only [mv_put h1.isMap, h2]
 ·obtain ⟨es, c, es', c', e1, rfl⟩ := h4
  simp [ChangeMaps.setBlock]
theorem wpList_lookB (hg : o.guard = none) {m x : Operand} (hop : o.op = Op.lookup 67 m x true) {b n : Nat} {f : K -> Option Value} (hm : a.eval m = .map (some b)) (hb : MapB w b n f)
  {k : K} (hx : a.eval x = .string k) (hk : k.size ≤ maxLen)
  (hK : wpList Tryz.prog ops Q rest (a.put o.dst (.tuple #[(f k).getD .nilIface, .bool (f k).isSome])) w) : wpList Tryz.prog ops Q (o :: rest) a w := by
 obtain ⟨D, h1, h2⟩ := hb
 refine wpList_plain hg fun K' hK' => ?_
 obtain ⟨h3, -⟩ := look_of h1 hk true
 unfold Oper.wp
 simp only [execOp, hop, hm, hx, Sem.run_bind, h3, Result.andThen_ok, if_true]
 rw [← h2]
 exact hK' _ _ hK
theorem wpList_delB (hg : o.guard = none) {m x : Operand} (hop : o.op = Op.call { callee := Callee.builtin Builtin.delete, args := #[m, x], argTypes := #[67, 9] }) {b n : Nat} {f : K -> Option Value} (hm : a.eval m = .map (some b)) (hb : MapB w b n f)
  {k : K} (hx : a.eval x = .string k) (hk : k.size ≤ maxLen)
  (hK : ∀ w', MapB w' b n (fun z => if z = k then none else f z) -> Chg (· = b) w w' -> w'.heap.size = w.heap.size -> wpList Tryz.prog ops Q rest (a.put o.dst (.tuple #[])) w') :
  wpList Tryz.prog ops Q (o :: rest) a w := by
 obtain ⟨D, h1, h2⟩ := hb
 refine wpList_delete_own w hg m x 67 9 hop 20 keyed9 Tryz.underlying67 RV b n D hm h1 _ (klit k) hx (keyOf_klit hk) ?_
 intro w' h3 h4
 refine hK w' ⟨_, h3, fun z => ?_⟩ ((Chg.grown h4.grown).mono (fun i _ e => (Option.some.inj e).symm)) ?_
 ·simp only [mv_del, h2]
 ·obtain ⟨es, c, es', c', e1, rfl⟩ := h4
  simp [ChangeMaps.setBlock]
def RangeB (w : World) (b r n : Nat) (f : K -> Option Value) (left : K -> Bool) (cnt : Nat) : Prop :=
 ∃ (D : DataW Value) (l : Lit -> Bool), w.ranges Tryz.prog 9 RV b r n D l cnt /\ (∀ k, f k = mv D k) /\ ∀ k, left k = l (klit k)
theorem RangeB.map {b r n : Nat} {f : K -> Option Value} {left : K -> Bool} {cnt : Nat} (h : RangeB w b r n f left cnt) : MapB w b n f := by
 obtain ⟨D, l, h1, h2, h3⟩ := h
 exact ⟨D, h1.owns, h2⟩
theorem RangeB.lt {b r n : Nat} {f : K -> Option Value} {left : K -> Bool} {cnt : Nat} (h : RangeB w b r n f left cnt) : r < w.heap.size := by
 obtain ⟨D, l, h1, h2, h3⟩ := h
 exact h1.lt
theorem RangeB.ne {b r n : Nat} {f : K -> Option Value} {left : K -> Bool} {cnt : Nat} (h : RangeB w b r n f left cnt) : r ≠ b := by
 obtain ⟨D, l, h1, h2, h3⟩ := h
 exact h1.ne
theorem RangeB.chg {S : Nat -> Prop} {w' : World} {b r n : Nat} {f : K -> Option Value} {left : K -> Bool} {cnt : Nat} (h : RangeB w b r n f left cnt) (hc : Chg S w w') (hb : ¬ S b) (hr : ¬ S r) : RangeB w' b r n f left cnt := by
 obtain ⟨D, l, h1, h2, h3⟩ := h
 refine ⟨D, l, ?_, h2, h3⟩
 have l1 := h1.owns.lt
 have l2 := h1.lt
 obtain ⟨es, clock, since, seen, c0, e1, e2, e3, e4, e5, e6⟩ := h1
 exact ⟨es, clock, since, seen, c0, (hc.block b l1 hb).trans e1, e2, e3, e4, (hc.block r l2 hr).trans e5, e6⟩
theorem RangeB.alloc {b r n : Nat} {f : K -> Option Value} {left : K -> Bool} {cnt : Nat} (h : RangeB w b r n f left cnt) (o : Obj) : RangeB (w.alloc o) b r n f left cnt := h.chg ((Chg.refl No w).alloc o) id id
theorem RangeB.left_eq {b r n : Nat} {f : K -> Option Value} {left : K -> Bool} {cnt : Nat} (h : RangeB w b r n f left cnt) : w.rangeLeft b r = cnt := by
 obtain ⟨D, l, h1, h2, h3⟩ := h
 exact h1.left_eq
theorem wpList_rangeB (hg : o.guard = none) {m : Operand} (hop : o.op = Op.range 67 m) {b n : Nat} {f : K -> Option Value} (hm : a.eval m = .map (some b)) (hb : MapB w b n f)
  (hK : ∀ w' cnt, RangeB w' b w.heap.size n f (fun k => (f k).isSome) cnt -> cnt ≤ n -> Chg No w w' -> w'.heap.size = w.heap.size + 1 -> wpList Tryz.prog ops Q rest (a.put o.dst (.pointer (some ⟨w.heap.size, 0, none⟩))) w') :
  wpList Tryz.prog ops Q (o :: rest) a w := by
 obtain ⟨D, h1, h2⟩ := hb
 have hsz := h1.size_le
 have hhas : ∀ k : K, (f k).isSome = Maps.has D (klit k) := by
  intro k
  by_cases hk : k.size ≤ maxLen
  ·rw [(look_of h1 hk true).2.1, h2]
  ·have e1 : Maps.has D (klit k) = false := by
    obtain ⟨es, clock, hb, F, _, rfl⟩ := h1
    cases hh : Maps.has (DataW.map ((es.toList.map (WideElems.rg Tryz.prog 9 RV)).foldr DataW.insert [])) (klit k) with
    | false => rfl
    | true =>
     exfalso
     rw [Maps.has_eq, List.any_eq_true] at hh
     obtain ⟨p, hp, hs⟩ := hh
     obtain ⟨v, hv⟩ := Maps.fit_keys F p (mem_sorted.1 hp)
     obtain ⟨k', -, e, hk'⟩ := keyOf_inv hv
     rw [e, klit_same] at hs
     exact hk (by rw [← eq_of_beq hs]; exact hk')
   rw [e1, h2, mv, Maps.atKey_of_not_has e1]
   rfl
 refine wpList_range_own w hg m 67 hop 9 20 keyed9 Tryz.underlying67 RV b n D hm h1 ?_
 intro w' h3 h4 h5
 exact hK w' _ ⟨D, _, h3, h2, hhas⟩ hsz ((Chg.grown h4).mono (fun i _ e => by cases e)) h5
theorem wpList_nextB (hg : o.guard = none) {it : Operand} (hop : o.op = Op.next it false) {b r n : Nat} {f : K -> Option Value} {left : K -> Bool} {cnt : Nat} (hit : a.eval it = .pointer (some ⟨r, 0, none⟩)) (h : RangeB w b r n f left cnt)
  (hDone : cnt = 0 -> (∀ k, left k = false) -> wpList Tryz.prog ops Q rest (a.put o.dst (.tuple #[.bool false])) w)
  (hMore : ∀ (k : K) (v : Value) (w' : World) (cnt' : Nat), k.size ≤ maxLen -> left k = true -> f k = some v -> RangeB w' b r n f (fun z => left z && !(z == k)) cnt' -> cnt' < cnt -> Chg (· = r) w w' -> w'.heap.size = w.heap.size ->
   (Instr.entry (.pointer (some ⟨r, 0, none⟩))).run Tryz.prog w' = .ok (.tuple #[.string k, v]) w' -> wpList Tryz.prog ops Q rest (a.put o.dst (.tuple #[.bool true, .string k, v])) w') :
  wpList Tryz.prog ops Q (o :: rest) a w := by
 obtain ⟨D, l, h1, h2, h3⟩ := h
 refine wpList_next_ranges (α := K) (β := Value) w hg it hop 9 keyed9 RV Value.string id (fun key kl hkey => ?_) (fun v y _ => ⟨v, rfl⟩) b r n D l cnt hit h1 (fun h0 hl => hDone h0 (fun k => by rw [h3, hl])) ?_
 ·obtain ⟨k, e, -⟩ := keyOf_inv hkey; exact ⟨k, e⟩
 ·intro x c kl y w' cnt' hkey hlk hv hat hrg hlt hgr hsz hen
  obtain ⟨k, e, rfl, hk⟩ := keyOf_inv hkey
  cases e
  cases hv
  refine hMore x c w' cnt' hk (by rw [h3]; exact hlk) ?_ ⟨D, _, hrg, h2, fun z => by simp only [h3, klit_same]⟩ hlt ((Chg.grown hgr).mono (fun i _ e => (Option.some.inj e).symm)) hsz hen
  rw [h2, mv, hat]
  rfl
end
inductive AnyJ (ok : Nat -> Prop) (w : World) : Value -> J -> Prop where
 | null : AnyJ ok w .nilIface .null
 | bool {b} : AnyJ ok w (.iface 4 (.bool b)) (.bool b)
 | int {i} : AnyJ ok w (.iface 2 (.int .i64 i)) (.int i)
 | float {f} : AnyJ ok w (.iface 22 (.float .f64 f)) (.float f)
 | text {t} : AnyJ ok w (.iface 9 (.string t)) (.text t)
 | list {v : Value} {vs : List Value} {xs : List J} (hr : RowAt ok w v 1 (vs.map fun u => [u])) (hn : vs.length = xs.length) (h : ∀ (n : Nat) (u : Value) (x : J), vs[n]? = some u -> xs[n]? = some x -> AnyJ ok w u x) : AnyJ ok w (.iface 151 v) (.list xs)
 | table {b n : Nat} {f : K -> Option Value} {kvs : T} (hm : MapB w b n f) (hb : ok b) (hd : ∀ k, (f k).isSome = (get kvs k).isSome) (h : ∀ (k : K) (u : Value) (x : J), f k = some u -> get kvs k = some x -> AnyJ ok w u x) : AnyJ ok w (.iface 67 (.map (some b))) (.table kvs)
theorem AnyJ.chg {ok S : Nat -> Prop} {w w' : World} {v : Value} {j : J} (h : AnyJ ok w v j) (hc : Chg S w w') (hs : ∀ b, ok b -> ¬ S b) : AnyJ ok w' v j := by
 induction h with
 | null => exact .null
 | bool => exact .bool
 | int => exact .int
 | float => exact .float
 | text => exact .text
 | list hr hn _ ih => exact .list (hr.chg hc hs) hn ih
 | table hm hb hd _ ih => exact .table (hm.chg hc (hs _ hb)) hb hd ih
theorem AnyJ.mono {ok ok' : Nat -> Prop} {w : World} {v : Value} {j : J} (h : AnyJ ok w v j) (hs : ∀ b, b < w.heap.size -> ok b -> ok' b) : AnyJ ok' w v j := by
 induction h with
 | null => exact .null
 | bool => exact .bool
 | int => exact .int
 | float => exact .float
 | text => exact .text
 | list hr hn _ ih => exact .list (hr.mono hs (by decide)) hn ih
 | table hm hb hd _ ih => exact .table hm (hs _ hm.lt hb) hd ih
theorem AnyJ.keep {ok S : Nat -> Prop} {w w' : World} {v : Value} {j : J} (h : AnyJ ok w v j) (hc : Chg S w w') (hs : ∀ b, b < w.heap.size -> ok b -> ¬ S b) : AnyJ ok w' v j :=
 ((h.mono (ok' := fun b => ok b /\ b < w.heap.size) (fun b hb hb2 => ⟨hb2, hb⟩)).chg hc (fun b hb => hs b hb.2 hb.1)).mono (fun b _ hb2 => hb2.1)
def mapOf : Value -> Value
 | .iface 67 v => v
 | _ => .map none
def Any0 (v : Value) (j : J) : Prop := ∃ ok w, AnyJ ok w v j
theorem AnyJ.any0 {ok : Nat -> Prop} {w : World} {v : Value} {j : J} (h : AnyJ ok w v j) : Any0 v j := ⟨_, _, h⟩
theorem run_assert67 {w : World} {v : Value} {j : J} (h : Any0 v j) : (Instr.typeAssert v 20 67 true).run Tryz.prog w = .ok (.tuple #[mapOf v, .bool (isT j)]) w := by
 obtain ⟨_, _, h⟩ := h
 cases h <;> kernel_rfl
theorem MapB.len {w : World} {b n : Nat} {f : K -> Option Value} (hb : MapB w b n f) : ∃ c : Nat, c ≤ n /\ ∀ ty, (Builtin.len_ #[67] ty #[.map (some b)]).run Tryz.prog w = .ok (.int .i64 c) w := by
 obtain ⟨D, h1, h2⟩ := hb
 exact ⟨_, h1.size_le, fun ty => h1.len Tryz.underlying67 ty⟩
theorem run_makeMap67 (c : Int) (w : World) : (Instr.makeMap 67 (some (.int .i64 c))).run Tryz.prog w = .ok (.map (some w.heap.size)) (w.alloc (.map #[] 0)) := by kernel_rfl
theorem run_makeMap67n (w : World) : (Instr.makeMap 67 none).run Tryz.prog w = .ok (.map (some w.heap.size)) (w.alloc (.map #[] 0)) := rfl
theorem nodup_length : ∀ (l m : List Lit), l.Pairwise (fun p q => p ≠ q) -> (∀ x ∈ l, x ∈ m) -> l.length ≤ m.length
 | [], _, _, _ => Nat.zero_le _
 | a :: r, m, h, hs => by
  obtain ⟨h1, h2⟩ := List.pairwise_cons.1 h
  obtain ⟨m1, m2, rfl⟩ := List.append_of_mem (hs a (by simp))
  have hl := nodup_length r (m1 ++ m2) h2 (fun x hx => by
   have hm := hs x (by simp [hx])
   have hne : x ≠ a := fun e => h1 x hx e.symm
   simp only [List.mem_append, List.mem_cons] at hm ⊢
   rcases hm with hm | hm | hm
   ·exact .inl hm
   ·exact absurd hm hne
   ·exact .inr hm)
  simp only [List.length_cons, List.length_append] at hl ⊢
  omega
theorem MapB.fit {w : World} {b n : Nat} {f : K -> Option Value} {kvs : T} (h : MapB w b n f) (hd : ∀ k, (f k).isSome = (get kvs k).isSome) : MapB w b kvs.length f := by
 obtain ⟨D, h1, h2⟩ := h
 refine ⟨D, ?_, h2⟩
 have h3 := h1
 obtain ⟨es, clock, hb, F, hn, rfl⟩ := h1
 refine ⟨es, clock, hb, F, ?_, rfl⟩
 have hp := Maps.fit_apart keyed9 F
 have hl := nodup_length ((es.toList.map (WideElems.rg Tryz.prog 9 RV)).map (·.1)) (kvs.map fun p => klit p.1) (List.pairwise_map.2 hp) (fun x hx => by
  obtain ⟨p, hp, rfl⟩ := List.mem_map.1 hx
  obtain ⟨v, hv⟩ := Maps.fit_keys F p hp
  obtain ⟨k, -, e, hk⟩ := keyOf_inv hv
  have hh := (look_of h3 hk true).2.1
  have hm : Maps.has (DataW.map ((es.toList.map (WideElems.rg Tryz.prog 9 RV)).foldr DataW.insert [])) (klit k) = true := by
   rw [Maps.has_eq, List.any_eq_true]
   exact ⟨p, mem_sorted.2 hp, by rw [e, klit_same]; simp⟩
  rw [hm, ← h2, hd] at hh
  cases hg : get kvs k with
  | none => rw [hg] at hh; cases hh
  | some j => exact List.mem_map.2 ⟨(k, j), get_mem hg, e.symm⟩)
 simpa using hl
theorem run_build151 (u : Value) (h : u.oneCell' = true) (w : World) : (Instr.buildSlice 151 1 #[(0, u)]).run Tryz.prog w = .ok (.slice (some ⟨w.heap.size, 0, none⟩) 1 1) (w.alloc (.cells #[u] 20)) := by
 cases u <;> first | (simp [Value.oneCell'] at h; done) | kernel_rfl
theorem run_build24_1 (cs : List Value) (h : cs.length = 7) (w : World) : (Instr.buildSlice 24 1 #[(0, .agg cs.toArray)]).run Tryz.prog w = .ok (.slice (some ⟨w.heap.size, 0, none⟩) 1 1) (w.alloc (.cells cs.toArray 26)) := by
 obtain ⟨a, b, c, d, e, f, g, rfl⟩ : ∃ a b c d e f g, cs = [a, b, c, d, e, f, g] := by
  match cs, h with
  | [a, b, c, d, e, f, g], _ => exact ⟨a, b, c, d, e, f, g, rfl⟩
 clear h
 kernel_rfl
theorem wpList_build1 {ops : Array Oper} {rest : List Oper} {o : Oper} {a : Act} {w : World} {Q : Exit -> Act -> World -> Prop} (hg : o.guard = none) {x : Operand} (ho : o.op = .buildSlice 151 1 #[(0, x)]) {u : Value} (hx : a.eval x = u) (h1 : u.oneCell' = true)
  (h : wpList Tryz.prog ops Q rest (a.put o.dst (.slice (some ⟨w.heap.size, 0, none⟩) 1 1)) (w.alloc (.cells #[u] 20))) : wpList Tryz.prog ops Q (o :: rest) a w := by
 refine wpList_plain hg fun K' hK' => ?_
 have h3 := run_build151 u h1 w
 unfold Oper.wp
 simp only [execOp, ho, List.map_toArray, List.map_cons, List.map_nil, hx, Sem.run_bind, h3, Result.andThen_ok]
 exact hK' _ _ h
theorem wpList_build24 {ops : Array Oper} {rest : List Oper} {o : Oper} {a : Act} {w : World} {Q : Exit -> Act -> World -> Prop} (hg : o.guard = none) {x : Operand} (ho : o.op = .buildSlice 24 1 #[(0, x)]) {cs : List Value} (hx : a.eval x = .agg cs.toArray) (h1 : cs.length = 7)
  (h : wpList Tryz.prog ops Q rest (a.put o.dst (.slice (some ⟨w.heap.size, 0, none⟩) 1 1)) (w.alloc (.cells cs.toArray 26))) : wpList Tryz.prog ops Q (o :: rest) a w := by
 refine wpList_plain hg fun K' hK' => ?_
 have h3 := run_build24_1 cs h1 w
 unfold Oper.wp
 simp only [execOp, ho, List.map_toArray, List.map_cons, List.map_nil, hx, Sem.run_bind, h3, Result.andThen_ok]
 exact hK' _ _ h
theorem isT_table {j : J} (h : isT j = true) : ∃ t, j = .table t := by
 cases j <;> simp [isT] at h
 exact ⟨_, rfl⟩
theorem mergedAt_plain {a : T} {k : K} {j : J} (h : isT j = false) : mergedAt a k j = j := by
 cases j <;> first | rfl | simp [isT] at h
theorem mergedAt_none {a : T} {k : K} {j : J} (h : get a k = none) : mergedAt a k j = j := by
 cases j <;> simp [mergedAt, h]
theorem mergedAt_other {a : T} {k : K} {j x : J} (h : get a k = some x) (hx : isT x = false) : mergedAt a k j = j := by
 cases j <;> simp only [mergedAt, h]
 cases x <;> first | rfl | simp [isT] at hx
abbrev okN (ok : Nat -> Prop) (w : World) (r : Nat) : Nat -> Prop := fun x => okB ok w x ∨ r < x
theorem AnyJ.old {ok : Nat -> Prop} {w wr : World} {v : Value} {j : J} (h : AnyJ ok w v j) (hc : Chg No w wr) (g : Nat) : AnyJ (okN ok w g) wr v j :=
 ((h.mono (ok' := okB ok w) (fun b hb hb2 => ⟨hb2, hb⟩)).chg hc (fun _ _ e => e)).mono (fun b _ hb2 => .inl hb2)
theorem AnyJ.bel {ok : Nat -> Prop} {w : World} {v : Value} {j : J} (h : AnyJ ok w v j) : AnyJ (okB ok w) w v j := h.mono (fun b hb hb2 => ⟨hb2, hb⟩)
structure TabB (ok : Nat -> Prop) (w : World) (b n : Nat) (f : K -> Option Value) (kvs : T) : Prop where
 map : MapB w b n f
 own : ok b
 dom : ∀ k, (f k).isSome = (get kvs k).isSome
 val : ∀ (k : K) (u : Value) (x : J), f k = some u -> get kvs k = some x -> AnyJ ok w u x
theorem AnyJ.tab {ok : Nat -> Prop} {w : World} {v : Value} {kvs : T} (h : AnyJ ok w v (.table kvs)) : ∃ b n f, v = .iface 67 (.map (some b)) /\ TabB ok w b n f kvs := by
 cases h with
 | table h1 h2 h3 h4 => exact ⟨_, _, _, rfl, h1, h2, h3, h4⟩
theorem TabB.any {ok : Nat -> Prop} {w : World} {b n : Nat} {f : K -> Option Value} {kvs : T} (h : TabB ok w b n f kvs) : AnyJ ok w (.iface 67 (.map (some b))) (.table kvs) :=
 AnyJ.table h.map h.own h.dom h.val
theorem TabB.fit {ok : Nat -> Prop} {w : World} {b n : Nat} {f : K -> Option Value} {kvs : T} (h : TabB ok w b n f kvs) : TabB ok w b kvs.length f kvs := ⟨h.map.fit h.dom, h.own, h.dom, h.val⟩
theorem TabB.some {ok : Nat -> Prop} {w : World} {b n : Nat} {f : K -> Option Value} {kvs : T} (h : TabB ok w b n f kvs) {k : K} {u : Value} (hf : f k = some u) : ∃ x, get kvs k = some x /\ AnyJ ok w u x := by
 have h1 := h.dom k
 rw [hf] at h1
 cases hx : get kvs k with
 | none => rw [hx] at h1; cases h1
 | some x => exact ⟨x, rfl, h.val k u x hf hx⟩
theorem TabB.none {ok : Nat -> Prop} {w : World} {b n : Nat} {f : K -> Option Value} {kvs : T} (h : TabB ok w b n f kvs) {k : K} (hf : f k = none) : get kvs k = none := by
 have h1 := h.dom k
 rw [hf] at h1
 cases hx : get kvs k with
 | none => rfl
 | some x => rw [hx] at h1; cases h1
structure MM (ok : Nat -> Prop) (w : World) (a b : T) (fa fb : K -> Option Value) (bb g r na nb : Nat) (wx : World) (left : K -> Bool) (cnt no : Nat) (fo : K -> Option Value) : Prop where
 rng : RangeB wx bb r nb fb left cnt
 num : no + cnt ≤ na + nb
 out : MapB wx g no fo
 hit : ∀ k j, left k = false -> get b k = some j -> ∃ u, fo k = some u /\ AnyJ (okN ok w r) wx u (mergedAt a k j)
 miss : ∀ k, (left k = true ∨ get b k = Option.none) -> fo k = fa k
 chg : Chg No w wx
 gr : g < r
 wg : w.heap.size ≤ g
theorem MM.step {ok : Nat -> Prop} {w : World} {a b : T} {fa fb : K -> Option Value} {bb g r na nb : Nat} {wx w2 : World} {left : K -> Bool} {cnt no cnt' : Nat} {fo : K -> Option Value} (h : MM ok w a b fa fb bb g r na nb wx left cnt no fo)
  {k : K} {u : Value} {j : J} (hrg : RangeB w2 bb r nb fb (fun z => left z && !(z == k)) cnt') (hlt : cnt' < cnt) (hout : MapB w2 g (no + 1) (fun z => if z = k then some u else fo z)) (hc : Chg (fun x => x = g ∨ x = r) wx w2)
  (hj : get b k = some j) (hv : AnyJ (okN ok w r) w2 u (mergedAt a k j)) : MM ok w a b fa fb bb g r na nb w2 (fun z => left z && !(z == k)) cnt' (no + 1) (fun z => if z = k then some u else fo z) := by
 have hgr := h.gr
 have hwg := h.wg
 refine ⟨hrg, by have := h.num; omega, hout, fun k' j' hl hb => ?_, fun k' hk => ?_, h.chg.trans hc (fun i hi e => by omega), hgr, hwg⟩
 ·by_cases e : k' = k
  ·subst e
   rw [hj] at hb
   cases hb
   exact ⟨u, if_pos rfl, hv⟩
  ·have hl' : left k' = false := by simpa [e] using hl
   obtain ⟨u', h1, h2⟩ := h.hit k' j' hl' hb
   refine ⟨u', by simp only [if_neg e]; exact h1, h2.keep hc (fun x _ hx e2 => ?_)⟩
   rcases hx with hx | hx
   ·have := hx.2; omega
   ·omega
 ·have e : k' ≠ k := by
   rintro rfl
   rcases hk with hk | hk
   ·simp at hk
   ·rw [hj] at hk; cases hk
  simp only [if_neg e]
  refine h.miss k' ?_
  rcases hk with hk | hk
  ·exact .inl (by simpa [e] using hk)
  ·exact .inr hk
theorem MM.done {ok : Nat -> Prop} {w : World} {a b : T} {fa fb : K -> Option Value} {ba bb g r na nb : Nat} {wx : World} {left : K -> Bool} {cnt no : Nat} {fo : K -> Option Value} (h : MM ok w a b fa fb bb g r na nb wx left cnt no fo) (hl : ∀ k, left k = false)
  (ha : TabB ok w ba na fa a) : AnyJ (fun x => ok x ∨ w.heap.size ≤ x) wx (.iface 67 (.map (some g))) (.table (merged a b)) := by
 have hgr := h.gr
 have hwg := h.wg
 refine .table h.out (.inr hwg) (fun k => ?_) (fun k u x hf hg => ?_)
 ·rw [get_mergedAt]
  cases hb : get b k with
  | none => simp only; rw [h.miss k (.inr hb), ha.dom]
  | some j =>
   obtain ⟨u, h1, -⟩ := h.hit k j (hl k) hb
   simp only; rw [h1]; rfl
 ·rw [get_mergedAt] at hg
  cases hb : get b k with
  | none =>
   rw [hb] at hg
   rw [h.miss k (.inr hb)] at hf
   exact ((ha.val k u x hf hg).keep h.chg (fun _ _ _ e => e)).mono (fun _ _ e => .inl e)
  | some j =>
   obtain ⟨u', h1, h2⟩ := h.hit k j (hl k) hb
   rw [hb] at hg
   rw [hf] at h1
   cases h1
   cases hg
   refine h2.mono (fun y _ hy => ?_)
   rcases hy with hy | hy
   ·exact .inl hy.1
   ·exact .inr (by omega)
def MergedPost (ok : Nat -> Prop) (w : World) (j : J) (e : Ending) (w' : World) : Prop :=
 ∃ r, e = .returned (.map (some r)) /\ AnyJ (fun x => ok x ∨ w.heap.size ≤ x) w' (.iface 67 (.map (some r))) j /\ Chg No w w'
theorem mergeMaps_any (n m : Nat) (hnm : n + m < 1099511627776) (d : Nat) : ∀ (ok : Nat -> Prop) (a b : T) (va vb : Value) (w : World), AnyJ ok w (.iface 67 va) (.table a) -> AnyJ ok w (.iface 67 vb) (.table b) -> Wf n d (.table a) -> Wf m d (.table b) ->
  Calls Tryz.prog 95 #[va, vb] w (MergedPost ok w (.table (merged a b))) := by
 induction d with
 | zero => intro ok a b va vb w _ _ h; exact h.elim
 | succ d ih =>
  intro ok a b va vb w ha hb wa wb
  obtain ⟨ba, na, fa, ea, ta⟩ := ha.tab
  obtain ⟨bb, nb, fb, eb, tb⟩ := hb.tab
  cases ea
  cases eb
  replace ta := ta.fit
  replace tb := tb.fit
  obtain ⟨na, hna⟩ : ∃ na, na = a.length := ⟨_, rfl⟩
  obtain ⟨nb, hnb⟩ : ∃ nb, nb = b.length := ⟨_, rfl⟩
  rw [← hna] at ta
  rw [← hnb] at tb
  have HN := Hd (show na + nb < 1099511627776 by have h1 := wa.2.1; have h2 := wb.2.1; omega)
  clear hna hnb
  have HA := Hd ta
  have HB := Hd tb
  have WA := Hd wa
  have WB := Hd wb
  have IH := Hd ih
  have hma := ta.map
  have hla := hma.lt
  have hlb := tb.map.lt
  clear ha hb wa wb ih ta tb
  go_enter Tryz.func95, Tryz.ntmps95
  obtain ⟨g, hg⟩ : ∃ g, g = w.heap.size := ⟨_, rfl⟩
  obtain ⟨lc, -, hlen⟩ := hma.len
  have hmk := run_makeMap67
  go_wp2_with (first | (at_range; refine wpList_rangeB rfl rfl rfl (hma.alloc _) ?_; intro w0 cnt0 hrg0 hcn0 hc0 hs0; go_frame))
  have hgz : (w.alloc (.map #[] 0)).heap.size = g + 1 := by simp [hg]
  rw [hgz] at hrg0 hs0 ⊢
  rw [← hg] at hla hlb ⊢
  have HG := Hd hg
  have HS0 := Hd hs0
  have HC0 := Hd hc0
  have hout0 : MapB w0 g 0 (fun _ => none) := by
   have h := MapB.made w
   rw [← hg] at h
   exact h.chg hc0 id
  clear hg hs0 hgz hc0 hlen
  go_loopw [6] (fun _ wr => ∃ (left : K -> Bool) (cnt no : Nat) (fo : K -> Option Value), RangeB wr ba (g + 1) na fa left cnt /\ no + cnt ≤ na /\ MapB wr g no fo /\ (∀ k, fo k = if left k then none else fa k) /\ Chg No w wr) (fun _ wr => wr.rangeLeft ba (g + 1))
  case atStart =>
   refine ⟨_, _, 0, _, hrg0, by omega, hout0, fun k => ?_, ((Chg.refl No w).alloc _).trans' HC0.out⟩
   cases h : fa k <;> simp
  case round =>
   obtain ⟨left, cnt, no, fo, hrg, hcs, hout, hA, hcw⟩ := hrel
   have HA2 := Hd hA
   have HCW := Hd hcw
   clear hA hcw hrg0 hout0 hcn0 hma
   go_wp2_with (first | (at_next; refine wpList_nextB rfl rfl rfl hrg ?_ ?_))
   ·intro hc0 hl0
    have hfo : fo = fa := funext fun k => by rw [HA2.out, hl0]; rfl
    subst hfo
    have hmb := HB.out.map.chg HCW.out id
    have hgl := hrg.lt
    clear hl0 HA2
    go_wp2_with (first | (at_range; refine wpList_rangeB rfl rfl rfl hmb ?_; intro wq cnt2 hrg2 hcn2 hcq hsq; go_frame))
    obtain ⟨r2, hr2⟩ : ∃ r2, r2 = wr.heap.size := ⟨_, rfl⟩
    rw [← hr2] at hrg2 ⊢
    have HMM0 := Hd (show MM ok w a b fo fb bb g r2 na nb wq (fun k => (fb k).isSome) cnt2 no fo from
     ⟨hrg2, by omega, hout.chg hcq id, fun k j hl hb => (by
      have h := HB.out.dom k
      rw [hl, hb] at h
      cases h), fun k _ => rfl, HCW.out.trans' hcq, by omega, by have := HG.out; omega⟩)
    have HR2 := Hd hr2
    clear hrg2 hcn2 hcq hsq hout hrg hcs hmb hr2
    go_loopw [8] (fun _ wx => ∃ (left : K -> Bool) (cnt no : Nat) (fo2 : K -> Option Value), MM ok w a b fo fb bb g r2 na nb wx left cnt no fo2 /\ r2 < wx.heap.size) (fun _ wx => wx.rangeLeft bb r2)
    case atStart => exact ⟨_, _, _, _, HMM0.out, HMM0.out.rng.lt⟩
    case round =>
     obtain ⟨left, cnt, no, fo2, hmm, hrl⟩ := hrel
     have HMM := Hd hmm
     have hrg := hmm.rng
     clear hmm HMM0
     go_wp2_with (first | (at_next; refine wpList_nextB rfl rfl rfl hrg ?_ ?_))
     ·intro hc2 hl2
      have HL2 := Hd hl2
      clear hl2
      go_wp2
      go_ret
      exact ⟨g, rfl, HMM.out.done HL2.out HA.out, HMM.out.chg⟩
     ·intro k v w1 cnt1 hk hlk hfv hrg1 hlt hc1 hs1 hen
      obtain ⟨j, hgj, haj⟩ := HB.out.some hfv
      have HK := Hd hk
      have HLK := Hd hlk
      have HJ := Hd hgj
      have HV := Hd haj
      have HLT := Hd hlt
      have HC1 := Hd hc1
      have HS1 := Hd hs1
      have HRG1 := Hd hrg1
      clear hk hlk hfv hgj haj hlt hc1 hs1 hrg1
      have hnz : no < maxLen := by
       have h1 := HMM.out.num
       have h2 := HN.out
       unfold maxLen
       have h3 := HLT.out
       omega
      have hmz := HMM.out.out.chg HC1.out (by have := HMM.out.gr; omega)
      have hcz : Chg (fun x => x = g ∨ x = r2) wr w1 := HC1.out.mono (fun i _ e => .inr e)
      have HFO := Hd (HMM.out.miss k (.inl HLK.out))
      have HVW := Hd (HV.out.old (HMM.out.chg.trans HC1.out (fun i hi e => by have := HMM.out.gr; have := HMM.out.wg; omega)) r2)
      by_cases hj : isT j = true
      ·obtain ⟨y, rfl⟩ := isT_table hj
       obtain ⟨by_, ny, fy, rfl, HTY⟩ := HV.out.tab
       have HTY := Hd HTY
       clear hj
       have has : ∀ z, (Instr.typeAssert (.iface 67 (.map (some by_))) 20 67 true).run Tryz.prog z = .ok (.tuple #[.map (some by_), .bool true]) z := fun z => run_assert67 HV.out.any0
       cases hfa : fo k with
       | none =>
        have hga := HA.out.none hfa
        have hval : AnyJ (okN ok w r2) w1 (.iface 67 (.map (some by_))) (mergedAt a k (.table y)) := by rw [mergedAt_none hga]; exact HVW.out
        have hf := HFO.out
        rw [hfa] at hf
        have HF := Hd hf
        have hrz := HRG1.out
        clear hga hf
        go_upto_region 16 with (first | (at_lookup; refine wpList_lookB rfl rfl rfl hmz rfl HK.out ?_; rw [HF.out]; go_frame))
        have HVAL := Hd hval
        have HCZ := Hd hcz
        have HRZ := Hd hrz
        clear hval hcz hrz
        go_wp2_with (first | (at_mapUpdate; refine wpList_putB (u := .iface 67 (.map (some by_))) rfl rfl rfl hmz hnz rfl HK.out rfl ?_; intro w3 hm3 hc3 hs3; go_frame))
        have HC3 := Hd hc3
        have HM3 := Hd hm3
        clear hc3 hm3 hmz
        have hbl := HB.out.map.lt
        have hwg := HMM.out.wg
        have hgr := HMM.out.gr
        have hrg3 := HRZ.out.chg HC3.out (by omega) (by omega)
        go_roundw
        case rel =>
         refine ⟨_, _, _, _, HMM.out.step hrg3 HLT.out HM3.out (HCZ.out.trans HC3.out (fun i _ e => .inl e)) HJ.out (HVAL.out.keep HC3.out (fun x _ hx e => ?_)), by have := HCZ.out.size; omega⟩
         rcases hx with hx | hx
         ·have := hx.2; omega
         ·omega
        case measure => rw [hrg3.left_eq, HMM.out.rng.left_eq]; exact HLT.out
       | some u =>
        obtain ⟨x, hgx, hax⟩ := HA.out.some hfa
        have HX := Hd hax
        have HGX := Hd hgx
        have hf := HFO.out
        rw [hfa] at hf
        have HF := Hd hf
        have hrz := HRG1.out
        clear hax hgx hf
        by_cases hx : isT x = true
        ·obtain ⟨xt, rfl⟩ := isT_table hx
         obtain ⟨bx, nx, fx, rfl, HTX⟩ := HX.out.tab
         have HTX := Hd HTX
         clear hx
         have has2 : ∀ z, (Instr.typeAssert (.iface 67 (.map (some bx))) 20 67 true).run Tryz.prog z = .ok (.tuple #[.map (some bx), .bool true]) z := fun z => run_assert67 HX.out.any0
         go_wp2_with (first | (at_lookup; refine wpList_lookB rfl rfl rfl hmz rfl HK.out ?_; rw [HF.out]; go_frame))
         have HCW1 := Hd (show Chg No w w1 from HMM.out.chg.trans HC1.out (fun i hi e => by have := HMM.out.gr; have := HMM.out.wg; omega))
         have HS2 := Hd (show r2 < w1.heap.size by have := HS1.out; omega)
         refine (IH.out (okB ok w) xt y _ _ _ (HX.out.bel.chg HCW1.out (fun _ _ e => e)) (HV.out.bel.chg HCW1.out (fun _ _ e => e)) (WA.out.get HGX.out).2 (WB.out.get HJ.out).2).mono ?_
         rintro e w2 ⟨rn, rfl, hva, hc2⟩
         have hval : AnyJ (okN ok w r2) w2 (.iface 67 (.map (some rn))) (mergedAt a k (.table y)) := by
          rw [show mergedAt a k (.table y) = .table (merged xt y) by simp only [mergedAt, HGX.out]]
          refine hva.mono (fun z _ hz => ?_)
          rcases hz with hz | hz
          ·exact .inl hz
          ·exact .inr (by have := HS2.out; omega)
         replace hmz := hmz.chg hc2 id
         replace hcz := hcz.trans' hc2
         replace hrz := hrz.chg hc2 id id
         clear hva hc2
         have HVAL := Hd hval
         have HCZ := Hd hcz
         have HRZ := Hd hrz
         clear hval hcz hrz
         go_wp2_with (first | (at_mapUpdate; refine wpList_putB (u := .iface 67 (.map (some rn))) rfl rfl rfl hmz hnz rfl HK.out rfl ?_; intro w3 hm3 hc3 hs3; go_frame))
         have HC3 := Hd hc3
         have HM3 := Hd hm3
         clear hc3 hm3 hmz
         have hbl := HB.out.map.lt
         have hwg := HMM.out.wg
         have hgr := HMM.out.gr
         have hrg3 := HRZ.out.chg HC3.out (by omega) (by omega)
         go_roundw
         case rel =>
          refine ⟨_, _, _, _, HMM.out.step hrg3 HLT.out HM3.out (HCZ.out.trans HC3.out (fun i _ e => .inl e)) HJ.out (HVAL.out.keep HC3.out (fun x _ hx e => ?_)), by have := HCZ.out.size; omega⟩
          rcases hx with hx | hx
          ·have := hx.2; omega
          ·omega
         case measure => rw [hrg3.left_eq, HMM.out.rng.left_eq]; exact HLT.out
        ·have hx' : isT x = false := by simpa using hx
         have hval : AnyJ (okN ok w r2) w1 (.iface 67 (.map (some by_))) (mergedAt a k (.table y)) := by rw [mergedAt_other HGX.out hx']; exact HVW.out
         have has2 : ∀ z, (Instr.typeAssert u 20 67 true).run Tryz.prog z = .ok (.tuple #[mapOf u, .bool false]) z := fun z => hx' ▸ run_assert67 HX.out.any0
         go_upto_region 16 with (first | (at_lookup; refine wpList_lookB rfl rfl rfl hmz rfl HK.out ?_; rw [HF.out]; go_frame))
         have HVAL := Hd hval
         have HCZ := Hd hcz
         have HRZ := Hd hrz
         clear hval hcz hrz
         go_wp2_with (first | (at_mapUpdate; refine wpList_putB (u := .iface 67 (.map (some by_))) rfl rfl rfl hmz hnz rfl HK.out rfl ?_; intro w3 hm3 hc3 hs3; go_frame))
         have HC3 := Hd hc3
         have HM3 := Hd hm3
         clear hc3 hm3 hmz
         have hbl := HB.out.map.lt
         have hwg := HMM.out.wg
         have hgr := HMM.out.gr
         have hrg3 := HRZ.out.chg HC3.out (by omega) (by omega)
         go_roundw
         case rel =>
          refine ⟨_, _, _, _, HMM.out.step hrg3 HLT.out HM3.out (HCZ.out.trans HC3.out (fun i _ e => .inl e)) HJ.out (HVAL.out.keep HC3.out (fun x _ hx e => ?_)), by have := HCZ.out.size; omega⟩
          rcases hx with hx | hx
          ·have := hx.2; omega
          ·omega
         case measure => rw [hrg3.left_eq, HMM.out.rng.left_eq]; exact HLT.out
      ·have hj' : isT j = false := by simpa using hj
       have hval : AnyJ (okN ok w r2) w1 v (mergedAt a k j) := by rw [mergedAt_plain hj']; exact HVW.out
       have hrz := HRG1.out
       have has : ∀ z, (Instr.typeAssert v 20 67 true).run Tryz.prog z = .ok (.tuple #[mapOf v, .bool false]) z := fun z => hj' ▸ run_assert67 HV.out.any0
       clear hj
       go_upto_region 16 with fail
       have HVAL := Hd hval
       have HCZ := Hd hcz
       have HRZ := Hd hrz
       clear hval hcz hrz
       go_wp2_with (first | (at_mapUpdate; refine wpList_putB (u := v) rfl rfl rfl hmz hnz rfl HK.out rfl ?_; intro w3 hm3 hc3 hs3; go_frame))
       have HC3 := Hd hc3
       have HM3 := Hd hm3
       clear hc3 hm3 hmz
       have hbl := HB.out.map.lt
       have hwg := HMM.out.wg
       have hgr := HMM.out.gr
       have hrg3 := HRZ.out.chg HC3.out (by omega) (by omega)
       go_roundw
       case rel =>
        refine ⟨_, _, _, _, HMM.out.step hrg3 HLT.out HM3.out (HCZ.out.trans HC3.out (fun i _ e => .inl e)) HJ.out (HVAL.out.keep HC3.out (fun x _ hx e => ?_)), by have := HCZ.out.size; omega⟩
        rcases hx with hx | hx
        ·have := hx.2; omega
        ·omega
       case measure => rw [hrg3.left_eq, HMM.out.rng.left_eq]; exact HLT.out
   ·intro k v w1 cnt1 hk hlk hfv hrg1 hlt hc1 hs1 hen
    have hout1 := hout.chg hc1 (by omega)
    have HC1 := Hd hc1
    have HS1 := Hd hs1
    have HFV := Hd hfv
    have HN1 := HN.out
    have hnz : no < maxLen := by unfold maxLen; omega
    clear hc1 hs1 hfv hlk
    go_wp2_with (first | (at_mapUpdate; refine wpList_putB (u := v) rfl rfl rfl hout1 hnz rfl hk rfl ?_; intro w2 hm2 hc2 hs2; go_frame))
    have hrg2 := hrg1.chg hc2 (by omega) (by omega)
    go_roundw
    case rel =>
     refine ⟨_, cnt1, _, _, hrg2, by omega, hm2, fun z => ?_, (HCW.out.trans HC1.out (fun i hi e => by have := HG.out; omega)).trans hc2 (fun i hi e => by have := HG.out; omega)⟩
     by_cases e : z = k
     ·subst e; simp [HFV.out]
     ·simp only [if_neg e, HA2.out]
      simp [e]
    case measure => rw [hrg2.left_eq, hrg.left_eq]; exact hlt
theorem mergeMaps_nil (n : Nat) (hnm : n < 1099511627776) (d : Nat) : ∀ (ok : Nat -> Prop) (a : T) (va : Value) (w : World), AnyJ ok w (.iface 67 va) (.table a) -> Wf n (d + 1) (.table a) ->
  Calls Tryz.prog 95 #[va, .map none] w (MergedPost ok w (.table a)) := by
 intro ok a va w ha wa
 obtain ⟨ba, na, fa, ea, ta⟩ := ha.tab
 cases ea
 replace ta := ta.fit
 obtain ⟨na, hna⟩ : ∃ na, na = a.length := ⟨_, rfl⟩
 rw [← hna] at ta
 have HN := Hd (show na < 1099511627776 by have h1 := wa.2.1; omega)
 clear hna
 have HA := Hd ta
 have WA := Hd wa
 have hma := ta.map
 have hla := hma.lt
 clear ha wa ta
 go_enter Tryz.func95, Tryz.ntmps95
 obtain ⟨g, hg⟩ : ∃ g, g = w.heap.size := ⟨_, rfl⟩
 obtain ⟨lc, -, hlen⟩ := hma.len
 have hmk := run_makeMap67
 go_wp2_with (first | (at_range; refine wpList_rangeB rfl rfl rfl (hma.alloc _) ?_; intro w0 cnt0 hrg0 hcn0 hc0 hs0; go_frame))
 have hgz : (w.alloc (.map #[] 0)).heap.size = g + 1 := by simp [hg]
 rw [hgz] at hrg0 hs0 ⊢
 rw [← hg] at hla ⊢
 have HG := Hd hg
 have HS0 := Hd hs0
 have HC0 := Hd hc0
 have hout0 : MapB w0 g 0 (fun _ => none) := by
  have h := MapB.made w
  rw [← hg] at h
  exact h.chg hc0 id
 clear hg hs0 hgz hc0 hlen
 go_loopw [6] (fun _ wr => ∃ (left : K -> Bool) (cnt no : Nat) (fo : K -> Option Value), RangeB wr ba (g + 1) na fa left cnt /\ no + cnt ≤ na /\ MapB wr g no fo /\ (∀ k, fo k = if left k then none else fa k) /\ Chg No w wr) (fun _ wr => wr.rangeLeft ba (g + 1))
 case atStart =>
  refine ⟨_, _, 0, _, hrg0, by omega, hout0, fun k => ?_, ((Chg.refl No w).alloc _).trans' HC0.out⟩
  cases h : fa k <;> simp
 case round =>
  obtain ⟨left, cnt, no, fo, hrg, hcs, hout, hA, hcw⟩ := hrel
  have HA2 := Hd hA
  have HCW := Hd hcw
  clear hA hcw hrg0 hout0 hcn0 hma
  go_wp2_with (first | (at_next; refine wpList_nextB rfl rfl rfl hrg ?_ ?_))
  ·intro hc0 hl0
   have hfo : fo = fa := funext fun k => by rw [HA2.out, hl0]; rfl
   subst hfo
   have hrgn := run_range_nilMap (P := Tryz.prog) wr 67 9 20 Tryz.underlying67
   have hnx : ∀ ty, (Instr.next (.pointer (some ⟨wr.heap.size, 0, none⟩)) false ty).run Tryz.prog (wr.alloc (.mapIter none 0 #[] 0)) = _ := fun ty => run_next_nilMap _ ty 0 0 #[]
   clear hl0 HA2
   go_wp2
   refine wp_loop_rounds 1 ?_
   rw [rounds_succ]
   go_wp2
   go_ret
   refine ⟨g, rfl, AnyJ.table (hout.alloc _) (.inr (by have := HG.out; omega)) HA.out.dom (fun k u x h1 h2 => ((HA.out.val k u x h1 h2).keep (HCW.out.alloc _) (fun _ _ _ e => e)).mono (fun _ _ e => .inl e)), HCW.out.alloc _⟩
  ·intro k v w1 cnt1 hk hlk hfv hrg1 hlt hc1 hs1 hen
   have hout1 := hout.chg hc1 (by omega)
   have HC1 := Hd hc1
   have HS1 := Hd hs1
   have HFV := Hd hfv
   have HN1 := HN.out
   have hnz : no < maxLen := by unfold maxLen; omega
   clear hc1 hs1 hfv hlk
   go_wp2_with (first | (at_mapUpdate; refine wpList_putB (u := v) rfl rfl rfl hout1 hnz rfl hk rfl ?_; intro w2 hm2 hc2 hs2; go_frame))
   have hrg2 := hrg1.chg hc2 (by omega) (by omega)
   go_roundw
   case rel =>
    refine ⟨_, cnt1, _, _, hrg2, by omega, hm2, fun z => ?_, (HCW.out.trans HC1.out (fun i hi e => by have := HG.out; omega)).trans hc2 (fun i hi e => by have := HG.out; omega)⟩
    by_cases e : z = k
    ·subst e; simp [HFV.out]
    ·simp only [if_neg e, HA2.out]
     simp [e]
   case measure => rw [hrg2.left_eq, hrg.left_eq]; exact hlt
mutual
def sz : J -> Nat
 | .list xs => 1 + szL xs
 | .table kvs => 1 + szT kvs
 | .null => 1
 | .bool _ => 1
 | .int _ => 1
 | .float _ => 1
 | .text _ => 1
def szL : List J -> Nat
 | [] => 0
 | x :: r => sz x + szL r
def szT : List (K × J) -> Nat
 | [] => 0
 | p :: r => szP p + szT r
def szP : K × J -> Nat
 | (_, x) => sz x
end
theorem sz_pos (j : J) : 1 ≤ sz j := by cases j <;> simp [sz]
theorem szP_eq (p : K × J) : szP p = sz p.2 := by cases p; rfl
theorem szL_take (xs : List J) (n : Nat) (x : J) (h : xs[n]? = some x) : szL (xs.take n) + sz x = szL (xs.take (n + 1)) := by
 induction xs generalizing n with
 | nil => simp at h
 | cons y r ih =>
  cases n with
  | zero => simp at h; subst h; simp [szL]
  | succ n => simp at h; have := ih n h; simp [szL]; omega
theorem szT_take (xs : T) (n : Nat) (p : K × J) (h : xs[n]? = some p) : szT (xs.take n) + sz p.2 = szT (xs.take (n + 1)) := by
 induction xs generalizing n with
 | nil => simp at h
 | cons y r ih =>
  cases n with
  | zero => simp at h; subst h; simp [szT]; rw [szP_eq]
  | succ n => simp at h; have := ih n h; simp [szT]; omega
theorem szL_le (xs : List J) (n : Nat) : szL (xs.take n) ≤ szL xs := by
 induction xs generalizing n with
 | nil => simp [szL]
 | cons y r ih => cases n with
  | zero => simp [szL]
  | succ n => have := ih n; simp [szL]; omega
theorem szT_le (xs : T) (n : Nat) : szT (xs.take n) ≤ szT xs := by
 induction xs generalizing n with
 | nil => simp [szT]
 | cons y r ih => cases n with
  | zero => simp [szT]
  | succ n => have := ih n; simp [szT]; omega
theorem szL_length (xs : List J) : xs.length ≤ szL xs := by
 induction xs with
 | nil => simp
 | cons y r ih => have := sz_pos y; simp [szL]; omega
theorem Blk.setCell {w : World} {g : Nat} {cs : List Value} {ty : TypeId} (h : Blk w g cs ty) (i : Nat) (v : Value) :
  Blk (w.setCell ⟨g, i, none⟩ v) g (cs.set i v) ty /\ Chg (· = g) w (w.setCell ⟨g, i, none⟩ v) /\ (w.setCell ⟨g, i, none⟩ v).heap.size = w.heap.size := by
 have h1 : (w.setCell ⟨g, i, none⟩ v).heap.size = w.heap.size := by simp [World.setCell]
 refine ⟨?_, (Chg.refl (· = g) w).setCell (p := ⟨g, i, none⟩) (fun _ => rfl) v, h1⟩
 have hlt := h.lt
 unfold Blk at *
 have h2 : w.heap[g] = .cells cs.toArray ty (0, 0) := by rw [Array.getElem?_eq_getElem hlt] at h; exact Option.some.inj h
 rw [Array.getElem?_eq_getElem (by rw [h1]; exact hlt)]
 simp only [World.setCell, Array.getElem_modify, if_pos, h2]
 simp
theorem OwnR.made {w : World} {base e size : Nat} (hb : base ≤ w.heap.size) : OwnR (w.alloc (.cells #[] e)) base e size (.slice (some ⟨w.heap.size, 0, none⟩) 0 0) [] :=
 ⟨by simp, by simp, .inr ⟨_, 0, #[], rfl, hb, heap_alloc_new w _, by simp, by simp, by simp, by simp⟩⟩
theorem elem151 : ElemTy Tryz.prog 151 20 1 16 := by
 refine ⟨Tryz.underlying151, ?_, by decide⟩
 have h : (Tryz.prog.info? 20).map (fun i => (i.zero, i.size, i.bytes)) = some (some .nilIface, 1, 16) := by kernel_rfl
 obtain ⟨i, h1, h2, h3, h4⟩ := info_parts h
 exact ⟨i, _, h1, h2, h3, h4, rfl⟩
theorem AnyJ.one {ok : Nat -> Prop} {w : World} {v : Value} {j : J} (h : AnyJ ok w v j) : v.oneCell' = true := by cases h <;> rfl
theorem ValJ.keepP {ok S : Nat -> Prop} {w w' : World} {cs : List Value} {j : J} (h : ValJ ok w cs j) (hc : Chg S w w') (hs : ∀ b, b < w.heap.size -> ok b -> ¬ S b) : ValJ (okB ok w) w' cs j :=
 (h.mono (ok' := okB ok w) (fun b hb hb2 => ⟨hb2, hb⟩)).chg hc (fun b hb => hs b hb.2 hb.1)
abbrev okF (B : Nat) (v : Value) : Nat -> Prop := fun x => B ≤ x /\ v.ownBlock ≠ some x
structure AL (w : World) (p c g : Nat) (bx : List Value) (xs : List J) (wr : World) (n : Nat) (v : Value) (vs : List Value) : Prop where
 le : n ≤ xs.length
 out : OwnR wr (g + 1) 20 1 v (vs.map fun u => [u])
 len : vs.length = n
 val : ∀ (i : Nat) (u : Value) (x : J), vs[i]? = some u -> xs[i]? = some x -> AnyJ (okF w.heap.size v) wr u x
 chg : Chg (· = p) w wr
 cnt : Blk wr p [.int .i64 ((c + 1 + szL (xs.take n) : Nat) : Int)] 3
 box : Blk wr g bx 26
 size : g < wr.heap.size
theorem AL.done {w : World} {p c g : Nat} {bx : List Value} {xs : List J} {wr : World} {v : Value} {vs : List Value} (h : AL w p c g bx xs wr xs.length v vs) (hg : w.heap.size ≤ g) : AnyJ (fun x => w.heap.size ≤ x) wr (.iface 151 v) (.list xs) := by
 refine .list (h.out.rowAt.mono (fun b _ hb => ?_) (by decide)) h.len (fun n u x hu hx => (h.val n u x hu hx).mono (fun b _ hb => hb.1))
 have := (h.out.elem hb).1
 omega
theorem AL.step {w : World} {p c g : Nat} {bx : List Value} {xs : List J} {wr : World} {n : Nat} {v : Value} {vs : List Value} (h : AL w p c g bx xs wr n v vs) (hg : w.heap.size ≤ g) (hp : p < w.heap.size) {x : J} (hx : xs[n]? = some x)
  {w3 w4 w6 : World} {u v' : Value} (h3 : Chg No wr w3) (h4 : Chg (· = p) w3 w4) (hau : AnyJ (fun y => w3.heap.size ≤ y) w4 u x) (hp4 : Blk w4 p [.int .i64 ((c + 1 + szL (xs.take n) + sz x : Nat) : Int)] 3)
  (h6 : Chg (fun b => v.ownBlock = some b) (w4.alloc (.cells #[u] 20)) w6) (hown : OwnR w6 (g + 1) 20 1 v' (vs.map (fun u => [u]) ++ [[u]])) (hv : v'.ownBlock = v.ownBlock ∨ ∀ k, v'.ownBlock = some k -> (w4.alloc (.cells #[u] 20)).heap.size ≤ k) :
  AL w p c g bx xs w6 (n + 1) v' (vs ++ [u]) := by
 have hlt : n < xs.length := (List.getElem?_eq_some_iff.1 hx).1
 have hel : ∀ k, v.ownBlock = some k -> g + 1 ≤ k /\ k < wr.heap.size := fun k hk => ⟨(h.out.elem hk).1, (h.out.elem hk).2.1⟩
 have c1 : Chg (fun b => b = p ∨ v.ownBlock = some b) w3 w6 := ((h4.mono (fun i _ e => .inl e)).alloc _).trans h6 (fun i _ e => .inr e)
 have c2 : Chg (fun b => b = p ∨ v.ownBlock = some b) wr w6 := (h3.mono (fun i _ e => e.elim)).trans c1 (fun i _ e => e)
 have hs3 := h3.size
 have hs4 := h4.size
 refine ⟨hlt, by simpa using hown, by simp [h.len], fun i u' x' hu hx' => ?_, h.chg.trans c2 (fun i hi e => ?_), ?_, h.box.chg c2 (fun e => ?_), Nat.lt_of_lt_of_le h.size c2.size⟩
 ·have hmono : ∀ b, b < w4.heap.size -> v.ownBlock ≠ some b -> v'.ownBlock ≠ some b := fun b hb hne e => by
   rcases hv with hv | hv
   ·exact hne (hv ▸ e)
   ·have := hv b e; simp at this; omega
  by_cases hi : i < vs.length
  ·rw [List.getElem?_append_left hi] at hu
   have hk2 := (h.val i u' x' hu hx').mono (ok' := fun b => okF w.heap.size v b /\ b < wr.heap.size) (fun b hb hb2 => ⟨hb2, hb⟩)
   have hk3 := hk2.chg c2 (fun b hb e => by
    rcases e with e | e
    ·have := hb.1.1; omega
    ·exact hb.1.2 e)
   exact hk3.mono (fun b _ hb => ⟨hb.1.1, hmono b (by have := hb.2; omega) hb.1.2⟩)
  ·have hi2 : i = vs.length := by
    have := (List.getElem?_eq_some_iff.1 hu).1
    simp at this
    omega
   subst hi2
   rw [List.getElem?_append_right (Nat.le_refl _), Nat.sub_self] at hu
   cases hu
   rw [h.len, hx] at hx'
   cases hx'
   have hk2 := hau.mono (ok' := fun b => w3.heap.size ≤ b /\ b < w4.heap.size) (fun b hb hb2 => ⟨hb2, hb⟩)
   have hk3 := hk2.chg ((Chg.refl No w4).alloc (.cells #[u] 20)) (fun b hb e => e)
   have hk4 := hk3.chg h6 (fun b hb e => by have := (hel b e).2; have := hb.1; omega)
   refine hk4.mono (fun b _ hb => ⟨by have := h.size; have := hb.1; omega, hmono b hb.2 (fun e => ?_)⟩)
   have := (hel b e).2
   have := hb.1
   omega
 ·rcases e with e | e
  ·exact e
  ·have := (hel i e).1; omega
 ·rw [← szL_take xs n x hx, ← Nat.add_assoc]
  exact (hp4.alloc _).chg h6 (fun e => by have := (hel p e).1; omega)
 ·rcases e with e | e
  ·omega
  ·have := (hel g e).1; omega
structure AM (w : World) (p c g m : Nat) (bx : List Value) (kvs : T) (wr : World) (n : Nat) (f : K -> Option Value) : Prop where
 le : n ≤ kvs.length
 out : MapB wr m n f
 hit : ∀ (k : K) (j : J), get (kvs.take n) k = some j -> ∃ u, f k = some u /\ AnyJ (fun x => w.heap.size ≤ x /\ x ≠ m) wr u j
 miss : ∀ (k : K), get (kvs.take n) k = none -> f k = none
 chg : Chg (· = p) w wr
 cnt : Blk wr p [.int .i64 ((c + 1 + szT (kvs.take n) : Nat) : Int)] 3
 box : Blk wr g bx 26
 gm : g < m
theorem AM.done {w : World} {p c g m : Nat} {bx : List Value} {kvs : T} {wr : World} {f : K -> Option Value} (h : AM w p c g m bx kvs wr kvs.length f) (hg : w.heap.size ≤ g) : AnyJ (fun x => w.heap.size ≤ x) wr (.iface 67 (.map (some m))) (.table kvs) := by
 have hh := h.hit
 have hm := h.miss
 rw [List.take_length] at hh hm
 refine .table h.out (by have := h.gm; omega) (fun k => ?_) (fun k u x hf hx => ?_)
 ·cases hx : get kvs k with
  | none => rw [hm k hx]; rfl
  | some j => obtain ⟨u, h1, -⟩ := hh k j hx; rw [h1]; rfl
 ·obtain ⟨u', h1, h2⟩ := hh k x hx
  rw [hf] at h1
  cases h1
  exact h2.mono (fun b _ hb => hb.1)
theorem AM.step {w : World} {p c g m : Nat} {bx : List Value} {kvs : T} {wr : World} {n : Nat} {f : K -> Option Value} (h : AM w p c g m bx kvs wr n f) (hs : Sorted kvs) (hg : w.heap.size ≤ g) (hp : p < w.heap.size) {q : K × J} (hx : kvs[n]? = some q)
  {w4 w6 : World} {u : Value} (h4 : Chg (· = p) wr w4) (hau : AnyJ (fun y => wr.heap.size ≤ y) w4 u q.2) (hp4 : Blk w4 p [.int .i64 ((c + 1 + szT (kvs.take n) + sz q.2 : Nat) : Int)] 3)
  (h6 : Chg (· = m) w4 w6) (hout : MapB w6 m (n + 1) (fun z => if z = q.1 then some u else f z)) :
  AM w p c g m bx kvs w6 (n + 1) (fun z => if z = q.1 then some u else f z) := by
 have hlt : n < kvs.length := (List.getElem?_eq_some_iff.1 hx).1
 have hgm := h.gm
 have ht : kvs.take (n + 1) = kvs.take n ++ [q] := by rw [List.take_add_one, hx]; rfl
 have hsn := sorted_take hs (n + 1)
 rw [ht] at hsn
 have c2 : Chg (fun b => b = p ∨ b = m) wr w6 := (h4.mono (fun i _ e => .inl e)).trans h6 (fun i _ e => .inr e)
 have hml := h.out.lt
 have hs4 := h4.size
 refine ⟨hlt, hout, fun k j hj => ?_, fun k hk => ?_, h.chg.trans c2 (fun i hi e => by omega), ?_, h.box.chg c2 (fun e => by omega), hgm⟩
 ·rw [ht, get_snoc hsn] at hj
  by_cases e : q.1 = k
  ·rw [if_pos e] at hj
   cases hj
   refine ⟨u, if_pos e.symm, ?_⟩
   have hk2 := hau.mono (ok' := fun b => wr.heap.size ≤ b /\ b < w4.heap.size) (fun b hb hb2 => ⟨hb2, hb⟩)
   have hk3 := hk2.chg h6 (fun b hb e => by have := hb.1; omega)
   exact hk3.mono (fun b _ hb => ⟨by have := hb.1; omega, by have := hb.1; omega⟩)
  ·rw [if_neg e] at hj
   obtain ⟨u', h1, h2⟩ := h.hit k j hj
   refine ⟨u', by simp only [if_neg (fun e2 : k = q.1 => e e2.symm)]; exact h1, ?_⟩
   exact h2.keep c2 (fun b _ hb e => by
    have h3 := hb.1
    have h4 := hb.2
    omega)
 ·rw [ht, get_snoc hsn] at hk
  by_cases e : q.1 = k
  ·rw [if_pos e] at hk; cases hk
  ·rw [if_neg e] at hk
   simp only [if_neg (fun e2 : k = q.1 => e e2.symm)]
   exact h.miss k hk
 ·rw [← szT_take kvs n q hx, ← Nat.add_assoc]
  exact hp4.chg h6 (fun e => by omega)
def AnyPost (w : World) (p c : Nat) (j : J) (e : Ending) (w' : World) : Prop :=
 ∃ v, e = .returned (.tuple #[v, .bool true]) /\ AnyJ (fun x => w.heap.size ≤ x) w' v j /\ Chg (· = p) w w' /\ Blk w' p [.int .i64 ((c + sz j : Nat) : Int)] 3
theorem anyOf_any (N : Nat) (hN : N < 1099511627776) (d : Nat) : ∀ (ok : Nat -> Prop) (j : J) (cs : List Value) (w : World) (p c dep : Nat), ValJ ok w cs j -> Wf N d j -> Blk w p [.int .i64 (c : Int)] 3 -> ¬ ok p -> c + sz j ≤ 2000 -> dep + d ≤ 61 ->
  Calls Tryz.prog 82 #[.agg cs.toArray, .int .i64 (dep : Int), .pointer (some ⟨p, 0, none⟩)] w (AnyPost w p c j) := by
 induction d with
 | zero => intro ok j cs w p c dep _ h; exact h.elim
 | succ d ih =>
  intro ok j cs w p c dep hv wf hp hnp hc hd
  obtain ⟨k, b, i, f, t, kv, lv, rfl⟩ := hv.seven
  have hc1 := sz_pos j
  have hpc : w.cell? ⟨p, 0, none⟩ = some (.int .i64 (c : Int)) := hp.cell 0
  have hpf := hp.frozen 0
  have hpl := hp.lt
  have HV := Hd hv
  have WF := Hd wf
  have IH := Hd ih
  have HP := Hd hp
  have HNP := Hd hnp
  have hc2 : (c : Int) < 2000 := by omega
  have hd2 : (dep : Int) ≤ 60 := by omega
  have hd3 : (dep : Int) + 1 ≤ 61 := by omega
  have HCC := Hd hc
  have HD := Hd hd
  clear hv wf ih hp hnp hc hd hc1
  go_enter Tryz.func82, Tryz.ntmps82
  unfold cells7
  go_upto_region 2 with fail
  obtain ⟨hb1, hcs1, hss1⟩ := HP.out.setCell 0 (.int .i64 ((c : Int) + 1))
  obtain ⟨g, hg⟩ : ∃ g, g = w.heap.size := ⟨_, rfl⟩
  have hbx := Blk.new (w.setCell ⟨p, 0, none⟩ (.int .i64 ((c : Int) + 1))) (cells7 k b i f t kv lv) 26
  replace hb1 := hb1.alloc (.cells (cells7 k b i f t kv lv).toArray 26)
  replace hcs1 := hcs1.alloc (.cells (cells7 k b i f t kv lv).toArray 26)
  have hs1 : g < ((w.setCell ⟨p, 0, none⟩ (.int .i64 ((c : Int) + 1))).alloc (.cells (cells7 k b i f t kv lv).toArray 26)).heap.size := by simp [hss1, hg]
  rw [hss1, ← hg] at hbx
  rw [← hg] at hpl ⊢
  have HG := Hd hg
  unfold cells7 at hbx hb1 hcs1 hs1
  generalize (w.setCell ⟨p, 0, none⟩ (.int .i64 ((c : Int) + 1))).alloc _ = w1 at hbx hb1 hcs1 hs1 ⊢
  have HB1 := Hd hb1
  have HCS := Hd hcs1
  have hpc1 : w1.cell? ⟨p, 0, none⟩ = some (.int .i64 ((c : Int) + 1)) := hb1.cell 0
  have hd4 : ¬ (2000 : Int) < (c : Int) + 1 := by omega
  have hd5 : ¬ (60 : Int) < (dep : Int) := by omega
  have HBX := Hd hbx
  have hk0 : w1.cell? ⟨g, 0, none⟩ = some (.int .i64 k) := hbx.cell 0
  clear hbx
  clear hpc hpf hss1 hb1 hcs1 hg
  have hlast : ∀ (j : J), c + sz j = c + 1 -> Blk w1 p [.int .i64 ((c + sz j : Nat) : Int)] 3 := fun j hj => by rw [hj]; exact HB1.out
  have HLAST := Hd hlast
  clear hlast
  cases HV.out with
  | null hk hl =>
   clear hk hl
   go_wp2
   go_ret2
   exact ⟨_, rfl, .null, HCS.out, HLAST.out .null rfl⟩
  | bool hk hl =>
   clear hk hl
   have hk1 := HBX.out.cell 1
   simp only [List.getElem?_cons_succ, List.getElem?_cons_zero] at hk1
   go_wp2
   go_ret2
   exact ⟨_, rfl, .bool, HCS.out, HLAST.out (.bool b) rfl⟩
  | int hk hl =>
   clear hk hl
   have hk2 := HBX.out.cell 2
   simp only [List.getElem?_cons_succ, List.getElem?_cons_zero] at hk2
   go_wp2
   go_ret2
   exact ⟨_, rfl, .int, HCS.out, HLAST.out (.int i) rfl⟩
  | float hk hl =>
   clear hk hl
   have hk3 := HBX.out.cell 3
   simp only [List.getElem?_cons_succ, List.getElem?_cons_zero] at hk3
   go_wp2
   go_ret2
   exact ⟨_, rfl, .float, HCS.out, HLAST.out (.float f) rfl⟩
  | text hk hl =>
   clear hk hl
   have hk4 := HBX.out.cell 4
   simp only [List.getElem?_cons_succ, List.getElem?_cons_zero] at hk4
   go_wp2
   go_ret2
   exact ⟨_, rfl, .text, HCS.out, HLAST.out (.text t) rfl⟩
  | @list _ _ _ _ _ _ rows xs hk hl hn hr =>
   have HR := Hd hr
   have HL := Hd hl
   have HN := Hd hn
   have hl1 := hl.1
   obtain ⟨-, -, la, lc, rfl, -, -⟩ := hl
   unfold maxLen at hl1
   have hk6 : w1.cell? ⟨g, 6, none⟩ = some (.slice la rows.length lc) := HBX.out.cell 6
   clear hk hr hn
   go_wp2_with fail
   have HPG := Hd (show w.heap.size ≤ g /\ p < w.heap.size by have := HG.out; omega)
   have HAL0 := Hd (show AL w p c g (cells7 6 b i f t kv (.slice la rows.length lc)) xs (w1.alloc (.cells #[] 20)) 0 (.slice (some ⟨w1.heap.size, 0, none⟩) 0 0) [] from
    ⟨Nat.zero_le _, OwnR.made (by omega), rfl, fun i u x h => by simp at h, HCS.out.alloc _, by simpa [szL] using HB1.out.alloc (.cells #[] 20), HBX.out.alloc _, by simp; omega⟩)
   clear hk0 hk6 hs1 HB1 HCS HLAST HBX hpc1
   go_loopw [8, 61] (fun v ct wr => ∃ (n : Nat) (vs : List Value), ct = .int .i64 n /\ AL w p c g (cells7 6 b i f t kv (.slice la rows.length lc)) xs wr n v vs) (fun _ ct _ => xs.length - (intOf ct).toNat)
   case atStart => exact ⟨0, [], rfl, HAL0.out⟩
   case round =>
    obtain ⟨n, vs, rfl, hal⟩ := hrel
    have HAL := Hd hal
    clear hal HAL0
    by_cases hlt : n < xs.length
    ·have hx : xs[n]? = some (xs[n]) := List.getElem?_eq_getElem hlt
     have hlt2 : n < rows.length := by rw [HN.out]; exact hlt
     obtain ⟨r, hr0⟩ : ∃ r, rows[n]? = some r := ⟨_, List.getElem?_eq_getElem hlt2⟩
     obtain ⟨lb, lo, rfl, hlok, hlc⟩ := HL.out.at (i := n) (r := r) hr0
     have HLC := hlc.chg HAL.out.chg (fun e => HNP.out (e ▸ hlok))
     have HV2 := Hd (HR.out n r _ hr0 hx)
     obtain ⟨rk, rb, ri, rf, rt, rkv, rlv, rfl⟩ := HV2.out.seven
     have h64 : (n : Int) < (rows.length : Int) := by omega
     have ho1 : (cells7 rk rb ri rf rt rkv rlv).all (·.oneCell') = true := HV2.out.one
     have HX := Hd hx
     clear hr0 hlc hx
     generalize xs[n] = x at HX HV2
     go_wp2_with (first | (with_reducible refine wpList_loadAgg rfl agg26 rfl rfl HLC rfl ?_) | (with_reducible refine wpList_storeNew rfl agg26 rfl rfl rfl rfl rfl ho1 ?_) | (with_reducible refine wpList_loadAgg rfl agg26 rfl rfl (Blk.new wr (cells7 rk rb ri rf rt rkv rlv) 26).cells rfl ?_))
     have hal := HAL.out
     have hszl : c + 1 + szL (xs.take n) + sz x ≤ 2000 := by
      have h1 := szL_take xs n x HX.out
      have h2 := szL_le xs (n + 1)
      have h3 := HCC.out
      simp only [sz] at h3
      omega
     have hcall := IH.out (okB ok w) x (cells7 rk rb ri rf rt rkv rlv) (wr.alloc (.cells (cells7 rk rb ri rf rt rkv rlv).toArray 26)) p (c + 1 + szL (xs.take n)) (dep + 1) (HV2.out.keepP (hal.chg.alloc _) (fun y hy hok e => HNP.out (e ▸ hok))) (WF.out.2 _ (List.mem_of_getElem? HX.out)) (hal.cnt.alloc _) (fun h => HNP.out h.1) hszl (by have := HD.out; omega)
     rw [show ((dep + 1 : Nat) : Int) = (dep : Int) + 1 by omega] at hcall
     refine hcall.mono ?_
     rintro e w4 ⟨u, rfl, hau, hc4, hp4⟩
     have HSTEP := Hd (fun w6 v' => hal.step (w6 := w6) (v' := v') HPG.out.1 HPG.out.2 HX.out ((Chg.refl No wr).alloc _) hc4 hau hp4)
     have hown := (hal.out.chg (((Chg.refl No wr).alloc (.cells (cells7 rk rb ri rf rt rkv rlv).toArray 26)).trans' (Chg.refl No _)) (fun _ _ e => e)).chg hc4 (fun k hk e => by have := (hal.out.elem hk).1; omega)
     have hou := hau.one
     have hbld := run_build151 u hou
     have hnb : (vs.map fun u => [u]).length + 1 ≤ 1099511627776 := by
      have h1 := szL_length xs
      have h3 := HCC.out
      simp only [sz] at h3
      rw [List.length_map, hal.len]
      omega
     have hbs : g + 1 ≤ w4.heap.size + 1 := by have := hal.size; have := hc4.size; simp at this; omega
     have HAL2 := Hd (Nat.lt_of_lt_of_le hal.size (Nat.le_trans (Nat.le_succ _) (by simpa using hc4.size)))
     clear hcall hau hp4 HLC hszl hal hc4
     go_wp2_with (first | (refine wpList_build1 rfl rfl rfl hou ?_) | (at_builtin; refine wpList_appendRows rfl elem151 rfl rfl (hown.alloc _) rfl (RowAt.one1 w4 [u] 20 1 rfl) (by simp [hou]) hnb (by decide) (by simpa using hbs) ?_; intro v' w6 hown' hc6 hv' hold; go_frame))
     have HA6 := Hd (HSTEP.out w6 v' hc6 hown' hv')
     clear hown' hc6 hv' hold hown
     go_roundw
     case rel => exact ⟨n + 1, vs ++ [u], by go_num, HA6.out⟩
     case measure => simp [intOf]; omega
    ·have hnl : n = xs.length := Nat.le_antisymm HAL.out.le (Nat.not_lt.1 hlt)
     subst hnl
     have hlen : ¬ ((xs.length : Nat) : Int) < (rows.length : Int) := by rw [HN.out]; omega
     go_wp2_with fail
     go_ret2
     have hal := HAL.out
     refine ⟨_, rfl, hal.done HPG.out.1, hal.chg, ?_⟩
     have h1 := hal.cnt
     rw [List.take_length] at h1
     simpa [sz, Nat.add_assoc] using h1
  | @table _ _ _ _ _ _ rows kvs hk hl hn hr =>
   have HR := Hd hr
   have HL := Hd hl
   have HKR := Hd hk
   have HN := Hd hn
   have hl1 := hl.1
   have hk1 := hk.1
   obtain ⟨-, -, la, lc, rfl, -, -⟩ := hl
   obtain ⟨-, -, ka, kc, rfl, -, -⟩ := hk
   simp only [List.length_map] at hk1 HBX HV HKR
   unfold maxLen at hl1 hk1
   rw [hn] at HL HBX HV hl1
   have hk5 : w1.cell? ⟨g, 5, none⟩ = some (.slice ka kvs.length kc) := HBX.out.cell 5
   have hk6 : w1.cell? ⟨g, 6, none⟩ = some (.slice la kvs.length lc) := HBX.out.cell 6
   clear hr hn
   have hmkn := run_makeMap67n
   have HPG := Hd (show w.heap.size ≤ g /\ p < w.heap.size by have := HG.out; omega)
   go_wp2_with fail
   have HAM0 := Hd (show AM w p c g w1.heap.size (cells7 7 b i f t (.slice ka kvs.length kc) (.slice la kvs.length lc)) kvs (w1.alloc (.map #[] 0)) 0 (fun _ => none) from
    ⟨Nat.zero_le _, MapB.made w1, fun k j h => by simp [get] at h, fun k h => rfl, HCS.out.alloc _, by simpa [szT] using HB1.out.alloc (.map #[] 0), HBX.out.alloc _, hs1⟩)
   obtain ⟨m, hm⟩ : ∃ m, m = w1.heap.size := ⟨_, rfl⟩
   rw [← hm] at HAM0 ⊢
   clear hk0 hk6 hs1 HB1 HCS HLAST HBX hpc1 hk5 hm
   go_loopw [95] (fun ct wr => ∃ (n : Nat) (fo : K -> Option Value), ct = .int .i64 n /\ AM w p c g m (cells7 7 b i f t (.slice ka kvs.length kc) (.slice la kvs.length lc)) kvs wr n fo) (fun ct _ => kvs.length - (intOf ct).toNat)
   case atStart => exact ⟨0, _, rfl, HAM0.out⟩
   case round =>
    obtain ⟨n, fo, rfl, ham⟩ := hrel
    have HAM := Hd ham
    clear ham HAM0
    by_cases hlt : n < kvs.length
    ·obtain ⟨q, hx⟩ : ∃ q, kvs[n]? = some q := ⟨_, List.getElem?_eq_getElem hlt⟩
     have hlt2 : n < rows.length := by rw [HN.out]; exact hlt
     obtain ⟨r, hr0⟩ : ∃ r, rows[n]? = some r := ⟨_, List.getElem?_eq_getElem hlt2⟩
     obtain ⟨lb, lo, rfl, hlok, hlc⟩ := HL.out.at (i := n) (r := r) hr0
     obtain ⟨kb, ko, rfl, hkok, hkc⟩ := HKR.out.at (i := n) (r := [.string q.1]) (by simp [hx])
     have HLC := hlc.chg HAM.out.chg (fun e => HNP.out (e ▸ hlok))
     have hkc := (hkc.chg HAM.out.chg (fun e => HNP.out (e ▸ hkok))).one
     simp only [Nat.mul_one] at hkc
     have HV2 := Hd (HR.out n r _ hr0 hx)
     obtain ⟨rk, rb, ri, rf, rt, rkv, rlv, rfl⟩ := HV2.out.seven
     have h64 : (n : Int) < (kvs.length : Int) := Int.ofNat_lt.2 hlt
     have hk5 : wr.cell? ⟨g, 5, none⟩ = some (.slice (some ⟨kb, ko, none⟩) kvs.length kc) := HAM.out.box.cell 5
     have hk6 : wr.cell? ⟨g, 6, none⟩ = some (.slice (some ⟨lb, lo, none⟩) kvs.length lc) := HAM.out.box.cell 6
     have HX := Hd hx
     clear hr0 hlc hx
     go_wp2_with (first | (with_reducible refine wpList_loadAgg rfl agg26 rfl rfl HLC rfl ?_))
     have ham := HAM.out
     have hszl : c + 1 + szT (kvs.take n) + sz q.2 ≤ 2000 := by
      have h1 := szT_take kvs n q HX.out
      have h2 := szT_le kvs (n + 1)
      have h3 := HCC.out
      simp only [sz] at h3
      omega
     have hcall := IH.out (okB ok w) q.2 (cells7 rk rb ri rf rt rkv rlv) wr p (c + 1 + szT (kvs.take n)) (dep + 1) (HV2.out.keepP ham.chg (fun y hy hok e => HNP.out (e ▸ hok))) (WF.out.2.2 _ (List.mem_of_getElem? HX.out)).2 ham.cnt (fun h => HNP.out h.1) hszl (by have := HD.out; omega)
     rw [show ((dep + 1 : Nat) : Int) = (dep : Int) + 1 by omega] at hcall
     refine hcall.mono ?_
     rintro e w4 ⟨u, rfl, hau, hc4, hp4⟩
     have HSTEP := Hd (fun w6 => ham.step (w6 := w6) WF.out.1 HPG.out.1 HPG.out.2 HX.out hc4 hau hp4)
     have hmz : MapB w4 m n fo := ham.out.chg hc4 (fun e => by have := ham.gm; have := HPG.out; omega)
     have hnz : n < maxLen := by have h1 := WF.out.2.1; unfold maxLen; omega
     have hqk : q.1.size ≤ maxLen := by have h1 := (WF.out.2.2 _ (List.mem_of_getElem? HX.out)).1; unfold kOk at h1; unfold maxLen; omega
     have hbx4 := ham.box.chg hc4 (fun e => by have := HPG.out; omega)
     have hk54 : w4.cell? ⟨g, 5, none⟩ = some (.slice (some ⟨kb, ko, none⟩) kvs.length kc) := hbx4.cell 5
     have HQK := Hd hqk
     have HC4 := Hd (ham.chg.trans hc4 (fun i _ e => e))
     clear hcall hau hp4 HLC hszl ham hc4 hkc hk5 hk6 hbx4 hqk
     by_cases hn0 : n = 0
     ·subst hn0
      go_wp2_with (first | (at_mapUpdate; refine wpList_putB (u := u) rfl rfl rfl hmz hnz rfl HQK.out rfl ?_; intro w6 hm6 hc6 hs6; go_frame))
      have HA6 := Hd (HSTEP.out w6 hc6 hm6)
      clear hm6 hc6
      go_roundw
      case rel => exact ⟨0 + 1, _, by go_num, HA6.out⟩
      case measure => simp [intOf]; omega
     ·obtain ⟨n', rfl⟩ : ∃ n', n = n' + 1 := ⟨n - 1, by omega⟩
      obtain ⟨q', hx'⟩ : ∃ q, kvs[n']? = some q := ⟨_, List.getElem?_eq_getElem (by omega)⟩
      obtain ⟨kb', ko', he, hkok', hkc'⟩ := HKR.out.at (i := n') (r := [.string q'.1]) (by simp [hx'])
      cases he
      have hkc' := (hkc'.chg HC4.out (fun e => HNP.out (e ▸ hkok))).one
      simp only [Nat.mul_one] at hkc'
      have hbl : Op.bytesLess q'.1.toList q.1.toList = true := by
       rw [bytesLess_klt]
       simpa using List.pairwise_iff_getElem.1 WF.out.1 n' (n' + 1) (by omega) hlt (by omega) |> fun h => by
        rw [(List.getElem?_eq_some_iff.1 hx').2, (List.getElem?_eq_some_iff.1 HX.out).2] at h
        exact h
      go_wp2_with (first | (at_mapUpdate; refine wpList_putB (u := u) rfl rfl rfl hmz hnz rfl HQK.out rfl ?_; intro w6 hm6 hc6 hs6; go_frame))
      have HA6 := Hd (HSTEP.out w6 hc6 hm6)
      clear hm6 hc6
      go_roundw
      case rel => exact ⟨n' + 1 + 1, _, by go_num, HA6.out⟩
      case measure => simp [intOf]; omega
    ·have hnl : n = kvs.length := Nat.le_antisymm HAM.out.le (Nat.not_lt.1 hlt)
     subst hnl
     go_wp2_with fail
     go_ret2
     have ham := HAM.out
     refine ⟨_, rfl, ham.done HPG.out.1, ham.chg, ?_⟩
     have h1 := ham.cnt
     rw [List.take_length] at h1
     simpa [sz, Nat.add_assoc] using h1
theorem Chg.drewN (w : World) (n : Nat) : Chg No w (w.drewN n) := ⟨rfl, rfl, rfl, Nat.le_refl _, fun _ _ _ => rfl⟩
theorem table_table {ok : Nat -> Prop} {w : World} {kvs : T} {cs : List Value} {N d : Nat} (hN : N < 1099511627776) (hv : ValJ ok w cs (.table kvs)) (wf : Wf N d (.table kvs)) (hsz : sz (.table kvs) ≤ 2000) (hd : d ≤ 61) :
  Calls Tryz.prog 45 #[.agg cs.toArray] w fun e w' => ∃ b, e = .returned (.tuple #[.map (some b), .bool true]) /\ AnyJ (fun x => w.heap.size ≤ x) w' (.iface 67 (.map (some b))) (.table kvs) /\ Chg No w w' := by
 obtain ⟨b, i, f, t, kv, lv, rfl⟩ := hv.table7
 have HV := Hd hv
 have WF := Hd wf
 have HSZ := Hd hsz
 clear hv wf hsz
 go_enter Tryz.func45, Tryz.ntmps45
 unfold cells7
 have hb0 := Blk.new w (cells7 7 b i f t kv lv) 26
 have hbl := hb0.lt
 go_wp2_with (first | (with_reducible refine wpList_loadAgg rfl agg26 rfl rfl (hb0.alloc _).cells rfl ?_))
 have hp := Blk.new (w.alloc (.cells (cells7 7 b i f t kv lv).toArray 26)) [.int .i64 0] 3
 have hcall := anyOf_any N hN d (okB ok w) (.table kvs) (cells7 7 b i f t kv lv) ((w.alloc (.cells (cells7 7 b i f t kv lv).toArray 26)).alloc (.cells [.int .i64 0].toArray 3)) (w.heap.size + 1) 0 0 (HV.out.keepP (((Chg.refl No w).alloc _).alloc _) (fun _ _ _ e => e)) WF.out (by simpa using hp) (fun h => by have := h.2; omega) (by have := HSZ.out; omega) (by omega)
 refine hcall.mono ?_
 rintro e w3 ⟨v, rfl, hva, hc3, -⟩
 obtain ⟨bm, nm, fm, rfl, htb⟩ := hva.tab
 have HVA := Hd hva
 have HC3 := Hd hc3
 have has : ∀ z, (Instr.typeAssert (.iface 67 (.map (some bm))) 20 67 true).run Tryz.prog z = .ok (.tuple #[.map (some bm), .bool true]) z := fun z => run_assert67 HVA.out.any0
 clear hcall hva hc3 htb
 go_wp2_with fail
 go_quiet (fail)
 go_wp2
 go_ret2
 exact ⟨bm, rfl, (HVA.out.chg (Chg.drewN _ _) (fun _ _ e => e)).mono (fun x _ hx => by simp at hx; omega), ((((Chg.refl No w).alloc _).alloc _).trans HC3.out (fun x hx e => absurd hx (by omega))).trans' (Chg.drewN _ _)⟩
theorem table_null {ok : Nat -> Prop} {w : World} {cs : List Value} {N d : Nat} (hN : N < 1099511627776) (hv : ValJ ok w cs .null) (wf : Wf N d .null) (hsz : sz .null ≤ 2000) (hd : d ≤ 61) :
  Calls Tryz.prog 45 #[.agg cs.toArray] w fun e w' => e = .returned (.tuple #[.map none, .bool true]) /\ Chg No w w' := by
 obtain ⟨b, i, f, t, kv, lv, rfl⟩ : ∃ b i f t kv lv, cs = cells7 0 b i f t kv lv := by cases hv; exact ⟨_, _, _, _, _, _, rfl⟩
 have HV := Hd hv
 have WF := Hd wf
 have HSZ := Hd hsz
 clear hv wf hsz
 go_enter Tryz.func45, Tryz.ntmps45
 unfold cells7
 have hb0 := Blk.new w (cells7 0 b i f t kv lv) 26
 have hbl := hb0.lt
 go_wp2_with (first | (with_reducible refine wpList_loadAgg rfl agg26 rfl rfl (hb0.alloc _).cells rfl ?_))
 have hp := Blk.new (w.alloc (.cells (cells7 0 b i f t kv lv).toArray 26)) [.int .i64 0] 3
 have hcall := anyOf_any N hN d (okB ok w) .null (cells7 0 b i f t kv lv) ((w.alloc (.cells (cells7 0 b i f t kv lv).toArray 26)).alloc (.cells [.int .i64 0].toArray 3)) (w.heap.size + 1) 0 0 (HV.out.keepP (((Chg.refl No w).alloc _).alloc _) (fun _ _ _ e => e)) WF.out (by simpa using hp) (fun h => by have := h.2; omega) (by have := HSZ.out; omega) (by omega)
 refine hcall.mono ?_
 rintro e w3 ⟨v, rfl, hva, hc3, -⟩
 obtain rfl : v = .nilIface := by cases hva; rfl
 have has : ∀ z, (Instr.typeAssert .nilIface 20 67 true).run Tryz.prog z = .ok (.tuple #[.map none, .bool false]) z := fun z => by kernel_rfl
 have hk0 : w3.cell? ⟨w.heap.size, 0, none⟩ = some (.int .i64 0) := (((hb0.alloc (.cells [Value.int .i64 0].toArray 3)).chg hc3 (by omega)).cell 0)
 have HC3 := Hd hc3
 clear hcall hva hc3
 go_wp2_with fail
 go_quiet (fail)
 go_wp2
 go_ret2
 exact ⟨rfl, ((((Chg.refl No w).alloc _).alloc _).trans HC3.out (fun x hx e => absurd hx (by omega))).trans' (Chg.drewN _ _)⟩
end Go.Proofs.YtljaoopfomcaoaaGreatDoor
namespace Go.Proofs.YtljaoopfomcaoaaGreatDoor
open Go.RowKit Go.Shelf Go.Sort
def lays190_ren : Go.Shelf.Ren := ⟨fun | 190 => 119 | 125 => 148 | 258 => 147 | 128 => 172 | 129 => 173 | 302 => 163 | 303 => 164 | 304 => 165 | 305 => 166 | 306 => 167 | 307 => 168 | 308 => 169 | 309 => 170 | 310 => 171 | 333 => 197 | 329 => 198 | 330 => 199 | 334 => 200 | 335 => 201 | 336 => 202 | 344 => 214 | n => n, fun | 31 => 23 | 9 => 9 | 3 => 3 | 46 => 201 | 0 => 0 | 51 => 228 | 53 => 230 | 4 => 4 | 183 => 221 | 182 => 220 | 131 => 225 | 5 => 5 | 218 => 258 | 222 => 85 | 228 => 280 | 229 => 281 | n => n, fun | n => n⟩
theorem lays190 : Go.Proofs.Lays.n190 Tryz.prog lays190_ren := {
 mixed := by kernel_rfl
 f125 := Tryz.func148.trans (congrArg some (by kernel_rfl))
 f128 := Tryz.func172.trans (congrArg some (by kernel_rfl))
 f129 := Tryz.func173.trans (congrArg some (by kernel_rfl))
 f190 := Tryz.func119.trans (congrArg some (by kernel_rfl))
 f258 := Tryz.func147.trans (congrArg some (by kernel_rfl))
 f302 := Tryz.func163.trans (congrArg some (by kernel_rfl))
 f303 := Tryz.func164.trans (congrArg some (by kernel_rfl))
 f304 := Tryz.func165.trans (congrArg some (by kernel_rfl))
 f305 := Tryz.func166.trans (congrArg some (by kernel_rfl))
 f306 := Tryz.func167.trans (congrArg some (by kernel_rfl))
 f307 := Tryz.func168.trans (congrArg some (by kernel_rfl))
 f308 := Tryz.func169.trans (congrArg some (by kernel_rfl))
 f309 := Tryz.func170.trans (congrArg some (by kernel_rfl))
 f310 := Tryz.func171.trans (congrArg some (by kernel_rfl))
 f329 := Tryz.func198.trans (congrArg some (by kernel_rfl))
 f330 := Tryz.func199.trans (congrArg some (by kernel_rfl))
 f333 := Tryz.func197.trans (congrArg some (by kernel_rfl))
 f334 := Tryz.func200.trans (congrArg some (by kernel_rfl))
 f335 := Tryz.func201.trans (congrArg some (by kernel_rfl))
 f336 := Tryz.func202.trans (congrArg some (by kernel_rfl))
 f344 := Tryz.func214.trans (congrArg some (by kernel_rfl))
 t0 := Tryz.underlying0
 a0 := Tryz.isAgg0
 z0 := Tryz.sizeOf0
 v0 := Tryz.zeroValue0
 t3 := Tryz.underlying3
 a3 := Tryz.isAgg3
 z3 := Tryz.sizeOf3
 v3 := Tryz.zeroValue3
 t4 := Tryz.underlying4
 a4 := Tryz.isAgg4
 z4 := Tryz.sizeOf4
 v4 := Tryz.zeroValue4
 t5 := Tryz.underlying5
 a5 := Tryz.isAgg5
 z5 := Tryz.sizeOf5
 v5 := Tryz.zeroValue5
 t9 := Tryz.underlying9
 a9 := Tryz.isAgg9
 z9 := Tryz.sizeOf9
 v9 := Tryz.zeroValue9
 t31 := Tryz.underlying23
 a31 := Tryz.isAgg23
 z31 := Tryz.sizeOf23
 v31 := Tryz.zeroValue23
 t46 := Tryz.underlying201
 a46 := Tryz.isAgg201
 z46 := Tryz.sizeOf201
 v46 := Tryz.zeroValue201
 t51 := Tryz.underlying228
 a51 := Tryz.isAgg228
 z51 := Tryz.sizeOf228
 v51 := Tryz.zeroValue228
 t53 := Tryz.underlying230
 a53 := Tryz.isAgg230
 z53 := Tryz.sizeOf230
 v53 := Tryz.zeroValue230
 t131 := Tryz.underlying225
 a131 := Tryz.isAgg225
 z131 := Tryz.sizeOf225
 v131 := Tryz.zeroValue225
 t182 := Tryz.underlying220
 a182 := Tryz.isAgg220
 z182 := Tryz.sizeOf220
 v182 := Tryz.zeroValue220
 t183 := Tryz.underlying221
 a183 := Tryz.isAgg221
 z183 := Tryz.sizeOf221
 v183 := Tryz.zeroValue221
 t218 := Tryz.underlying258
 a218 := Tryz.isAgg258
 z218 := Tryz.sizeOf258
 v218 := Tryz.zeroValue258
 t222 := Tryz.underlying85
 a222 := Tryz.isAgg85
 z222 := Tryz.sizeOf85
 v222 := Tryz.zeroValue85
 t228 := Tryz.underlying280
 a228 := Tryz.isAgg280
 z228 := Tryz.sizeOf280
 v228 := Tryz.zeroValue280
 t229 := Tryz.underlying281
 a229 := Tryz.isAgg281
 z229 := Tryz.sizeOf281
 v229 := Tryz.zeroValue281 }
abbrev kRows (ks : List K) : List (List Value) := ks.map fun k => [Value.string k]
theorem sort_keys {w : World} {base : Nat} {v : Value} {ks : List K} (h : OwnR w base 9 1 v (kRows ks)) (hl : ks.length < 1099511627776) :
  Calls Tryz.prog 119 #[v] w fun e w' => e = .returned (.tuple #[]) /\ ∃ ks' : List K, ks'.Perm ks /\ ks'.Pairwise (fun a b => a.data.toList ≤ b.data.toList) /\ OwnR w' base 9 1 v (kRows ks') /\ Chg (fun b => v.ownBlock = some b) w w' := by
 have hren : lays190_ren.f 190 = 119 := rfl
 rcases h.2.2 with ⟨rfl, hn⟩ | ⟨g, cap, cur, rfl, hg, hb, h1, h2, h3, h4⟩
 ·have hk : ks = [] := by simpa using hn
  subst hk
  refine (Any.slices_Sort_string_none lays190 none 0 w).mono ?_
  rintro e w' ⟨rfl, rfl⟩
  exact ⟨rfl, [], .refl _, List.Pairwise.nil, OwnR.nil _ _ _ _, Chg.refl _ _⟩
 ·obtain ⟨ss, hss⟩ : ∃ ss : List (List UInt8), ss = ks.map fun k => k.data.toList := ⟨_, rfl⟩
  have hflat : ∀ l : List K, (kRows l).flatten = (l.map fun k => k.data.toList).map encStr := fun l => by
   induction l with
   | nil => rfl
   | cons a r ih =>
    simp only [kRows, List.map_cons, List.flatten_cons] at ih ⊢
    rw [ih]
    rfl
  have hlen : (kRows ks).length = ss.length := by simp [hss]
  rw [hlen] at h1 h4 ⊢
  rw [hflat, ← hss, Nat.mul_one] at h4
  have hH := holds_of_block hb h4
  refine (Any.slices_Sort_string lays190 g 0 cap ss w hH (Array.getElem?_eq_some_iff.1 hb).1 (by rw [hss]; simp; omega)).mono ?_
  rintro e w' ⟨rfl, n, os, rfl⟩
  have hperm := List.mergeSort_perm ss (fun x y => decide (x ≤ y))
  have hmk : ∀ l : List (List UInt8), (l.map fun b => (⟨b.toArray⟩ : K)).map (fun k => k.data.toList) = l := fun l => by
   rw [List.map_map]; exact List.map_id'' (fun x => rfl) l
  have hmk2 : ∀ l : List K, (l.map fun k => k.data.toList).map (fun b => (⟨b.toArray⟩ : K)) = l := fun l => by
   rw [List.map_map]; exact List.map_id'' (fun x => rfl) l
  refine ⟨rfl, (ss.mergeSort fun x y => decide (x ≤ y)).map fun b => (⟨b.toArray⟩ : K), ?_, ?_, ⟨by simp, ?_⟩, (Chg.grown (grownBy_sorted _)).mono (fun i _ e => by cases e; rfl)⟩
  ·have hp2 := hperm.map (fun b => (⟨b.toArray⟩ : K))
   rw [hss, hmk2] at hp2
   rw [hss]
   exact hp2
  ·rw [List.pairwise_map]
   have hs := List.pairwise_mergeSort (le := fun x y : List UInt8 => decide (x ≤ y)) (fun a b c hab hbc => by simp at *; exact List.le_trans hab hbc) (fun a b => by simpa using List.le_total a b) ss
   exact hs.imp (fun h => by simpa using h)
  ·have hfin := ownsRow_sorted (n := n) (os := os) (ts := ss.mergeSort fun x y => decide (x ≤ y)) (by simp) hg hb h1 h2 h3
   rw [hflat, hmk]
   simpa using hfin
end Go.Proofs.YtljaoopfomcaoaaGreatDoor
namespace Go.Proofs.YtljaoopfomcaoaaGreatDoor
open Go.RowKit
def Fact.tempV (B : Nat) (x : J) : Fact :=
 ⟨fun v w => ∃ (t : Nat) (cs : List Value), v = .slice (some ⟨t, 0, Option.none⟩) 1 1 /\ B ≤ t /\ Blk w t cs 26 /\ ValJ (fun b => B ≤ b) w cs x, fun S _ => ∀ k, S k -> k < B,
  fun S v w w' h hc hs => by
  obtain ⟨t, cs, hv, hl, hb, hj⟩ := h
  exact ⟨t, cs, hv, hl, hb.chg hc (fun e => by have := hs t e; omega), hj.chg hc (fun b hb e => by have := hs b e; omega)⟩, fun _ _ e => e.elim⟩
def OwnV (h B : Nat) (lv : Value) (rows : List (List Value)) (x : J) (v : Value) (w : World) : Prop :=
 ∃ cs : List Value, OwnR w (h + 1) 26 7 v (rows ++ [cs]) /\ ValJ (fun b => B ≤ b /\ v.ownBlock ≠ some b) w cs x /\ (v.ownBlock = lv.ownBlock ∨ ∀ k, v.ownBlock = some k -> B ≤ k)
theorem OwnV.chg {h B : Nat} {lv : Value} {rows : List (List Value)} {x : J} {v : Value} {S : Nat -> Prop} {w w' : World} (hv : OwnV h B lv rows x v w) (hc : Chg S w w') (hs : ∀ k, S k -> k ≤ h) (hB : h < B) : OwnV h B lv rows x v w' := by
 obtain ⟨cs, h1, h2, h3⟩ := hv
 exact ⟨cs, h1.chg hc (fun k hk e => by have := (h1.elem hk).1; have := hs k e; omega), h2.chg hc (fun b hb e => by have := hs b e; omega), h3⟩
def Fact.ownV (h B : Nat) (lv : Value) (rows : List (List Value)) (x : J) (hB : h < B) : Fact :=
 ⟨fun v w => OwnV h B lv rows x v w, fun S _ => ∀ k, S k -> k ≤ h, fun S v w w' hv hc hs => hv.chg hc hs hB, fun _ _ e => e.elim⟩
structure VG (h : Nat) (mk : Value -> List Value) (lv : Value) (rows : List (List Value)) (x : J) (wr w : World) (da ds : Bool) : Prop where
 size : wr.heap.size ≤ w.heap.size
 chg : Chg (fun b => b = h ∨ lv.ownBlock = some b) wr w
 own : da = false -> OwnR w (h + 1) 26 7 lv rows
 low : ∀ k, lv.ownBlock = some k -> h + 1 ≤ k /\ k < wr.heap.size
 hB : h < wr.heap.size
 box : ∃ l', Blk w h (mk l') 26 /\ (ds = false -> l' = lv) /\ (ds = true -> OwnV h wr.heap.size lv rows x l' w)
section
variable {h : Nat} {mk : Value -> List Value} {lv : Value} {rows : List (List Value)} {x : J} {wr w : World} {da ds : Bool}
theorem VG.start (hown : OwnR wr (h + 1) 26 7 lv rows) (hb : Blk wr h (mk lv) 26) : VG h mk lv rows x wr wr.drew false false :=
 ⟨Nat.le_refl _, (Chg.refl _ wr).drew, fun _ => hown.chg ((Chg.refl No wr).drew) (fun _ _ e => e), fun k hk => ⟨(hown.elem hk).1, (hown.elem hk).2.1⟩, hb.lt, lv, hb.drew, fun _ => rfl, fun e => (by cases e)⟩
theorem VG.chgNo {w' : World} (g : VG h mk lv rows x wr w da ds) (hc : Chg No w w') : VG h mk lv rows x wr w' da ds := by
 obtain ⟨l', h1, h2, h3⟩ := g.box
 exact ⟨Nat.le_trans g.size hc.size, g.chg.trans' hc, fun e => (g.own e).chg hc (fun _ _ e => e), g.low, g.hB, l', h1.chg hc id, h2, fun e => (h3 e).chg hc (fun _ e => e.elim) g.hB⟩
theorem VG.app {w' : World} (g : VG h mk lv rows x wr w false false) (hc : Chg (fun b => lv.ownBlock = some b) w w') : VG h mk lv rows x wr w' true false := by
 obtain ⟨l', h1, h2, h3⟩ := g.box
 exact ⟨Nat.le_trans g.size hc.size, g.chg.trans hc (fun i _ e => .inr e), fun e => (by cases e), g.low, g.hB, l', h1.chg hc (fun e => by have := (g.low h e).1; omega), h2, fun e => (by cases e)⟩
theorem VG.store {w' : World} {v : Value} (g : VG h mk lv rows x wr w true false) (hb : Blk w' h (mk v) 26) (hc : Chg (· = h) w w') (hv : OwnV h wr.heap.size lv rows x v w) : VG h mk lv rows x wr w' true true :=
 ⟨Nat.le_trans g.size hc.size, g.chg.trans hc (fun i _ e => .inl e), fun e => (by cases e), g.low, g.hB, v, hb, fun e => (by cases e), fun _ => hv.chg hc (fun k e => by omega) g.hB⟩
end
theorem wp_callV {P : Program} {f : FuncId} (hcall : ∀ (args : Array Value) (w : World), (callFunc f args).run P w = .ok (.enter f args) w) {o : Oper} {a : Act} {w : World} {K : Act -> World -> Prop} {Q : Exit -> Act -> World -> Prop} {x y : Operand} {ts : Array TypeId} (ho : o.op = .call { callee := .value (.func f), args := #[x, y], argTypes := ts })
  {u d : Value} (hx : a.eval x = u) (hy : a.eval y = d) {R : Ending -> World -> Prop} (hc : Calls P f #[u, d] w R) (h : ∀ e w', R e w' -> ∃ v, e = .returned v /\ K (a.put o.dst v) w') : o.wp P a w K Q := by
 unfold Oper.wp
 have hrun : (execOp a.eval o).run P w = .ok (.enter f #[u, d]) w := by
  simp only [execOp, ho, List.map_toArray, List.map_cons, List.map_nil, hx, hy]
  simp [resolve, Act.eval, go_sem, hcall]
  exact ⟨by rw [← hx]; cases x <;> simp [Act.eval], by rw [← hy]; cases y <;> simp [Act.eval]⟩
 rw [hrun, Oper.upon_enter]
 refine hc.mono fun e w' hr => ?_
 obtain ⟨v, rfl, hk⟩ := h e w' hr
 exact hk
theorem wp_build24V {o : Oper} {a : Act} {w : World} {K : Act -> World -> Prop} {Q : Exit -> Act -> World -> Prop} {x : Operand} (ho : o.op = .buildSlice 24 1 #[(0, x)]) {cs : List Value} (hx : a.eval x = .agg cs.toArray) (h1 : cs.length = 7)
  (h : K (a.put o.dst (.slice (some ⟨w.heap.size, 0, none⟩) 1 1)) (w.alloc (.cells cs.toArray 26))) : o.wp Tryz.prog a w K Q := by
 have h3 := run_build24_1 cs h1 w
 unfold Oper.wp
 simp only [execOp, ho, List.map_toArray, List.map_cons, List.map_nil, hx, Sem.run_bind, h3, Result.andThen_ok]
 exact h
theorem wp_lookB1 {o : Oper} {a : Act} {w : World} {K' : Act -> World -> Prop} {Q : Exit -> Act -> World -> Prop} {m x : Operand} (hop : o.op = Op.lookup 67 m x false) {b n : Nat} {f : K -> Option Value} (hm : a.eval m = .map (some b)) (hb : MapB w b n f)
  {k : K} (hx : a.eval x = .string k) (hk : k.size ≤ maxLen) (hK : K' (a.put o.dst ((f k).getD .nilIface)) w) : o.wp Tryz.prog a w K' Q := by
 obtain ⟨D, h1, h2⟩ := hb
 obtain ⟨h3, -⟩ := look_of h1 hk false
 unfold Oper.wp
 simp only [execOp, hop, hm, hx, Sem.run_bind, h3, Result.andThen_ok, if_false, Bool.false_eq_true]
 rw [← h2]
 exact hK
theorem wpList_setSlice {P : Program} {ops : Array Oper} {rest : List Oper} {o : Oper} {a : Act} {w : World} {Q : Exit -> Act -> World -> Prop} (hgd : o.guard = none) {ty : TypeId} {x y : Operand} (ho : o.op = .store ty x y)
  {g i : Nat} {sa : Option Addr} {sn sc : Nat} (hx : a.eval x = .pointer (some ⟨g, i, none⟩)) (hy : a.eval y = .slice sa sn sc) (hz : ∀ w, (Go.sizeOf ty).run P w = .ok 1 w) {cs : List Value} {t : TypeId} (hb : Blk w g cs t) (hi : i < cs.length)
  (h : ∀ w', Blk w' g (cs.set i (.slice sa sn sc)) t -> Chg (· = g) w w' -> w'.heap.size = w.heap.size -> wpList P ops Q rest (a.put o.dst undef) w') : wpList P ops Q (o :: rest) a w := by
 refine wpList_plain hgd fun K hK => ?_
 have hc := hb.cell i
 have hf := hb.frozen i
 rw [List.getElem?_eq_getElem hi] at hc
 obtain ⟨h2, h3, h4⟩ := hb.setCell i (.slice sa sn sc)
 have hfin := hK _ _ (h _ h2 h3 h4)
 clear h hK h2 h3 h4
 unfold Oper.wp execOp
 simp only [ho, hx, hy]
 simp [go_sem, hz, hc, hf]
 exact hfin
end Go.Proofs.YtljaoopfomcaoaaGreatDoor
