/-
  Words for a table under way (With, Without): what its two stores and its two appends leave.
-/
import Derived.Test.YtljaoopfomcaoaaGreatDoorBu
import Derived.Test.YtljaoopfomcaoaaGreatDoorVa
import Derived.Deep.DeepCutAuto
import Derived.Test.YtljaoopfomcaoaaGreatDoorRg
set_option linter.unusedVariables false
set_option linter.unusedSimpArgs false
namespace Go.Proofs.YtljaoopfomcaoaaGreatDoor
open Go.RowKit

/-- Rows of seven cells that read as a table's values, in order. -/
def RowsV (ok : Nat → Prop) (w : World) (rows : List (List Value)) (acc : T) : Prop :=
  rows.length = acc.length ∧ ∀ (i : Nat) (r : List Value) (p : K × J), rows[i]? = some r → acc[i]? = some p → ValJ ok w r p.2

def keyRows (acc : T) : List (List Value) := acc.map fun p => [.string p.1]

/-- What With has gathered behind n entries. -/
structure WithAcc (kvs : T) (key : K) (x : J) (n : Nat) (d : Bool) (acc : T) : Prop where
  acc0 : d = false → acc = kvs.take n ∧ ∀ p ∈ kvs.take n, klt p.1 key
  acc1 : d = true → acc = ins (kvs.take n) key x ∧ ∃ q ∈ kvs.take n, ¬ klt q.1 key

/-- A table under way: its box at block g, its keys and values in slices of its own; the boxes of the call; what was there stays. -/
structure OutMem (ok : Nat → Prop) (w wr : World) (bs : List (Nat × List Value)) (g base : Nat) (acc : T) (rows : List (List Value)) (kv lv : Value) : Prop where
  chg : Chg No w wr
  og : w.heap.size ≤ g
  gb : g < base
  bb : base ≤ wr.heap.size
  bs : ∀ p ∈ bs, Blk wr p.1 p.2 26 ∧ p.1 < base ∧ p.1 ≠ g
  b : Blk wr g (cells7 7 false 0 0 ByteArray.empty kv lv) 26
  ck : OwnR wr base 9 1 kv (keyRows acc)
  cl : OwnR wr base 26 7 lv rows
  rv : RowsV ok w rows acc

/-- A table under way, in the midst of a region that appends a key and a value: i5, i6 say which of the two stores are done. -/
structure OutMid (ok : Nat → Prop) (w wr : World) (lo : Nat) (bs : List (Nat × List Value)) (g base : Nat) (acc : T) (rows : List (List Value)) (kv lv : Value) (k : K) (r : List Value) (d5 d6 : Bool) : Prop where
  chg : Chg No w wr
  og : w.heap.size ≤ g
  gb : g < base
  bb : base ≤ lo
  hlo : lo ≤ wr.heap.size
  bs : ∀ p ∈ bs, Blk wr p.1 p.2 26 ∧ p.1 < base ∧ p.1 ≠ g
  ck : OwnR wr base 9 1 kv (keyRows acc)
  cl : OwnR wr base 26 7 lv rows
  klo : ∀ x, kv.ownBlock = some x → x < lo
  llo : ∀ x, lv.ownBlock = some x → x < lo
  b : ∃ k' l', Blk wr g (cells7 7 false 0 0 ByteArray.empty k' l') 26 ∧ (if d5 then OwnR wr base 9 1 k' (keyRows acc ++ [[.string k]]) else k' = kv) ∧ (if d6 then OwnR wr base 26 7 l' (rows ++ [r]) else l' = lv)

theorem OutMem.mid {ok : Nat → Prop} {w wr : World} {bs : List (Nat × List Value)} {g base : Nat} {acc : T} {rows : List (List Value)} {kv lv : Value} (h : OutMem ok w wr bs g base acc rows kv lv) (k : K) (r : List Value) :
    OutMid ok w wr.drew wr.heap.size bs g base acc rows kv lv k r false false :=
  ⟨h.chg.drew, h.og, h.gb, h.bb, Nat.le_refl _, h.bs, h.ck, h.cl, fun x hx => (h.ck.elem hx).2.1, fun x hx => (h.cl.elem hx).2.1, ⟨kv, lv, h.b, rfl, rfl⟩⟩

/-- A change that touches none of its blocks. -/
theorem OutMid.chgNo {ok : Nat → Prop} {w wr wr' : World} {lo : Nat} {bs : List (Nat × List Value)} {g base : Nat} {acc : T} {rows : List (List Value)} {kv lv : Value} {k : K} {r : List Value} {d5 d6 : Bool}
    (h : OutMid ok w wr lo bs g base acc rows kv lv k r d5 d6) (hc : Chg No wr wr') : OutMid ok w wr' lo bs g base acc rows kv lv k r d5 d6 := by
  obtain ⟨k', l', hb, h1, h2⟩ := h.b
  refine ⟨h.chg.trans' hc, h.og, h.gb, h.bb, Nat.le_trans h.hlo hc.size, fun p hp => ⟨(h.bs p hp).1.chg hc id, (h.bs p hp).2⟩, h.ck.chg hc (fun _ _ e => e), h.cl.chg hc (fun _ _ e => e), h.klo, h.llo, k', l', hb.chg hc id, ?_, ?_⟩
  · cases d5
    · exact h1
    · exact h1.chg hc (fun _ _ e => e)
  · cases d6
    · exact h2
    · exact h2.chg hc (fun _ _ e => e)

/-- An append onto one of the two old slices. -/
theorem OutMid.app {ok : Nat → Prop} {w wr wr' : World} {lo : Nat} {bs : List (Nat × List Value)} {g base : Nat} {acc : T} {rows : List (List Value)} {kv lv : Value} {k : K} {r : List Value}
    (h : OutMid ok w wr lo bs g base acc rows kv lv k r false false) {v : Value} (hc : Chg (fun b => v.ownBlock = some b) wr wr') (hv : ∀ x, v.ownBlock = some x → base ≤ x)
    (hk : OwnR wr' base 9 1 kv (keyRows acc)) (hl : OwnR wr' base 26 7 lv rows) : OutMid ok w wr' lo bs g base acc rows kv lv k r false false := by
  obtain ⟨k', l', hb, h1, h2⟩ := h.b
  have hgb := h.gb
  have hog := h.og
  refine ⟨h.chg.trans hc (fun i hi e => by have := hv i e; omega), h.og, h.gb, h.bb, Nat.le_trans h.hlo hc.size, fun p hp => ⟨(h.bs p hp).1.chg hc (fun e => by have := hv _ e; have := (h.bs p hp).2.1; omega), (h.bs p hp).2⟩, hk, hl, h.klo, h.llo, k', l', hb.chg hc (fun e => by have := hv _ e; omega), h1, h2⟩

/-- The two stores. -/
theorem OutMid.store5 {ok : Nat → Prop} {w wr : World} {lo : Nat} {bs : List (Nat × List Value)} {g base : Nat} {acc : T} {rows : List (List Value)} {kv lv : Value} {k : K} {r : List Value} {d6 : Bool}
    (h : OutMid ok w wr lo bs g base acc rows kv lv k r false d6) {v : Value} (hv : OwnR wr base 9 1 v (keyRows acc ++ [[.string k]])) :
    OutMid ok w (wr.setCell ⟨g, 5, none⟩ v) lo bs g base acc rows kv lv k r true d6 ∧ Chg (· = g) wr (wr.setCell ⟨g, 5, none⟩ v) := by
  obtain ⟨k', l', hb, h1, h2⟩ := h.b
  have hgb := h.gb
  have hog := h.og
  have hc : Chg (· = g) wr (wr.setCell ⟨g, 5, none⟩ v) := Chg.setCell (S := (· = g)) (Chg.refl _ _) (fun _ => rfl) _
  have hne : ∀ {e size : Nat} {u : Value} {rs : List (List Value)}, OwnR wr base e size u rs → OwnR (wr.setCell ⟨g, 5, none⟩ v) base e size u rs := fun ho => ho.chg hc (fun x hx e => by have := (ho.elem hx).1; omega)
  refine ⟨⟨h.chg.trans hc (fun i hi e => by omega), h.og, h.gb, h.bb, by simpa using h.hlo, fun p hp => ⟨(h.bs p hp).1.chg hc (h.bs p hp).2.2, (h.bs p hp).2⟩, hne h.ck, hne h.cl, h.klo, h.llo, v, l', ?_, hne hv, ?_⟩, hc⟩
  · have := heap_setCell_same wr g 5 _ _ v hb
    simpa [Blk, cells7] using this
  · cases d6
    · exact h2
    · exact hne h2

theorem OutMid.store6 {ok : Nat → Prop} {w wr : World} {lo : Nat} {bs : List (Nat × List Value)} {g base : Nat} {acc : T} {rows : List (List Value)} {kv lv : Value} {k : K} {r : List Value} {d5 : Bool}
    (h : OutMid ok w wr lo bs g base acc rows kv lv k r d5 false) {v : Value} (hv : OwnR wr base 26 7 v (rows ++ [r])) :
    OutMid ok w (wr.setCell ⟨g, 6, none⟩ v) lo bs g base acc rows kv lv k r d5 true ∧ Chg (· = g) wr (wr.setCell ⟨g, 6, none⟩ v) := by
  obtain ⟨k', l', hb, h1, h2⟩ := h.b
  have hgb := h.gb
  have hog := h.og
  have hc : Chg (· = g) wr (wr.setCell ⟨g, 6, none⟩ v) := Chg.setCell (S := (· = g)) (Chg.refl _ _) (fun _ => rfl) _
  have hne : ∀ {e size : Nat} {u : Value} {rs : List (List Value)}, OwnR wr base e size u rs → OwnR (wr.setCell ⟨g, 6, none⟩ v) base e size u rs := fun ho => ho.chg hc (fun x hx e => by have := (ho.elem hx).1; omega)
  refine ⟨⟨h.chg.trans hc (fun i hi e => by omega), h.og, h.gb, h.bb, by simpa using h.hlo, fun p hp => ⟨(h.bs p hp).1.chg hc (h.bs p hp).2.2, (h.bs p hp).2⟩, hne h.ck, hne h.cl, h.klo, h.llo, k', v, ?_, ?_, hne hv⟩, hc⟩
  · have := heap_setCell_same wr g 6 _ _ v hb
    simpa [Blk, cells7] using this
  · cases d5
    · exact h1
    · exact hne h1

/-- Behind the region. -/
theorem OutMid.out {ok : Nat → Prop} {w wr : World} {lo : Nat} {bs : List (Nat × List Value)} {g base : Nat} {acc : T} {rows : List (List Value)} {kv lv : Value} {k : K} {r : List Value}
    (h : OutMid ok w wr lo bs g base acc rows kv lv k r true true) {x : J} (hrv : RowsV ok w rows acc) (hr : ValJ ok w r x) :
    ∃ k' l', OutMem ok w wr bs g base (acc ++ [(k, x)]) (rows ++ [r]) k' l' := by
  obtain ⟨k', l', hb, h1, h2⟩ := h.b
  refine ⟨k', l', h.chg, h.og, h.gb, Nat.le_trans h.bb h.hlo, h.bs, hb, ?_, h2, ?_⟩
  · simpa [keyRows] using h1
  · refine ⟨by simp [hrv.1], fun i r' p hr' hp => ?_⟩
    by_cases hi : i < rows.length
    · rw [List.getElem?_append_left hi] at hr'
      rw [List.getElem?_append_left (by rw [← hrv.1]; exact hi)] at hp
      exact hrv.2 i r' p hr' hp
    · rw [List.getElem?_append_right (by omega)] at hr'
      rw [List.getElem?_append_right (by rw [← hrv.1]; omega)] at hp
      have h0 : i - rows.length = 0 := by
        have := (List.getElem?_eq_some_iff.1 hr').1; simp at this; omega
      rw [h0] at hr'
      rw [← hrv.1, h0] at hp
      simp at hr' hp
      subst hr'; subst hp
      exact hr

end Go.Proofs.YtljaoopfomcaoaaGreatDoor
