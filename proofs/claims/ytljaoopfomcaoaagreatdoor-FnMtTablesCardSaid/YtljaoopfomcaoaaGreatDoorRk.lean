/-
  Regions that lay a box, call, and store what comes back into the box, in whatever order: facts and what holds on the way.
-/
import Derived.Test.YtljaoopfomcaoaaGreatDoorRj
import Derived.Test.YtljaoopfomcaoaaGreatDoorVq
set_option linter.unusedVariables false
set_option linter.unusedSimpArgs false
namespace Go.Proofs.YtljaoopfomcaoaaGreatDoor
open Go.RowKit

/-- What is newer than B, but for the box. -/
def okG (B : Nat) (γ : Option Nat) : Nat → Prop := fun b => B ≤ b ∧ γ ≠ some b

/-- The slot holds a struct that reads as a value, and the number 0. -/
def Fact.tup (ok : Nat → Prop) (j : J) : Fact :=
  ⟨fun v w => ∃ cs : List Value, v = .tuple #[.agg cs.toArray, .int .i64 0] ∧ ValJ ok w cs j, fun S _ => ∀ b, ok b → ¬ S b,
   fun S v w w' h hc hs => by obtain ⟨cs, hv, h⟩ := h; exact ⟨cs, hv, h.chg hc hs⟩, fun _ _ _ e => e⟩

/-- The slot holds the box's address. -/
def Fact.box (γ : Option Nat) : Fact :=
  ⟨fun v _ => ∃ t, γ = some t ∧ v = .pointer (some ⟨t, 0, Option.none⟩), fun _ _ => True, fun S v w w' h _ _ => h, fun _ => trivial⟩

structure GB (W : World) (ia is : Nat) (j : J) (γ : Option Nat) (done : Nat → Bool) (w : World) : Prop where
  chg : Chg No W w
  iff : done ia = γ.isSome
  box : ∀ t, γ = some t → W.heap.size ≤ t ∧ ∃ c, Blk w t c 26 ∧ c.length = 7 ∧ (done is = true → ValJ (okG W.heap.size γ) w c j)

theorem GB.start (W : World) (ia is : Nat) (j : J) : GB W ia is j none (fun _ => false) W.drew := ⟨(Chg.refl _ W).drew, rfl, fun t h => by cases h⟩

theorem dn_of_ne {done : Nat → Bool} {i k : Nat} (h : i ≠ k) : dn done i k = done k := dn_ne (beq_eq_false_iff_ne.2 h.symm)

theorem GB.other {W : World} {ia is : Nat} {j : J} {γ : Option Nat} {done : Nat → Bool} {w w' : World} (h : GB W ia is j γ done w) {i : Nat} (h1 : i ≠ ia) (h2 : i ≠ is) (hc : Chg No w w') : GB W ia is j γ (dn done i) w' := by
  refine ⟨h.chg.trans' hc, by rw [dn_of_ne h1]; exact h.iff, fun t ht => ?_⟩
  obtain ⟨h3, c, h4, h5, h6⟩ := h.box t ht
  exact ⟨h3, c, h4.chg hc id, h5, fun e => (h6 (by rwa [dn_of_ne h2] at e)).chg hc (fun _ _ e => e)⟩

theorem GB.size {W : World} {ia is : Nat} {j : J} {γ : Option Nat} {done : Nat → Bool} {w : World} (h : GB W ia is j γ done w) : W.heap.size ≤ w.heap.size := h.chg.size

theorem GB.noBox {W : World} {ia is : Nat} {j : J} {γ : Option Nat} {done : Nat → Bool} {w : World} (h : GB W ia is j γ done w) (hd : done ia = false) : γ = none := by
  have h1 := h.iff
  rw [hd] at h1
  cases γ with
  | none => rfl
  | some t => cases h1

/-- What is newer than this world now is newer than B, and not the box. -/
theorem GB.fresh {W : World} {ia is : Nat} {j : J} {γ : Option Nat} {done : Nat → Bool} {w : World} (h : GB W ia is j γ done w) {b : Nat} (hb : w.heap.size ≤ b) : okG W.heap.size γ b := by
  refine ⟨Nat.le_trans h.size hb, fun e => ?_⟩
  obtain ⟨-, c, h1, -⟩ := h.box b e
  have := h1.lt
  omega

theorem GB.lay {W : World} {ia is : Nat} {j : J} {done : Nat → Bool} {w : World} (h : GB W ia is j none done w) (hne : ia ≠ is) (hs : done is = false) : GB W ia is j (some w.heap.size) (dn done ia) (w.alloc (.cells zero7.toArray 26)) := by
  refine ⟨h.chg.alloc _, by rw [dn_self]; rfl, fun t ht => ?_⟩
  cases ht
  exact ⟨h.size, zero7, Blk.new _ _ _, rfl, fun e => by rw [dn_of_ne hne, hs] at e; cases e⟩

theorem okG_lay {W w : World} {b : Nat} (hb : b < w.heap.size) (h : okG W.heap.size none b) : okG W.heap.size (some w.heap.size) b := ⟨h.1, fun e => by cases e; omega⟩

theorem GB.put {W : World} {ia is : Nat} {j : J} {t : Nat} {done : Nat → Bool} {w w' : World} {c : List Value} (h : GB W ia is j (some t) done w) (hne : ia ≠ is) (hc : Chg (· = t) w w') (hb : Blk w' t c 26) (hv : ValJ (okG W.heap.size (some t)) w c j) : GB W ia is j (some t) (dn done is) w' := by
  have h1 := (h.box t rfl).1
  refine ⟨h.chg.trans hc (fun i hi e => by omega), by rw [dn_of_ne hne.symm]; exact h.iff, fun t' ht => ?_⟩
  cases ht
  exact ⟨h1, c, hb, hv.length, fun _ => hv.chg hc (fun b hb e => hb.2 (by rw [e]))⟩

theorem run_build24_2 (ca cb : List Value) (ha : ca.length = 7) (hb : cb.length = 7) (w : World) : (Instr.buildSlice 24 2 #[(0, .agg ca.toArray), (1, .agg cb.toArray)]).run Tryz.prog w = .ok (.slice (some ⟨w.heap.size, 0, none⟩) 2 2) (w.alloc (.cells (ca ++ cb).toArray 26)) := by
  obtain ⟨a, b, c, d, e, f, g, rfl⟩ : ∃ a b c d e f g, ca = [a, b, c, d, e, f, g] := by
    match ca, ha with
    | [a, b, c, d, e, f, g], _ => exact ⟨a, b, c, d, e, f, g, rfl⟩
  obtain ⟨a', b', c', d', e', f', g', rfl⟩ : ∃ a b c d e f g, cb = [a, b, c, d, e, f, g] := by
    match cb, hb with
    | [a, b, c, d, e, f, g], _ => exact ⟨a, b, c, d, e, f, g, rfl⟩
  clear ha hb
  kernel_rfl

theorem wpList_build24_2 {ops : Array Oper} {rest : List Oper} {o : Oper} {a : Act} {w : World} {Q : Exit → Act → World → Prop} (hg : o.guard = none) {x y : Operand} (ho : o.op = .buildSlice 24 2 #[(0, x), (1, y)]) {ca cb : List Value} (hx : a.eval x = .agg ca.toArray) (hy : a.eval y = .agg cb.toArray) (h1 : ca.length = 7) (h2 : cb.length = 7)
    (h : wpList Tryz.prog ops Q rest (a.put o.dst (.slice (some ⟨w.heap.size, 0, none⟩) 2 2)) (w.alloc (.cells (ca ++ cb).toArray 26))) : wpList Tryz.prog ops Q (o :: rest) a w := by
  refine wpList_plain hg fun K' hK' => ?_
  have h3 := run_build24_2 ca cb h1 h2 w
  unfold Oper.wp
  simp only [execOp, ho, List.map_toArray, List.map_cons, List.map_nil, hx, hy, Sem.run_bind, h3, Result.andThen_ok]
  exact hK' _ _ h

/-- Two rows in a new block. -/
theorem RowAt.two (w : World) (ca cb : List Value) (ha : ca.length = 7) (hb : cb.length = 7) : RowAt (fun b => b = w.heap.size) (w.alloc (.cells (ca ++ cb).toArray 26)) (.slice (some ⟨w.heap.size, 0, none⟩) 2 2) 7 [ca, cb] := by
  refine ⟨by simp [maxLen], by simp [ha, hb], _, _, rfl, (by intro e; cases e), fun _ => ⟨_, _, rfl, rfl, fun i r hr j u hu => ?_⟩⟩
  have hblk := Blk.new w (ca ++ cb) 26
  match i, hr with
  | 0, hr =>
    simp at hr; subst hr
    rw [Nat.zero_mul, Nat.add_zero, Nat.zero_add, hblk.cell j, List.getElem?_append_left (List.getElem?_eq_some_iff.1 hu).1]
    exact hu
  | 1, hr =>
    simp at hr; subst hr
    rw [hblk.cell, show 0 + 1 * 7 + j = ca.length + j by omega, List.getElem?_append_right (by omega), show ca.length + j - ca.length = j by omega]
    exact hu

/-- What reads as a value in order is raw. -/
theorem ValJ.raw {ok : Nat → Prop} {w : World} {cs : List Value} {j : J} (h : ValJ ok w cs j) : ∀ {n d : Nat}, Wf n d j → RawV ok w cs := by
  induction h with
  | null hk hl => intro n d _; exact .mk (ks := []) hk (by simp) hl (by simp)
  | bool hk hl => intro n d _; exact .mk (ks := []) hk (by simp) hl (by simp)
  | int hk hl => intro n d _; exact .mk (ks := []) hk (by simp) hl (by simp)
  | float hk hl => intro n d _; exact .mk (ks := []) hk (by simp) hl (by simp)
  | text hk hl => intro n d _; exact .mk (ks := []) hk (by simp) hl (by simp)
  | @list _ _ _ _ _ _ rows xs hk hl hn h ih =>
    intro n d wf
    cases d with
    | zero => exact wf.elim
    | succ d =>
      refine .mk (ks := []) hk (by simp) hl (fun r hr => ?_)
      obtain ⟨i, hi⟩ := List.getElem?_of_mem hr
      have hlt := (List.getElem?_eq_some_iff.1 hi).1
      have hx := List.getElem?_eq_getElem (l := xs) (i := i) (by omega)
      exact ih i r _ hi hx (wf.2 _ (List.mem_of_getElem? hx))
  | @table _ _ _ _ _ _ rows kvs hk hl hn h ih =>
    intro n d wf
    cases d with
    | zero => exact wf.elim
    | succ d =>
      refine .mk (ks := kvs.map (·.1)) (by simpa [kRows, List.map_map, Function.comp_def] using hk) (fun x hx => ?_) hl (fun r hr => ?_)
      · obtain ⟨p, hp, rfl⟩ := List.mem_map.1 hx
        exact (wf.2.2 p hp).1
      · obtain ⟨i, hi⟩ := List.getElem?_of_mem hr
        have hlt := (List.getElem?_eq_some_iff.1 hi).1
        have hx := List.getElem?_eq_getElem (l := kvs) (i := i) (by omega)
        exact ih i r _ hi hx (wf.2.2 _ (List.mem_of_getElem? hx)).2

end Go.Proofs.YtljaoopfomcaoaaGreatDoor
