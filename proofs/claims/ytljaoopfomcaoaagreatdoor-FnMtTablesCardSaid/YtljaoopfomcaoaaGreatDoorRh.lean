/-
  A region that appends what a call returns to a struct's list, in whatever order: facts and what holds on the way.
-/
import Derived.Test.YtljaoopfomcaoaaGreatDoorSh
set_option linter.unusedVariables false
set_option linter.unusedSimpArgs false
namespace Go.Proofs.YtljaoopfomcaoaaGreatDoor
open Go.RowKit

/-- The slot holds a slice over one new row that reads as a value. -/
def Fact.tempV (B : Nat) (x : J) : Fact :=
  ⟨fun v w => ∃ (t : Nat) (cs : List Value), v = .slice (some ⟨t, 0, Option.none⟩) 1 1 ∧ B ≤ t ∧ Blk w t cs 26 ∧ ValJ (fun b => B ≤ b) w cs x, fun S _ => ∀ k, S k → k < B,
   fun S v w w' h hc hs => by
    obtain ⟨t, cs, hv, hl, hb, hj⟩ := h
    exact ⟨t, cs, hv, hl, hb.chg hc (fun e => by have := hs t e; omega), hj.chg hc (fun b hb e => by have := hs b e; omega)⟩, fun _ _ e => e.elim⟩

/-- What the appended list is: the slot's value owns the old rows and one more, which reads as a value. -/
def OwnV (h B : Nat) (lv : Value) (rows : List (List Value)) (x : J) (v : Value) (w : World) : Prop :=
  ∃ cs : List Value, OwnR w (h + 1) 26 7 v (rows ++ [cs]) ∧ ValJ (fun b => B ≤ b ∧ v.ownBlock ≠ some b) w cs x ∧ (v.ownBlock = lv.ownBlock ∨ ∀ k, v.ownBlock = some k → B ≤ k)

theorem OwnV.chg {h B : Nat} {lv : Value} {rows : List (List Value)} {x : J} {v : Value} {S : Nat → Prop} {w w' : World} (hv : OwnV h B lv rows x v w) (hc : Chg S w w') (hs : ∀ k, S k → k ≤ h) (hB : h < B) : OwnV h B lv rows x v w' := by
  obtain ⟨cs, h1, h2, h3⟩ := hv
  exact ⟨cs, h1.chg hc (fun k hk e => by have := (h1.elem hk).1; have := hs k e; omega), h2.chg hc (fun b hb e => by have := hs b e; omega), h3⟩

def Fact.ownV (h B : Nat) (lv : Value) (rows : List (List Value)) (x : J) (hB : h < B) : Fact :=
  ⟨fun v w => OwnV h B lv rows x v w, fun S _ => ∀ k, S k → k ≤ h, fun S v w w' hv hc hs => hv.chg hc hs hB, fun _ _ e => e.elim⟩

/-- What holds on the way: the box in block h has its list cell last; the list is appended (da), and stored (ds). -/
structure VG (h : Nat) (mk : Value → List Value) (lv : Value) (rows : List (List Value)) (x : J) (wr w : World) (da ds : Bool) : Prop where
  size : wr.heap.size ≤ w.heap.size
  chg : Chg (fun b => b = h ∨ lv.ownBlock = some b) wr w
  own : da = false → OwnR w (h + 1) 26 7 lv rows
  low : ∀ k, lv.ownBlock = some k → h + 1 ≤ k ∧ k < wr.heap.size
  hB : h < wr.heap.size
  box : ∃ l', Blk w h (mk l') 26 ∧ (ds = false → l' = lv) ∧ (ds = true → OwnV h wr.heap.size lv rows x l' w)

section
variable {h : Nat} {mk : Value → List Value} {lv : Value} {rows : List (List Value)} {x : J} {wr w : World} {da ds : Bool}

theorem VG.start (hown : OwnR wr (h + 1) 26 7 lv rows) (hb : Blk wr h (mk lv) 26) : VG h mk lv rows x wr wr.drew false false :=
  ⟨Nat.le_refl _, (Chg.refl _ wr).drew, fun _ => hown.chg ((Chg.refl No wr).drew) (fun _ _ e => e), fun k hk => ⟨(hown.elem hk).1, (hown.elem hk).2.1⟩, hb.lt, lv, hb.drew, fun _ => rfl, fun e => (by cases e)⟩

theorem VG.chgNo {w' : World} (g : VG h mk lv rows x wr w da ds) (hc : Chg No w w') : VG h mk lv rows x wr w' da ds := by
  obtain ⟨l', h1, h2, h3⟩ := g.box
  exact ⟨Nat.le_trans g.size hc.size, g.chg.trans' hc, fun e => (g.own e).chg hc (fun _ _ e => e), g.low, g.hB, l', h1.chg hc id, h2, fun e => (h3 e).chg hc (fun _ e => e.elim) g.hB⟩

theorem VG.app {w' : World} (g : VG h mk lv rows x wr w false false) (hc : Chg (fun b => lv.ownBlock = some b) w w') : VG h mk lv rows x wr w' true false := by
  obtain ⟨l', h1, h2, h3⟩ := g.box
  exact ⟨Nat.le_trans g.size hc.size, g.chg.trans hc (fun i _ e => .inr e), fun e => (by cases e), g.low, g.hB, l', h1.chg hc (fun e => by have := (g.low h e).1; omega), h2, fun e => (by cases e)⟩

theorem VG.store {w' : World} {v : Value} (g : VG h mk lv rows x wr w true false) (hb : Blk w' h (mk v) 26) (hc : Chg (· = h) w w') (hv : OwnV h wr.heap.size lv rows x v w) : VG h mk lv rows x wr w' true true :=
  ⟨Nat.le_trans g.size hc.size, g.chg.trans hc (fun i _ e => .inl e), fun e => (by cases e), g.low, g.hB, v, hb, fun e => (by cases e), fun _ => hv.chg hc (fun k e => by omega) g.hB⟩

end

/-- A call of a function of the program by its contract. -/
theorem wp_callV {P : Program} {f : FuncId} (hcall : ∀ (args : Array Value) (w : World), (callFunc f args).run P w = .ok (.enter f args) w) {o : Oper} {a : Act} {w : World} {K : Act → World → Prop} {Q : Exit → Act → World → Prop} {x y : Operand} {ts : Array TypeId} (ho : o.op = .call { callee := .value (.func f), args := #[x, y], argTypes := ts })
    {u d : Value} (hx : a.eval x = u) (hy : a.eval y = d) {R : Ending → World → Prop} (hc : Calls P f #[u, d] w R) (h : ∀ e w', R e w' → ∃ v, e = .returned v ∧ K (a.put o.dst v) w') : o.wp P a w K Q := by
  unfold Oper.wp
  have hrun : (execOp a.eval o).run P w = .ok (.enter f #[u, d]) w := by
    simp only [execOp, ho, List.map_toArray, List.map_cons, List.map_nil, hx, hy]
    simp [resolve, Act.eval, go_sem, hcall]
    exact ⟨by rw [← hx]; cases x <;> simp [Act.eval], by rw [← hy]; cases y <;> simp [Act.eval]⟩
  rw [hrun, Oper.upon_enter]
  refine hc.mono fun e w' hr => ?_
  obtain ⟨v, rfl, hk⟩ := h e w' hr
  exact hk

theorem wp_build24V {o : Oper} {a : Act} {w : World} {K : Act → World → Prop} {Q : Exit → Act → World → Prop} {x : Operand} (ho : o.op = .buildSlice 24 1 #[(0, x)]) {cs : List Value} (hx : a.eval x = .agg cs.toArray) (h1 : cs.length = 7)
    (h : K (a.put o.dst (.slice (some ⟨w.heap.size, 0, none⟩) 1 1)) (w.alloc (.cells cs.toArray 26))) : o.wp Tryz.prog a w K Q := by
  have h3 := run_build24_1 cs h1 w
  unfold Oper.wp
  simp only [execOp, ho, List.map_toArray, List.map_cons, List.map_nil, hx, Sem.run_bind, h3, Result.andThen_ok]
  exact h

/-- m[k], in whatever order. -/
theorem wp_lookB1 {o : Oper} {a : Act} {w : World} {K' : Act → World → Prop} {Q : Exit → Act → World → Prop} {m x : Operand} (hop : o.op = Op.lookup 67 m x false) {b n : Nat} {f : K → Option Value} (hm : a.eval m = .map (some b)) (hb : MapB w b n f)
    {k : K} (hx : a.eval x = .string k) (hk : k.size ≤ maxLen) (hK : K' (a.put o.dst ((f k).getD .nilIface)) w) : o.wp Tryz.prog a w K' Q := by
  obtain ⟨D, h1, h2⟩ := hb
  obtain ⟨h3, -⟩ := look_of h1 hk false
  unfold Oper.wp
  simp only [execOp, hop, hm, hx, Sem.run_bind, h3, Result.andThen_ok, if_false, Bool.false_eq_true]
  rw [← h2]
  exact hK

/-- A slice is stored into a cell of a block. -/
theorem wpList_setSlice {P : Program} {ops : Array Oper} {rest : List Oper} {o : Oper} {a : Act} {w : World} {Q : Exit → Act → World → Prop} (hgd : o.guard = none) {ty : TypeId} {x y : Operand} (ho : o.op = .store ty x y)
    {g i : Nat} {sa : Option Addr} {sn sc : Nat} (hx : a.eval x = .pointer (some ⟨g, i, none⟩)) (hy : a.eval y = .slice sa sn sc) (hz : ∀ w, (Go.sizeOf ty).run P w = .ok 1 w) {cs : List Value} {t : TypeId} (hb : Blk w g cs t) (hi : i < cs.length)
    (h : ∀ w', Blk w' g (cs.set i (.slice sa sn sc)) t → Chg (· = g) w w' → w'.heap.size = w.heap.size → wpList P ops Q rest (a.put o.dst undef) w') : wpList P ops Q (o :: rest) a w := by
  refine wpList_plain hgd fun K hK => ?_
  have hc := hb.cell i
  have hf := hb.frozen i
  rw [List.getElem?_eq_getElem hi] at hc
  obtain ⟨h2, h3, h4⟩ := hb.setCell i (.slice sa sn sc)
  have hfin := hK _ _ (h _ h2 h3 h4)
  clear h hK h2 h3 h4
  unfold Oper.wp execOp
  simp only [ho, hx, hy]
  simp [go_sem, hz, hc, hf]
  exact hfin

end Go.Proofs.YtljaoopfomcaoaaGreatDoor
