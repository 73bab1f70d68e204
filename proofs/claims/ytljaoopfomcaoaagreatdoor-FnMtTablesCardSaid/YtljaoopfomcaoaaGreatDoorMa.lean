/-
  Maps from texts to interfaces, told by a function: laws at the operations.
-/
import Derived.Test.YtljaoopfomcaoaaGreatDoorPb
import Derived.Maps.OwnSet
import Derived.Maps.RangeWalk
set_option linter.unusedVariables false
set_option linter.unusedSimpArgs false
namespace Go.Proofs.YtljaoopfomcaoaaGreatDoor
open Go.RowKit

/-- An element of a map reads as itself. -/
abbrev RV (v : Value) : Option (DataW Value × List MemPlace) := some (.held v, [])

/-- The key, as the kit reads it. -/
def klit (k : K) : Lit := .string k.data.toList

theorem klit_inj {a b : K} (h : klit a = klit b) : a = b := by
  cases a; cases b
  simp only [klit, Lit.string.injEq, Array.toList_inj] at h
  exact congrArg _ h

theorem klit_key (k : K) : WideAt.IsKeyLit (klit k) := trivial

theorem klit_same (a b : K) : (klit a).sameKey (klit b) = (a == b) := by
  by_cases e : a = b
  · subst e; rw [WideAt.sameKey_self (klit_key a)]; simp
  · rw [Maps.sameKey_ne (fun h => e (klit_inj h))]; simp [e]

theorem keyed9 : Maps.Keyed Tryz.prog 9 := Maps.string_keyed Tryz.underlying9

theorem keyOf_klit {k : K} (h : k.size ≤ maxLen) : keyOf Tryz.prog 9 (.string k) = some (klit k) := by
  simp [keyOf, Tryz.underlying9, mapKey, klit, h]

theorem keyOf_inv {v : Value} {l : Lit} (h : keyOf Tryz.prog 9 v = some l) : ∃ k : K, v = .string k ∧ l = klit k ∧ k.size ≤ maxLen := by
  cases v <;> simp [keyOf, Tryz.underlying9, mapKey] at h
  rename_i s
  exact ⟨s, rfl, h.2.symm, h.1⟩

/-- What stands under a key. -/
def mv (D : DataW Value) (k : K) : Option Value :=
  match D.atKey (klit k) .nil with
  | .held v => some v
  | _ => none

theorem mv_put {D : DataW Value} (hD : Maps.IsMap D) (k : K) (v : Value) (k' : K) : mv (D.put (klit k) (.held v)) k' = if k' = k then some v else mv D k' := by
  unfold mv
  by_cases e : k' = k
  · subst e; rw [Maps.atKey_put_same hD (klit_key _), if_pos rfl]
  · rw [Maps.atKey_put_other (fun h => e (klit_inj h)), if_neg e]

theorem mv_del {D : DataW Value} (k k' : K) : mv (D.del (klit k)) k' = if k' = k then none else mv D k' := by
  unfold mv
  by_cases e : k' = k
  · subst e; rw [Maps.atKey_del_same, if_pos rfl]
  · rw [Maps.atKey_del_other (fun h => e (klit_inj h)), if_neg e]

/-- Block b is a map of at most n entries, told by f. -/
def MapB (w : World) (b n : Nat) (f : K → Option Value) : Prop :=
  ∃ D : DataW Value, w.ownsMap Tryz.prog 9 RV b n D ∧ ∀ k, f k = mv D k

theorem look_of {w : World} {b n : Nat} {D : DataW Value} (h : w.ownsMap Tryz.prog 9 RV b n D) {k : K} (hk : k.size ≤ maxLen) (c : Bool) :
    (Instr.lookup 67 (.map (some b)) (.string k) c).run Tryz.prog w = .ok (if c then .tuple #[(mv D k).getD .nilIface, .bool (mv D k).isSome] else (mv D k).getD .nilIface) w ∧ Maps.has D (klit k) = (mv D k).isSome ∧ (∀ z, D.atKey (klit k) z = match mv D k with | some v => .held v | none => z) := by
  obtain ⟨es, clock, hb, F, _, rfl⟩ := h
  have hz := Tryz.zeroValue20 w
  rcases Maps.fit_look c keyed9 Tryz.underlying67 hz hb F (keyOf_klit hk) with ⟨hrun, _, hat⟩ | ⟨e0, y, _, _, hrun, hRv, hat, _⟩
  · have hm : mv (DataW.map ((es.toList.map (WideElems.rg Tryz.prog 9 RV)).foldr DataW.insert [])) k = none := by unfold mv; rw [hat]
    rw [hm]
    refine ⟨?_, by rw [Maps.has_false_of_atKey hat]; rfl, hat⟩
    rw [hrun]; cases c <;> rfl
  · have hy : y.1 = .held e0.val := by cases hRv; rfl
    rw [hy] at hat
    have hm : mv (DataW.map ((es.toList.map (WideElems.rg Tryz.prog 9 RV)).foldr DataW.insert [])) k = some e0.val := by unfold mv; rw [hat]
    rw [hm]
    refine ⟨?_, by rw [Maps.has_true_of_atKey hat]; rfl, hat⟩
    rw [hrun]; cases c <;> rfl

theorem MapB.made (w : World) : MapB (w.alloc (.map #[] 0)) w.heap.size 0 (fun _ => none) := ⟨_, World.ownsMap_made w _ _ _, fun _ => rfl⟩

theorem MapB.chg {S : Nat → Prop} {w w' : World} {b n : Nat} {f : K → Option Value} (h : MapB w b n f) (hc : Chg S w w') (hn : ¬ S b) : MapB w' b n f := by
  obtain ⟨D, h1, h2⟩ := h
  have hlt := h1.lt
  obtain ⟨es, clock, hb, r⟩ := h1
  exact ⟨D, ⟨es, clock, (hc.block b hlt hn).trans hb, r⟩, h2⟩

theorem MapB.lt {w : World} {b n : Nat} {f : K → Option Value} (h : MapB w b n f) : b < w.heap.size := h.choose_spec.1.lt

theorem MapB.mono {w : World} {b n m : Nat} {f : K → Option Value} (h : MapB w b n f) (hm : n ≤ m) : MapB w b m f := by
  obtain ⟨D, h1, h2⟩ := h
  exact ⟨D, h1.mono hm, h2⟩

theorem MapB.alloc {w : World} {b n : Nat} {f : K → Option Value} (h : MapB w b n f) (o : Obj) : MapB (w.alloc o) b n f := h.chg ((Chg.refl No w).alloc o) id

theorem MapB.isMap {P : Program} {k : TypeId} {R : Value → Option (DataW Value × List MemPlace)} {w : World} {b n : Nat} {D : DataW Value} (h : w.ownsMap P k R b n D) : Maps.IsMap D := h.isMap

section
variable {w : World} {ops : Array Oper} {rest : List Oper} {o : Oper} {a : Act} {Q : Exit → Act → World → Prop}

/-- m[k] = v. -/
theorem wpList_putB (hg : o.guard = none) {m x v : Operand} (hop : o.op = Op.mapUpdate 67 m x v) {b n : Nat} {f : K → Option Value} (hm : a.eval m = .map (some b)) (hb : MapB w b n f) (hn : n < maxLen)
    {k : K} {u : Value} (hx : a.eval x = .string k) (hk : k.size ≤ maxLen) (hv : a.eval v = u)
    (hK : ∀ w', MapB w' b (n + 1) (fun z => if z = k then some u else f z) → Chg (· = b) w w' → w'.heap.size = w.heap.size → wpList Tryz.prog ops Q rest (a.put o.dst undef) w') :
    wpList Tryz.prog ops Q (o :: rest) a w := by
  obtain ⟨D, h1, h2⟩ := hb
  refine wpList_mapUpdate_in w hg m x v 67 hop 9 20 keyed9 Tryz.underlying67 RV b n D hm h1 hn _ u (klit k) hx hv (keyOf_klit hk) (.held u) [] rfl ?_
  intro w' h3 h4
  refine hK w' ⟨_, h3, fun z => ?_⟩ ((Chg.grown h4.grown).mono (fun i _ e => (Option.some.inj e).symm)) ?_
  · simp only [mv_put h1.isMap, h2]
  · obtain ⟨es, c, es', c', e1, rfl⟩ := h4
    simp [ChangeMaps.setBlock]

/-- v, ok := m[k]. -/
theorem wpList_lookB (hg : o.guard = none) {m x : Operand} (hop : o.op = Op.lookup 67 m x true) {b n : Nat} {f : K → Option Value} (hm : a.eval m = .map (some b)) (hb : MapB w b n f)
    {k : K} (hx : a.eval x = .string k) (hk : k.size ≤ maxLen)
    (hK : wpList Tryz.prog ops Q rest (a.put o.dst (.tuple #[(f k).getD .nilIface, .bool (f k).isSome])) w) : wpList Tryz.prog ops Q (o :: rest) a w := by
  obtain ⟨D, h1, h2⟩ := hb
  refine wpList_plain hg fun K' hK' => ?_
  obtain ⟨h3, -⟩ := look_of h1 hk true
  unfold Oper.wp
  simp only [execOp, hop, hm, hx, Sem.run_bind, h3, Result.andThen_ok, if_true]
  rw [← h2]
  exact hK' _ _ hK

/-- m[k]. -/
theorem wpList_lookB1 (hg : o.guard = none) {m x : Operand} (hop : o.op = Op.lookup 67 m x false) {b n : Nat} {f : K → Option Value} (hm : a.eval m = .map (some b)) (hb : MapB w b n f)
    {k : K} (hx : a.eval x = .string k) (hk : k.size ≤ maxLen)
    (hK : wpList Tryz.prog ops Q rest (a.put o.dst ((f k).getD .nilIface)) w) : wpList Tryz.prog ops Q (o :: rest) a w := by
  obtain ⟨D, h1, h2⟩ := hb
  refine wpList_plain hg fun K' hK' => ?_
  obtain ⟨h3, -⟩ := look_of h1 hk false
  unfold Oper.wp
  simp only [execOp, hop, hm, hx, Sem.run_bind, h3, Result.andThen_ok, if_false, Bool.false_eq_true]
  rw [← h2]
  exact hK' _ _ hK

/-- delete(m, k). -/
theorem wpList_delB (hg : o.guard = none) {m x : Operand} (hop : o.op = Op.call { callee := Callee.builtin Builtin.delete, args := #[m, x], argTypes := #[67, 9] }) {b n : Nat} {f : K → Option Value} (hm : a.eval m = .map (some b)) (hb : MapB w b n f)
    {k : K} (hx : a.eval x = .string k) (hk : k.size ≤ maxLen)
    (hK : ∀ w', MapB w' b n (fun z => if z = k then none else f z) → Chg (· = b) w w' → w'.heap.size = w.heap.size → wpList Tryz.prog ops Q rest (a.put o.dst (.tuple #[])) w') :
    wpList Tryz.prog ops Q (o :: rest) a w := by
  obtain ⟨D, h1, h2⟩ := hb
  refine wpList_delete_own w hg m x 67 9 hop 20 keyed9 Tryz.underlying67 RV b n D hm h1 _ (klit k) hx (keyOf_klit hk) ?_
  intro w' h3 h4
  refine hK w' ⟨_, h3, fun z => ?_⟩ ((Chg.grown h4.grown).mono (fun i _ e => (Option.some.inj e).symm)) ?_
  · simp only [mv_del, h2]
  · obtain ⟨es, c, es', c', e1, rfl⟩ := h4
    simp [ChangeMaps.setBlock]

/-- A range over block b is under way: the iterator lies in block r, what is left is told by a set of keys; at most cnt rounds come. -/
def RangeB (w : World) (b r n : Nat) (f : K → Option Value) (left : K → Bool) (cnt : Nat) : Prop :=
  ∃ (D : DataW Value) (l : Lit → Bool), w.ranges Tryz.prog 9 RV b r n D l cnt ∧ (∀ k, f k = mv D k) ∧ ∀ k, left k = l (klit k)

theorem RangeB.map {b r n : Nat} {f : K → Option Value} {left : K → Bool} {cnt : Nat} (h : RangeB w b r n f left cnt) : MapB w b n f := by
  obtain ⟨D, l, h1, h2, h3⟩ := h
  exact ⟨D, h1.owns, h2⟩

theorem RangeB.lt {b r n : Nat} {f : K → Option Value} {left : K → Bool} {cnt : Nat} (h : RangeB w b r n f left cnt) : r < w.heap.size := by
  obtain ⟨D, l, h1, h2, h3⟩ := h
  exact h1.lt

theorem RangeB.ne {b r n : Nat} {f : K → Option Value} {left : K → Bool} {cnt : Nat} (h : RangeB w b r n f left cnt) : r ≠ b := by
  obtain ⟨D, l, h1, h2, h3⟩ := h
  exact h1.ne

theorem RangeB.chg {S : Nat → Prop} {w' : World} {b r n : Nat} {f : K → Option Value} {left : K → Bool} {cnt : Nat} (h : RangeB w b r n f left cnt) (hc : Chg S w w') (hb : ¬ S b) (hr : ¬ S r) : RangeB w' b r n f left cnt := by
  obtain ⟨D, l, h1, h2, h3⟩ := h
  refine ⟨D, l, ?_, h2, h3⟩
  have l1 := h1.owns.lt
  have l2 := h1.lt
  obtain ⟨es, clock, since, seen, c0, e1, e2, e3, e4, e5, e6⟩ := h1
  exact ⟨es, clock, since, seen, c0, (hc.block b l1 hb).trans e1, e2, e3, e4, (hc.block r l2 hr).trans e5, e6⟩

theorem RangeB.alloc {b r n : Nat} {f : K → Option Value} {left : K → Bool} {cnt : Nat} (h : RangeB w b r n f left cnt) (o : Obj) : RangeB (w.alloc o) b r n f left cnt := h.chg ((Chg.refl No w).alloc o) id id

theorem RangeB.left_eq {b r n : Nat} {f : K → Option Value} {left : K → Bool} {cnt : Nat} (h : RangeB w b r n f left cnt) : w.rangeLeft b r = cnt := by
  obtain ⟨D, l, h1, h2, h3⟩ := h
  exact h1.left_eq

/-- range m. -/
theorem wpList_rangeB (hg : o.guard = none) {m : Operand} (hop : o.op = Op.range 67 m) {b n : Nat} {f : K → Option Value} (hm : a.eval m = .map (some b)) (hb : MapB w b n f)
    (hK : ∀ w' cnt, RangeB w' b w.heap.size n f (fun k => (f k).isSome) cnt → cnt ≤ n → Chg No w w' → w'.heap.size = w.heap.size + 1 → wpList Tryz.prog ops Q rest (a.put o.dst (.pointer (some ⟨w.heap.size, 0, none⟩))) w') :
    wpList Tryz.prog ops Q (o :: rest) a w := by
  obtain ⟨D, h1, h2⟩ := hb
  have hsz := h1.size_le
  have hhas : ∀ k : K, (f k).isSome = Maps.has D (klit k) := by
    intro k
    by_cases hk : k.size ≤ maxLen
    · rw [(look_of h1 hk true).2.1, h2]
    · have e1 : Maps.has D (klit k) = false := by
        obtain ⟨es, clock, hb, F, _, rfl⟩ := h1
        cases hh : Maps.has (DataW.map ((es.toList.map (WideElems.rg Tryz.prog 9 RV)).foldr DataW.insert [])) (klit k) with
        | false => rfl
        | true =>
          exfalso
          rw [Maps.has_eq, List.any_eq_true] at hh
          obtain ⟨p, hp, hs⟩ := hh
          obtain ⟨v, hv⟩ := Maps.fit_keys F p (mem_sorted.1 hp)
          obtain ⟨k', -, e, hk'⟩ := keyOf_inv hv
          rw [e, klit_same] at hs
          exact hk (by rw [← eq_of_beq hs]; exact hk')
      rw [e1, h2, mv, Maps.atKey_of_not_has e1]
      rfl
  refine wpList_range_own w hg m 67 hop 9 20 keyed9 Tryz.underlying67 RV b n D hm h1 ?_
  intro w' h3 h4 h5
  exact hK w' _ ⟨D, _, h3, h2, hhas⟩ hsz ((Chg.grown h4).mono (fun i _ e => by cases e)) h5

/-- The step of a range. -/
theorem wpList_nextB (hg : o.guard = none) {it : Operand} (hop : o.op = Op.next it false) {b r n : Nat} {f : K → Option Value} {left : K → Bool} {cnt : Nat} (hit : a.eval it = .pointer (some ⟨r, 0, none⟩)) (h : RangeB w b r n f left cnt)
    (hDone : cnt = 0 → (∀ k, left k = false) → wpList Tryz.prog ops Q rest (a.put o.dst (.tuple #[.bool false])) w)
    (hMore : ∀ (k : K) (v : Value) (w' : World) (cnt' : Nat), k.size ≤ maxLen → left k = true → f k = some v → RangeB w' b r n f (fun z => left z && !(z == k)) cnt' → cnt' < cnt → Chg (· = r) w w' → w'.heap.size = w.heap.size →
      (Instr.entry (.pointer (some ⟨r, 0, none⟩))).run Tryz.prog w' = .ok (.tuple #[.string k, v]) w' → wpList Tryz.prog ops Q rest (a.put o.dst (.tuple #[.bool true, .string k, v])) w') :
    wpList Tryz.prog ops Q (o :: rest) a w := by
  obtain ⟨D, l, h1, h2, h3⟩ := h
  refine wpList_next_ranges (α := K) (β := Value) w hg it hop 9 keyed9 RV Value.string id (fun key kl hkey => ?_) (fun v y _ => ⟨v, rfl⟩) b r n D l cnt hit h1 (fun h0 hl => hDone h0 (fun k => by rw [h3, hl])) ?_
  · obtain ⟨k, e, -⟩ := keyOf_inv hkey; exact ⟨k, e⟩
  · intro x c kl y w' cnt' hkey hlk hv hat hrg hlt hgr hsz hen
    obtain ⟨k, e, rfl, hk⟩ := keyOf_inv hkey
    cases e
    cases hv
    refine hMore x c w' cnt' hk (by rw [h3]; exact hlk) ?_ ⟨D, _, hrg, h2, fun z => by simp only [h3, klit_same]⟩ hlt ((Chg.grown hgr).mono (fun i _ e => (Option.some.inj e).symm)) hsz hen
    rw [h2, mv, hat]
    rfl

end

/-- What reads as a plain value among interfaces: the packages' values. -/
inductive AnyJ (ok : Nat → Prop) (w : World) : Value → J → Prop where
  | null : AnyJ ok w .nilIface .null
  | bool {b} : AnyJ ok w (.iface 4 (.bool b)) (.bool b)
  | int {i} : AnyJ ok w (.iface 2 (.int .i64 i)) (.int i)
  | float {f} : AnyJ ok w (.iface 22 (.float .f64 f)) (.float f)
  | text {t} : AnyJ ok w (.iface 9 (.string t)) (.text t)
  | list {v : Value} {vs : List Value} {xs : List J} (hr : RowAt ok w v 1 (vs.map fun u => [u])) (hn : vs.length = xs.length) (h : ∀ (n : Nat) (u : Value) (x : J), vs[n]? = some u → xs[n]? = some x → AnyJ ok w u x) : AnyJ ok w (.iface 151 v) (.list xs)
  | table {b n : Nat} {f : K → Option Value} {kvs : T} (hm : MapB w b n f) (hb : ok b) (hd : ∀ k, (f k).isSome = (get kvs k).isSome) (h : ∀ (k : K) (u : Value) (x : J), f k = some u → get kvs k = some x → AnyJ ok w u x) : AnyJ ok w (.iface 67 (.map (some b))) (.table kvs)

theorem AnyJ.chg {ok S : Nat → Prop} {w w' : World} {v : Value} {j : J} (h : AnyJ ok w v j) (hc : Chg S w w') (hs : ∀ b, ok b → ¬ S b) : AnyJ ok w' v j := by
  induction h with
  | null => exact .null
  | bool => exact .bool
  | int => exact .int
  | float => exact .float
  | text => exact .text
  | list hr hn _ ih => exact .list (hr.chg hc hs) hn ih
  | table hm hb hd _ ih => exact .table (hm.chg hc (hs _ hb)) hb hd ih

theorem AnyJ.mono {ok ok' : Nat → Prop} {w : World} {v : Value} {j : J} (h : AnyJ ok w v j) (hs : ∀ b, b < w.heap.size → ok b → ok' b) : AnyJ ok' w v j := by
  induction h with
  | null => exact .null
  | bool => exact .bool
  | int => exact .int
  | float => exact .float
  | text => exact .text
  | list hr hn _ ih => exact .list (hr.mono hs (by decide)) hn ih
  | table hm hb hd _ ih => exact .table hm (hs _ hm.lt hb) hd ih

/-- What was there stays, whatever happens to blocks that it does not reach. -/
theorem AnyJ.keep {ok S : Nat → Prop} {w w' : World} {v : Value} {j : J} (h : AnyJ ok w v j) (hc : Chg S w w') (hs : ∀ b, b < w.heap.size → ok b → ¬ S b) : AnyJ ok w' v j :=
  ((h.mono (ok' := fun b => ok b ∧ b < w.heap.size) (fun b hb hb2 => ⟨hb2, hb⟩)).chg hc (fun b hb => hs b hb.2 hb.1)).mono (fun b _ hb2 => hb2.1)

/-- What a type assertion to the maps' type yields. -/
def mapOf : Value → Value
  | .iface 67 v => v
  | _ => .map none

/-- What a value is, whatever the world. -/
def Any0 (v : Value) (j : J) : Prop := ∃ ok w, AnyJ ok w v j

theorem AnyJ.any0 {ok : Nat → Prop} {w : World} {v : Value} {j : J} (h : AnyJ ok w v j) : Any0 v j := ⟨_, _, h⟩

theorem run_assert67 {w : World} {v : Value} {j : J} (h : Any0 v j) : (Instr.typeAssert v 20 67 true).run Tryz.prog w = .ok (.tuple #[mapOf v, .bool (isT j)]) w := by
  obtain ⟨_, _, h⟩ := h
  cases h <;> kernel_rfl

theorem wpList_assert67 {ops : Array Oper} {rest : List Oper} {o : Oper} {a : Act} {Q : Exit → Act → World → Prop} (hg : o.guard = none) {x : Operand} (hop : o.op = Op.typeAssert x 20 67 true) {v : Value} (hx : a.eval x = v) {ok : Nat → Prop} {w0 w : World} {j : J} (h : AnyJ ok w0 v j)
    (hK : wpList Tryz.prog ops Q rest (a.put o.dst (.tuple #[mapOf v, .bool (isT j)])) w) : wpList Tryz.prog ops Q (o :: rest) a w := by
  refine wpList_plain hg fun K' hK' => ?_
  have h3 : (Instr.typeAssert v 20 67 true).run Tryz.prog w = .ok (.tuple #[mapOf v, .bool (isT j)]) w := by cases h <;> kernel_rfl
  unfold Oper.wp
  simp only [execOp, hop, hx, Sem.run_bind, h3, Result.andThen_ok]
  exact hK' _ _ hK

/-- len(m), of whatever length. -/
theorem MapB.len {w : World} {b n : Nat} {f : K → Option Value} (hb : MapB w b n f) : ∃ c : Nat, c ≤ n ∧ ∀ ty, (Builtin.len_ #[67] ty #[.map (some b)]).run Tryz.prog w = .ok (.int .i64 c) w := by
  obtain ⟨D, h1, h2⟩ := hb
  exact ⟨_, h1.size_le, fun ty => h1.len Tryz.underlying67 ty⟩

theorem run_makeMap67 (c : Int) (w : World) : (Instr.makeMap 67 (some (.int .i64 c))).run Tryz.prog w = .ok (.map (some w.heap.size)) (w.alloc (.map #[] 0)) := by kernel_rfl

theorem run_makeMap67n (w : World) : (Instr.makeMap 67 none).run Tryz.prog w = .ok (.map (some w.heap.size)) (w.alloc (.map #[] 0)) := rfl

theorem nodup_length : ∀ (l m : List Lit), l.Pairwise (fun p q => p ≠ q) → (∀ x ∈ l, x ∈ m) → l.length ≤ m.length
  | [], _, _, _ => Nat.zero_le _
  | a :: r, m, h, hs => by
    obtain ⟨h1, h2⟩ := List.pairwise_cons.1 h
    obtain ⟨m1, m2, rfl⟩ := List.append_of_mem (hs a (by simp))
    have hl := nodup_length r (m1 ++ m2) h2 (fun x hx => by
      have hm := hs x (by simp [hx])
      have hne : x ≠ a := fun e => h1 x hx e.symm
      simp only [List.mem_append, List.mem_cons] at hm ⊢
      rcases hm with hm | hm | hm
      · exact .inl hm
      · exact absurd hm hne
      · exact .inr hm)
    simp only [List.length_cons, List.length_append] at hl ⊢
    omega

/-- A map has no more entries than the table that it reads as. -/
theorem MapB.fit {w : World} {b n : Nat} {f : K → Option Value} {kvs : T} (h : MapB w b n f) (hd : ∀ k, (f k).isSome = (get kvs k).isSome) : MapB w b kvs.length f := by
  obtain ⟨D, h1, h2⟩ := h
  refine ⟨D, ?_, h2⟩
  have h3 := h1
  obtain ⟨es, clock, hb, F, hn, rfl⟩ := h1
  refine ⟨es, clock, hb, F, ?_, rfl⟩
  have hp := Maps.fit_apart keyed9 F
  have hl := nodup_length ((es.toList.map (WideElems.rg Tryz.prog 9 RV)).map (·.1)) (kvs.map fun p => klit p.1) (List.pairwise_map.2 hp) (fun x hx => by
    obtain ⟨p, hp, rfl⟩ := List.mem_map.1 hx
    obtain ⟨v, hv⟩ := Maps.fit_keys F p hp
    obtain ⟨k, -, e, hk⟩ := keyOf_inv hv
    have hh := (look_of h3 hk true).2.1
    have hm : Maps.has (DataW.map ((es.toList.map (WideElems.rg Tryz.prog 9 RV)).foldr DataW.insert [])) (klit k) = true := by
      rw [Maps.has_eq, List.any_eq_true]
      exact ⟨p, mem_sorted.2 hp, by rw [e, klit_same]; simp⟩
    rw [hm, ← h2, hd] at hh
    cases hg : get kvs k with
    | none => rw [hg] at hh; cases hh
    | some j => exact List.mem_map.2 ⟨(k, j), get_mem hg, e.symm⟩)
  simpa using hl

theorem run_build151 (u : Value) (h : u.oneCell' = true) (w : World) : (Instr.buildSlice 151 1 #[(0, u)]).run Tryz.prog w = .ok (.slice (some ⟨w.heap.size, 0, none⟩) 1 1) (w.alloc (.cells #[u] 20)) := by
  cases u <;> first | (simp [Value.oneCell'] at h; done) | kernel_rfl

theorem run_build24_1 (cs : List Value) (h : cs.length = 7) (w : World) : (Instr.buildSlice 24 1 #[(0, .agg cs.toArray)]).run Tryz.prog w = .ok (.slice (some ⟨w.heap.size, 0, none⟩) 1 1) (w.alloc (.cells cs.toArray 26)) := by
  obtain ⟨a, b, c, d, e, f, g, rfl⟩ : ∃ a b c d e f g, cs = [a, b, c, d, e, f, g] := by
    match cs, h with
    | [a, b, c, d, e, f, g], _ => exact ⟨a, b, c, d, e, f, g, rfl⟩
  clear h
  kernel_rfl

theorem wpList_build1 {ops : Array Oper} {rest : List Oper} {o : Oper} {a : Act} {w : World} {Q : Exit → Act → World → Prop} (hg : o.guard = none) {x : Operand} (ho : o.op = .buildSlice 151 1 #[(0, x)]) {u : Value} (hx : a.eval x = u) (h1 : u.oneCell' = true)
    (h : wpList Tryz.prog ops Q rest (a.put o.dst (.slice (some ⟨w.heap.size, 0, none⟩) 1 1)) (w.alloc (.cells #[u] 20))) : wpList Tryz.prog ops Q (o :: rest) a w := by
  refine wpList_plain hg fun K' hK' => ?_
  have h3 := run_build151 u h1 w
  unfold Oper.wp
  simp only [execOp, ho, List.map_toArray, List.map_cons, List.map_nil, hx, Sem.run_bind, h3, Result.andThen_ok]
  exact hK' _ _ h

theorem wpList_build24 {ops : Array Oper} {rest : List Oper} {o : Oper} {a : Act} {w : World} {Q : Exit → Act → World → Prop} (hg : o.guard = none) {x : Operand} (ho : o.op = .buildSlice 24 1 #[(0, x)]) {cs : List Value} (hx : a.eval x = .agg cs.toArray) (h1 : cs.length = 7)
    (h : wpList Tryz.prog ops Q rest (a.put o.dst (.slice (some ⟨w.heap.size, 0, none⟩) 1 1)) (w.alloc (.cells cs.toArray 26))) : wpList Tryz.prog ops Q (o :: rest) a w := by
  refine wpList_plain hg fun K' hK' => ?_
  have h3 := run_build24_1 cs h1 w
  unfold Oper.wp
  simp only [execOp, ho, List.map_toArray, List.map_cons, List.map_nil, hx, Sem.run_bind, h3, Result.andThen_ok]
  exact hK' _ _ h

end Go.Proofs.YtljaoopfomcaoaaGreatDoor
