/-
  The walk of valueIn: from the packages' values to impl.Value's cells.
-/
import Derived.Test.YtljaoopfomcaoaaGreatDoorRh
import Derived.IntWalk
set_option linter.unusedVariables false
set_option linter.unusedSimpArgs false
namespace Go.Proofs.YtljaoopfomcaoaaGreatDoor
open Go.RowKit

theorem as4_4 (v : Value) (w : World) : (Instr.typeAssert (.iface 4 v) 20 4 true).run Tryz.prog w = .ok (.tuple #[v, .bool true]) w := by kernel_rfl
theorem as4_2 (v : Value) (w : World) : (Instr.typeAssert (.iface 4 v) 20 2 true).run Tryz.prog w = .ok (.tuple #[.int .i64 0, .bool false]) w := by kernel_rfl
theorem as4_22 (v : Value) (w : World) : (Instr.typeAssert (.iface 4 v) 20 22 true).run Tryz.prog w = .ok (.tuple #[.float .f64 0, .bool false]) w := by kernel_rfl
theorem as4_9 (v : Value) (w : World) : (Instr.typeAssert (.iface 4 v) 20 9 true).run Tryz.prog w = .ok (.tuple #[.string ByteArray.empty, .bool false]) w := by kernel_rfl
theorem as4_151 (v : Value) (w : World) : (Instr.typeAssert (.iface 4 v) 20 151 true).run Tryz.prog w = .ok (.tuple #[.slice none 0 0, .bool false]) w := by kernel_rfl
theorem as4_3 (v : Value) (w : World) : (Instr.typeAssert (.iface 4 v) 20 3 true).run Tryz.prog w = .ok (.tuple #[.int .i64 0, .bool false]) w := by kernel_rfl
theorem as4_120 (v : Value) (w : World) : (Instr.typeAssert (.iface 4 v) 20 120 true).run Tryz.prog w = .ok (.tuple #[.pointer none, .bool false]) w := by kernel_rfl
theorem as4_86 (v : Value) (w : World) : (Instr.typeAssert (.iface 4 v) 20 86 true).run Tryz.prog w = .ok (.tuple #[.map none, .bool false]) w := by kernel_rfl
theorem as4_67 (v : Value) (w : World) : (Instr.typeAssert (.iface 4 v) 20 67 true).run Tryz.prog w = .ok (.tuple #[.map none, .bool false]) w := by kernel_rfl
theorem as2_4 (v : Value) (w : World) : (Instr.typeAssert (.iface 2 v) 20 4 true).run Tryz.prog w = .ok (.tuple #[.bool false, .bool false]) w := by kernel_rfl
theorem as2_2 (v : Value) (w : World) : (Instr.typeAssert (.iface 2 v) 20 2 true).run Tryz.prog w = .ok (.tuple #[v, .bool true]) w := by kernel_rfl
theorem as2_22 (v : Value) (w : World) : (Instr.typeAssert (.iface 2 v) 20 22 true).run Tryz.prog w = .ok (.tuple #[.float .f64 0, .bool false]) w := by kernel_rfl
theorem as2_9 (v : Value) (w : World) : (Instr.typeAssert (.iface 2 v) 20 9 true).run Tryz.prog w = .ok (.tuple #[.string ByteArray.empty, .bool false]) w := by kernel_rfl
theorem as2_151 (v : Value) (w : World) : (Instr.typeAssert (.iface 2 v) 20 151 true).run Tryz.prog w = .ok (.tuple #[.slice none 0 0, .bool false]) w := by kernel_rfl
theorem as2_3 (v : Value) (w : World) : (Instr.typeAssert (.iface 2 v) 20 3 true).run Tryz.prog w = .ok (.tuple #[.int .i64 0, .bool false]) w := by kernel_rfl
theorem as2_120 (v : Value) (w : World) : (Instr.typeAssert (.iface 2 v) 20 120 true).run Tryz.prog w = .ok (.tuple #[.pointer none, .bool false]) w := by kernel_rfl
theorem as2_86 (v : Value) (w : World) : (Instr.typeAssert (.iface 2 v) 20 86 true).run Tryz.prog w = .ok (.tuple #[.map none, .bool false]) w := by kernel_rfl
theorem as2_67 (v : Value) (w : World) : (Instr.typeAssert (.iface 2 v) 20 67 true).run Tryz.prog w = .ok (.tuple #[.map none, .bool false]) w := by kernel_rfl
theorem as22_4 (v : Value) (w : World) : (Instr.typeAssert (.iface 22 v) 20 4 true).run Tryz.prog w = .ok (.tuple #[.bool false, .bool false]) w := by kernel_rfl
theorem as22_2 (v : Value) (w : World) : (Instr.typeAssert (.iface 22 v) 20 2 true).run Tryz.prog w = .ok (.tuple #[.int .i64 0, .bool false]) w := by kernel_rfl
theorem as22_22 (v : Value) (w : World) : (Instr.typeAssert (.iface 22 v) 20 22 true).run Tryz.prog w = .ok (.tuple #[v, .bool true]) w := by kernel_rfl
theorem as22_9 (v : Value) (w : World) : (Instr.typeAssert (.iface 22 v) 20 9 true).run Tryz.prog w = .ok (.tuple #[.string ByteArray.empty, .bool false]) w := by kernel_rfl
theorem as22_151 (v : Value) (w : World) : (Instr.typeAssert (.iface 22 v) 20 151 true).run Tryz.prog w = .ok (.tuple #[.slice none 0 0, .bool false]) w := by kernel_rfl
theorem as22_3 (v : Value) (w : World) : (Instr.typeAssert (.iface 22 v) 20 3 true).run Tryz.prog w = .ok (.tuple #[.int .i64 0, .bool false]) w := by kernel_rfl
theorem as22_120 (v : Value) (w : World) : (Instr.typeAssert (.iface 22 v) 20 120 true).run Tryz.prog w = .ok (.tuple #[.pointer none, .bool false]) w := by kernel_rfl
theorem as22_86 (v : Value) (w : World) : (Instr.typeAssert (.iface 22 v) 20 86 true).run Tryz.prog w = .ok (.tuple #[.map none, .bool false]) w := by kernel_rfl
theorem as22_67 (v : Value) (w : World) : (Instr.typeAssert (.iface 22 v) 20 67 true).run Tryz.prog w = .ok (.tuple #[.map none, .bool false]) w := by kernel_rfl
theorem as9_4 (v : Value) (w : World) : (Instr.typeAssert (.iface 9 v) 20 4 true).run Tryz.prog w = .ok (.tuple #[.bool false, .bool false]) w := by kernel_rfl
theorem as9_2 (v : Value) (w : World) : (Instr.typeAssert (.iface 9 v) 20 2 true).run Tryz.prog w = .ok (.tuple #[.int .i64 0, .bool false]) w := by kernel_rfl
theorem as9_22 (v : Value) (w : World) : (Instr.typeAssert (.iface 9 v) 20 22 true).run Tryz.prog w = .ok (.tuple #[.float .f64 0, .bool false]) w := by kernel_rfl
theorem as9_9 (v : Value) (w : World) : (Instr.typeAssert (.iface 9 v) 20 9 true).run Tryz.prog w = .ok (.tuple #[v, .bool true]) w := by kernel_rfl
theorem as9_151 (v : Value) (w : World) : (Instr.typeAssert (.iface 9 v) 20 151 true).run Tryz.prog w = .ok (.tuple #[.slice none 0 0, .bool false]) w := by kernel_rfl
theorem as9_3 (v : Value) (w : World) : (Instr.typeAssert (.iface 9 v) 20 3 true).run Tryz.prog w = .ok (.tuple #[.int .i64 0, .bool false]) w := by kernel_rfl
theorem as9_120 (v : Value) (w : World) : (Instr.typeAssert (.iface 9 v) 20 120 true).run Tryz.prog w = .ok (.tuple #[.pointer none, .bool false]) w := by kernel_rfl
theorem as9_86 (v : Value) (w : World) : (Instr.typeAssert (.iface 9 v) 20 86 true).run Tryz.prog w = .ok (.tuple #[.map none, .bool false]) w := by kernel_rfl
theorem as9_67 (v : Value) (w : World) : (Instr.typeAssert (.iface 9 v) 20 67 true).run Tryz.prog w = .ok (.tuple #[.map none, .bool false]) w := by kernel_rfl
theorem as151_4 (v : Value) (w : World) : (Instr.typeAssert (.iface 151 v) 20 4 true).run Tryz.prog w = .ok (.tuple #[.bool false, .bool false]) w := by kernel_rfl
theorem as151_2 (v : Value) (w : World) : (Instr.typeAssert (.iface 151 v) 20 2 true).run Tryz.prog w = .ok (.tuple #[.int .i64 0, .bool false]) w := by kernel_rfl
theorem as151_22 (v : Value) (w : World) : (Instr.typeAssert (.iface 151 v) 20 22 true).run Tryz.prog w = .ok (.tuple #[.float .f64 0, .bool false]) w := by kernel_rfl
theorem as151_9 (v : Value) (w : World) : (Instr.typeAssert (.iface 151 v) 20 9 true).run Tryz.prog w = .ok (.tuple #[.string ByteArray.empty, .bool false]) w := by kernel_rfl
theorem as151_151 (v : Value) (w : World) : (Instr.typeAssert (.iface 151 v) 20 151 true).run Tryz.prog w = .ok (.tuple #[v, .bool true]) w := by kernel_rfl
theorem as151_3 (v : Value) (w : World) : (Instr.typeAssert (.iface 151 v) 20 3 true).run Tryz.prog w = .ok (.tuple #[.int .i64 0, .bool false]) w := by kernel_rfl
theorem as151_120 (v : Value) (w : World) : (Instr.typeAssert (.iface 151 v) 20 120 true).run Tryz.prog w = .ok (.tuple #[.pointer none, .bool false]) w := by kernel_rfl
theorem as151_86 (v : Value) (w : World) : (Instr.typeAssert (.iface 151 v) 20 86 true).run Tryz.prog w = .ok (.tuple #[.map none, .bool false]) w := by kernel_rfl
theorem as151_67 (v : Value) (w : World) : (Instr.typeAssert (.iface 151 v) 20 67 true).run Tryz.prog w = .ok (.tuple #[.map none, .bool false]) w := by kernel_rfl
theorem as67_4 (v : Value) (w : World) : (Instr.typeAssert (.iface 67 v) 20 4 true).run Tryz.prog w = .ok (.tuple #[.bool false, .bool false]) w := by kernel_rfl
theorem as67_2 (v : Value) (w : World) : (Instr.typeAssert (.iface 67 v) 20 2 true).run Tryz.prog w = .ok (.tuple #[.int .i64 0, .bool false]) w := by kernel_rfl
theorem as67_22 (v : Value) (w : World) : (Instr.typeAssert (.iface 67 v) 20 22 true).run Tryz.prog w = .ok (.tuple #[.float .f64 0, .bool false]) w := by kernel_rfl
theorem as67_9 (v : Value) (w : World) : (Instr.typeAssert (.iface 67 v) 20 9 true).run Tryz.prog w = .ok (.tuple #[.string ByteArray.empty, .bool false]) w := by kernel_rfl
theorem as67_151 (v : Value) (w : World) : (Instr.typeAssert (.iface 67 v) 20 151 true).run Tryz.prog w = .ok (.tuple #[.slice none 0 0, .bool false]) w := by kernel_rfl
theorem as67_3 (v : Value) (w : World) : (Instr.typeAssert (.iface 67 v) 20 3 true).run Tryz.prog w = .ok (.tuple #[.int .i64 0, .bool false]) w := by kernel_rfl
theorem as67_120 (v : Value) (w : World) : (Instr.typeAssert (.iface 67 v) 20 120 true).run Tryz.prog w = .ok (.tuple #[.pointer none, .bool false]) w := by kernel_rfl
theorem as67_86 (v : Value) (w : World) : (Instr.typeAssert (.iface 67 v) 20 86 true).run Tryz.prog w = .ok (.tuple #[.map none, .bool false]) w := by kernel_rfl
theorem as67_67 (v : Value) (w : World) : (Instr.typeAssert (.iface 67 v) 20 67 true).run Tryz.prog w = .ok (.tuple #[v, .bool true]) w := by kernel_rfl

theorem run_mapNil (b : Nat) (w : World) : (Go.binOp BinOp.eql 67 (.map (some b)) (.map none)).run Tryz.prog w = .ok (.bool false) w := by kernel_rfl

theorem run_nilNil (w : World) : (Go.binOp BinOp.eql 67 (.map none) (.map none)).run Tryz.prog w = .ok (.bool true) w := by kernel_rfl

theorem rowNil (ok : Nat → Prop) (w : World) (size : Nat) : RowAt ok w (.slice none 0 0) size [] := ⟨by simp, by simp, none, 0, rfl, fun _ => rfl, fun h => absurd rfl h⟩

/-- valueIn's outcome. -/
def ValPost (w : World) (j : J) (e : Ending) (w' : World) : Prop :=
  ∃ cs : List Value, e = .returned (.agg cs.toArray) ∧ ValJ (fun x => w.heap.size ≤ x) w' cs j ∧ Chg No w w'


/-- What is newer than block h, and not block v's. -/
abbrev okH (h : Nat) (v : Value) : Nat → Prop := fun x => h < x ∧ v.ownBlock ≠ some x

/-- valueIn's box in block h under way. -/
structure VL (w : World) (h : Nat) (kd : Int) (ks : List K) (kv : Value) (xs : List J) (wr : World) (n : Nat) (lv : Value) (rows : List (List Value)) : Prop where
  le : n ≤ xs.length
  own : OwnR wr (h + 1) 26 7 lv rows
  keys : OwnR wr (h + 1) 9 1 kv (kRows ks)
  len : rows.length = n
  val : ∀ (i : Nat) (r : List Value) (x : J), rows[i]? = some r → xs[i]? = some x → ValJ (okH h lv) wr r x
  chg : Chg No w wr
  res : Blk wr w.heap.size zero7 26
  box : Blk wr h (cells7 kd false 0 0 ⟨#[]⟩ kv lv) 26
  hw : w.heap.size < h

theorem VL.step {w : World} {h : Nat} {kd : Int} {ks : List K} {kv : Value} {xs : List J} {wr w' : World} {n : Nat} {lv : Value} {rows : List (List Value)} {x : J} (v : VL w h kd ks kv xs wr n lv rows) (hx : xs[n]? = some x)
    (g : VG h (fun l => cells7 kd false 0 0 ⟨#[]⟩ kv l) lv rows x wr w' true true) : ∃ lv' rows', VL w h kd ks kv xs w' (n + 1) lv' rows' := by
  obtain ⟨l', hb, -, hv⟩ := g.box
  obtain ⟨cs, h1, h2, h3⟩ := hv rfl
  have hlt : n < xs.length := (List.getElem?_eq_some_iff.1 hx).1
  have hw := v.hw
  have hB := g.hB
  refine ⟨l', rows ++ [cs], hlt, h1, v.keys.chg g.chg (fun k hk e => ?_), by simp [v.len], fun i r y hr hy => ?_, v.chg.trans g.chg (fun i hi e => ?_), v.res.chg g.chg (fun e => ?_), hb, hw⟩
  · rcases e with e | e
    · have := (v.keys.elem hk).1; omega
    · exact v.own.apart v.keys (by decide) e hk
  · by_cases hi : i < rows.length
    · rw [List.getElem?_append_left hi] at hr
      have hk2 := (v.val i r y hr hy).mono (ok' := fun b => okH h lv b ∧ b < wr.heap.size) (fun b hb hb2 => ⟨hb2, hb⟩)
      have hk3 := hk2.chg g.chg (fun b hb e => by
        rcases e with e | e
        · have := hb.1.1; omega
        · exact hb.1.2 e)
      refine hk3.mono (fun b _ hb => ⟨hb.1.1, fun e => ?_⟩)
      rcases h3 with h3 | h3
      · exact hb.1.2 (h3 ▸ e)
      · have := h3 b e; have := hb.2; omega
    · have hi2 : i = rows.length := by
        have := (List.getElem?_eq_some_iff.1 hr).1
        simp at this
        omega
      subst hi2
      rw [List.getElem?_append_right (Nat.le_refl _), Nat.sub_self] at hr
      cases hr
      rw [v.len, hx] at hy
      cases hy
      exact h2.mono (fun b _ hb => ⟨by have := hb.1; omega, hb.2⟩)
  · rcases e with e | e
    · omega
    · have := (g.low i e).1; omega
  · rcases e with e | e
    · omega
    · have := (g.low _ e).1; omega

theorem VL.list {w : World} {h : Nat} {xs : List J} {wr : World} {lv : Value} {rows : List (List Value)} (v : VL w h 6 [] (.slice none 0 0) xs wr xs.length lv rows) : ValJ (fun b => h < b) wr (cells7 6 false 0 0 ⟨#[]⟩ (.slice none 0 0) lv) (.list xs) :=
  .list (rowNil _ _ _) (v.own.rowAt.mono (fun b _ hb => (v.own.elem hb).1) (by decide)) v.len (fun n r x hr hx => (v.val n r x hr hx).mono (fun b _ hb => hb.1))

theorem VL.table {w : World} {h : Nat} {kvs : T} {kv : Value} {wr : World} {lv : Value} {rows : List (List Value)} (v : VL w h 7 (kvs.map (·.1)) kv (kvs.map (·.2)) wr kvs.length lv rows) : ValJ (fun b => h < b) wr (cells7 7 false 0 0 ⟨#[]⟩ kv lv) (.table kvs) :=
  .table (by
    have h1 := v.keys.rowAt.mono (ok' := fun b => h < b) (fun b _ hb => (v.keys.elem hb).1) (by decide)
    simpa [kRows, List.map_map, Function.comp_def] using h1) (v.own.rowAt.mono (fun b _ hb => (v.own.elem hb).1) (by decide)) v.len (fun n r p hr hp => (v.val n r p.2 hr (by simp [hp])).mono (fun b _ hb => hb.1))


theorem RangeB.apart {w : World} {b r n : Nat} {f : K → Option Value} {left : K → Bool} {cnt : Nat} (h : RangeB w b r n f left cnt) {base e size : Nat} {v : Value} {rows : List (List Value)} (ho : OwnR w base e size v rows) {k : Nat} (hk : v.ownBlock = some k) : k ≠ r ∧ k ≠ b := by
  obtain ⟨D, l, h1, -, -⟩ := h
  obtain ⟨es, clock, since, seen, c0, e1, -, -, -, e5, -⟩ := h1
  obtain ⟨-, -, cur, h2⟩ := ho.elem hk
  constructor
  · rintro rfl; rw [e5] at h2; cases h2
  · rintro rfl; rw [e1] at h2; cases h2

/-- What lies under the key of a list. -/
theorem get_nulls (l : List K) (k : K) : get (l.map fun k => (k, J.null)) k = if k ∈ l then some .null else none := by
  induction l with
  | nil => simp [get]
  | cons a r ih =>
    simp only [List.map_cons, get, List.mem_cons]
    by_cases e : a = k
    · rw [if_pos e, if_pos (.inl e.symm)]
    · rw [if_neg e, ih]
      by_cases h : k ∈ r
      · rw [if_pos h, if_pos (.inr h)]
      · rw [if_neg h, if_neg (fun h2 => h2.elim (fun e2 => e e2.symm) h)]

theorem keys_unique {l m : List K} (hl : l.Pairwise klt) (hm : m.Pairwise klt) (h : ∀ k, k ∈ l ↔ k ∈ m) : l = m := by
  have e : (l.map fun k => (k, J.null)) = m.map fun k => (k, J.null) := by
    refine t_ext (by simpa [Sorted, List.pairwise_map] using hl) (by simpa [Sorted, List.pairwise_map] using hm) fun k => ?_
    rw [get_nulls, get_nulls]
    simp only [h]
  have e2 := congrArg (List.map Prod.fst) e
  simpa [List.map_map, Function.comp_def] using e2

/-- The keys of a map are being collected. -/
structure KC (w : World) (h b r n : Nat) (f : K → Option Value) (wr : World) (left : K → Bool) (cnt : Nat) (kv : Value) (ks : List K) : Prop where
  rng : RangeB wr b r n f left cnt
  num : ks.length + cnt ≤ n
  own : OwnR wr (h + 1) 9 1 kv (kRows ks)
  nodup : ks.Nodup
  mem : ∀ k, k ∈ ks ↔ ((f k).isSome = true ∧ left k = false)
  chg : Chg No w wr
  res : Blk wr w.heap.size zero7 26
  box : Blk wr h (cells7 7 false 0 0 ⟨#[]⟩ kv (.slice none 0 0)) 26
  hw : w.heap.size < h
  hr : h < r
  hb : b < w.heap.size

theorem KC.step {w : World} {h b r n : Nat} {f : K → Option Value} {wr : World} {left : K → Bool} {cnt : Nat} {kv : Value} {ks : List K} (v : KC w h b r n f wr left cnt kv ks) {k : K} {u : Value} (hlk : left k = true) (hf : f k = some u)
    {w1 w6 : World} {cnt' : Nat} (hrg : RangeB w1 b r n f (fun z => left z && !(z == k)) cnt') (hlt : cnt' < cnt) (h1 : Chg (· = r) wr w1) {kv' : Value} (h6 : Chg (fun i => kv.ownBlock = some i) (w1.alloc (.cells #[.string k] 9)) w6)
    (hown : OwnR w6 (h + 1) 9 1 kv' (kRows ks ++ [[.string k]])) :
    Blk w6 h (cells7 7 false 0 0 ⟨#[]⟩ kv (.slice none 0 0)) 26 ∧ ∀ w7, Blk w7 h (cells7 7 false 0 0 ⟨#[]⟩ kv' (.slice none 0 0)) 26 → Chg (· = h) w6 w7 → KC w h b r n f w7 (fun z => left z && !(z == k)) cnt' kv' (ks ++ [k]) := by
  have hw := v.hw
  have hr := v.hr
  have hbw := v.hb
  have hel : ∀ i, kv.ownBlock = some i → h + 1 ≤ i ∧ i < wr.heap.size ∧ i ≠ r ∧ i ≠ b := fun i hi => ⟨(v.own.elem hi).1, (v.own.elem hi).2.1, (v.rng.apart v.own hi).1, (v.rng.apart v.own hi).2⟩
  have c1 : Chg (fun i => i = r ∨ kv.ownBlock = some i) wr w6 := ((h1.mono (fun i _ e => .inl e)).alloc _).trans h6 (fun i _ e => .inr e)
  have hrl := v.rng.lt
  refine ⟨v.box.chg c1 (fun e => ?_), fun w7 hb7 h7 => ⟨?_, by have := v.num; simp; omega, ?_, ?_, fun z => ?_, (v.chg.trans c1 (fun i hi e => ?_)).trans h7 (fun i hi e => by omega), (v.res.chg c1 (fun e => ?_)).chg h7 (by omega), hb7, hw, hr, hbw⟩⟩
  · rcases e with e | e
    · omega
    · have := (hel h e).1; omega
  · refine ((hrg.alloc _).chg h6 (fun e => (hel b e).2.2.2 rfl) (fun e => (hel r e).2.2.1 rfl)).chg h7 (by omega) (by omega)
  · have h2 := hown.chg h7 (fun i hi e => by have := (hown.elem hi).1; omega)
    simpa [kRows] using h2
  · rw [List.nodup_append]
    refine ⟨v.nodup, by simp, fun a ha c hc e => ?_⟩
    simp only [List.mem_singleton] at hc
    subst hc
    subst e
    have := ((v.mem a).1 ha).2
    rw [hlk] at this
    cases this
  · simp only [List.mem_append, List.mem_singleton, Bool.and_eq_false_iff, Bool.not_eq_false', beq_iff_eq]
    constructor
    · rintro (h2 | rfl)
      · exact ⟨((v.mem z).1 h2).1, .inl ((v.mem z).1 h2).2⟩
      · exact ⟨by rw [hf]; rfl, .inr rfl⟩
    · rintro ⟨h2, h3 | h3⟩
      · exact .inl ((v.mem z).2 ⟨h2, h3⟩)
      · exact .inr h3
  · rcases e with e | e
    · have := v.chg.size; have := v.rng.ne; omega
    · have := (hel i e).1; omega
  · rcases e with e | e
    · omega
    · have := (hel _ e).1; omega

/-- What was collected and sorted are the table's keys. -/
theorem KC.keys {w : World} {h b r n : Nat} {f : K → Option Value} {wr : World} {left : K → Bool} {cnt : Nat} {kv : Value} {ks ks' : List K} (v : KC w h b r n f wr left cnt kv ks) (hl : ∀ k, left k = false) {kvs : T} (hs : Sorted kvs) (hd : ∀ k, (f k).isSome = (get kvs k).isSome)
    (hp : ks'.Perm ks) (hs' : ks'.Pairwise (fun a b => a.data.toList ≤ b.data.toList)) : ks' = kvs.map (·.1) := by
  have hnd : ks'.Pairwise (fun a b => a ≠ b) := (hp.nodup_iff).2 v.nodup
  have hlt : ks'.Pairwise klt := (hs'.and hnd).imp (fun {a b} hab => by
    rcases Decidable.em (klt a b) with h1 | h1
    · exact h1
    · exact absurd (k_ext (List.le_antisymm hab.1 (List.not_lt.1 h1))) hab.2)
  refine keys_unique hlt (by simpa [Sorted, List.pairwise_map] using hs) fun k => ?_
  rw [hp.mem_iff, v.mem, hd]
  constructor
  · rintro ⟨h1, -⟩
    cases hg : get kvs k with
    | none => rw [hg] at h1; cases h1
    | some x => exact List.mem_map.2 ⟨(k, x), get_mem hg, rfl⟩
  · intro hm
    obtain ⟨p, hp, rfl⟩ := List.mem_map.1 hm
    rw [mem_get hs hp]
    exact ⟨rfl, hl _⟩

set_option maxRecDepth 100000 in
set_option maxHeartbeats 1000000 in
theorem valueIn_any (N : Nat) (hN : N < 1099511627776) (d : Nat) : ∀ (ok : Nat → Prop) (j : J) (v : Value) (w : World) (dep : Nat), AnyJ ok w v j → Wf N d j → dep + d ≤ 4001 →
    Calls Tryz.prog 94 #[v, .int .i64 (dep : Int)] w (ValPost w j) := by
  induction d with
  | zero => intro ok j v w dep _ h; exact h.elim
  | succ d ih =>
    intro ok j v w dep hv wf hd
    have HV := Lib.hid hv
    have WF := Lib.hid wf
    have IH := Lib.hid ih
    have hd5 : ¬ (4000 : Int) < (dep : Int) := by omega
    have hd3 : (dep : Int) + 1 ≤ 4001 := by omega
    have HD := Lib.hid hd
    clear hv wf ih hd
    have hb0 := Blk.new w zero7 26
    cases HV.out with
    | null =>
      go_enter Tryz.func94, Tryz.ntmps94
      go_wp2
      exact bodyPost_ret (results_blk rfl agg26 rfl (Blk.new w (cells7 0 false 0 0 ⟨#[]⟩ (.slice none 0 0) (.slice none 0 0)) 26) rfl) rfl ⟨_, rfl, .null (rowNil _ _ _) (rowNil _ _ _), (Chg.refl _ _).alloc _⟩
    | @bool b =>
      have f4 := as4_4
      go_enter Tryz.func94, Tryz.ntmps94
      go_wp2
      exact bodyPost_ret (results_blk rfl agg26 rfl (Blk.new w (cells7 1 b 0 0 ⟨#[]⟩ (.slice none 0 0) (.slice none 0 0)) 26) rfl) rfl ⟨_, rfl, .bool (rowNil _ _ _) (rowNil _ _ _), (Chg.refl _ _).alloc _⟩
    | @int i =>
      have f4 := as2_4
      have f2 := as2_2
      go_enter Tryz.func94, Tryz.ntmps94
      go_wp2
      exact bodyPost_ret (results_blk rfl agg26 rfl (Blk.new w (cells7 2 false i 0 ⟨#[]⟩ (.slice none 0 0) (.slice none 0 0)) 26) rfl) rfl ⟨_, rfl, .int (rowNil _ _ _) (rowNil _ _ _), (Chg.refl _ _).alloc _⟩
    | @float f =>
      have f4 := as22_4
      have f2 := as22_2
      have f22 := as22_22
      go_enter Tryz.func94, Tryz.ntmps94
      go_wp2
      exact bodyPost_ret (results_blk rfl agg26 rfl (Blk.new w (cells7 4 false 0 f ⟨#[]⟩ (.slice none 0 0) (.slice none 0 0)) 26) rfl) rfl ⟨_, rfl, .float (rowNil _ _ _) (rowNil _ _ _), (Chg.refl _ _).alloc _⟩
    | @text t =>
      have f4 := as9_4
      have f2 := as9_2
      have f22 := as9_22
      have f9 := as9_9
      go_enter Tryz.func94, Tryz.ntmps94
      go_wp2
      exact bodyPost_ret (results_blk rfl agg26 rfl (Blk.new w (cells7 5 false 0 0 t (.slice none 0 0) (.slice none 0 0)) 26) rfl) rfl ⟨_, rfl, .text (rowNil _ _ _) (rowNil _ _ _), (Chg.refl _ _).alloc _⟩
    | @list v vs xs hr hn hval =>
      have f4 := as151_4
      have f2 := as151_2
      have f22 := as151_22
      have f9 := as151_9
      have f151 := as151_151

      have HR := Lib.hid hr
      have HN := Lib.hid hn
      have HU := Lib.hid hval
      have hl1 := hr.1
      obtain ⟨-, -, la, lc, rfl, -, -⟩ := hr
      simp only [List.length_map] at hl1 HR HV ⊢
      unfold maxLen at hl1
      clear hn hval
      go_enter Tryz.func94, Tryz.ntmps94
      go_wp2_with fail
      obtain ⟨h, hh⟩ : ∃ h, h = w.heap.size + 1 := ⟨_, rfl⟩
      have hb1 := (Blk.newAt (w := w.alloc (.cells zero7.toArray 26)) (n := h) (by simp [hh]) (cells7 6 false 0 0 ⟨#[]⟩ (.slice none 0 0) (.slice none 0 0)) 26)
      have HVL0 := Lib.hid (show VL w h 6 [] (.slice none 0 0) xs _ 0 (.slice none 0 0) [] from
        ⟨Nat.zero_le _, OwnR.nil _ _ _ _, OwnR.nil _ _ _ _, rfl, fun i r x hr => by simp at hr, ((Chg.refl No w).alloc _).alloc _, hb0.alloc _, hb1, by omega⟩)
      rw [← hh]
      have HH := Lib.hid hh
      clear hb0 hb1 hh
      unfold cells7 zero7 at HVL0
      go_loopw [54] (fun ct wr => ∃ (n : Nat) (lv : Value) (rows : List (List Value)), ct = .int .i64 n ∧ VL w h 6 [] (.slice none 0 0) xs wr n lv rows) (fun ct _ => xs.length - (intOf ct).toNat)
      case atStart => exact ⟨0, _, _, rfl, HVL0.out⟩
      case round =>
        obtain ⟨n, lv, rows, rfl, hvl⟩ := hrel
        have HVL := Lib.hid hvl
        clear hvl HVL0
        by_cases hlt : n < xs.length
        · obtain ⟨x, hx⟩ : ∃ x, xs[n]? = some x := ⟨_, List.getElem?_eq_getElem hlt⟩
          have hlt2 : n < vs.length := by rw [HN.out]; exact hlt
          obtain ⟨u, hu⟩ : ∃ u, vs[n]? = some u := ⟨_, List.getElem?_eq_getElem hlt2⟩
          obtain ⟨kb, ko, rfl, hkok, hkc⟩ := HR.out.at (i := n) (r := [u]) (by simp [hu])
          have hkc := (hkc.chg HVL.out.chg id).one
          simp only [Nat.mul_one] at hkc
          have h64 : (n : Int) < (vs.length : Int) := by omega
          have HUX := Lib.hid (HU.out n u x hu hx)
          have HX := Lib.hid hx
          have hwrap : IntKind.i64.wrap ((dep : Int) + 1) = (dep : Int) + 1 := IntWalk.i64_in _ (by omega)
          have HB := Lib.hid HVL.out.box.lt
          have HNB := Lib.hid (show rows.length + 1 ≤ 1099511627776 by have h1 := HVL.out.len; have h2 := HVL.out.le; have h3 := WF.out.1; omega)
          clear hu hx
          go_upto_region 25 with (fail)
          refine wp_region_inv (FI [.eq (.pointer (some ⟨h, 6, none⟩)), .eq lv, .eq u, .eq (.int .i64 (dep : Int)), .eq (.int .i64 ((dep : Int) + 1)), .val (fun b => wr.heap.size ≤ b) x, .tempV wr.heap.size x, .ownV h wr.heap.size lv rows x HB.out, .eq (.pointer (some ⟨h, 6, none⟩)), .any])
            (fun done w' => VG h (fun l => cells7 6 false 0 0 ⟨#[]⟩ (.slice none 0 0) l) lv rows x wr w' (done 7) (done 9))
            (by kernel_rfl) (by kernel_rfl) (VG.start HVL.out.own HVL.out.box) ?_ ?_
          · refine ⟨?_, ?_, ?_, ?_, ?_, ?_, ?_, ?_, ?_, ?_, trivial⟩
            · intro done a w1 K hd hcl hsl hot hdep hG hK
              have e11 : a.tmps[11]?.getD undef = .pointer (some ⟨h, 0, none⟩) := hot 11 rfl
              clear hcl hsl hot hdep
              go_simp
              exact hK _ _ rfl (by simpa [dn] using hG) (fun _ _ _ _ h => h)
            · intro done a w1 K hd hcl hsl hot hdep hG hK
              have e58 : a.tmps[58]?.getD undef = .pointer (some ⟨h, 6, none⟩) := hsl 0 58 rfl (hdep 0 rfl)
              have nS : done 9 = false := by
                cases hh0 : done 9 with
                | false => rfl
                | true =>
                  have hh1 := hcl 9 7 rfl hh0
                  have hh2 := hcl 7 1 rfl hh1
                  rw [hd] at hh2; cases hh2
              obtain ⟨l', hb, h1, -⟩ := hG.box
              obtain rfl : l' = lv := h1 nS
              have c6 : w1.cell? ⟨h, 6, none⟩ = some l' := hb.cell 6
              clear hcl hsl hot hdep
              clear hb h1
              go_simp
              exact hK _ _ rfl (by simpa [dn] using hG) (fun _ _ _ _ h => h)
            · intro done a w1 K hd hcl hsl hot hdep hG hK
              have e13 : a.tmps[13]?.getD undef = u := hot 13 rfl
              clear hcl hsl hot hdep
              go_simp
              exact hK _ _ rfl (by simpa [dn] using hG) (fun _ _ _ _ h => h)
            · intro done a w1 K hd hcl hsl hot hdep hG hK
              have e1 : a.tmps[1]?.getD undef = .int .i64 (dep : Int) := hot 1 rfl
              clear hcl hsl hot hdep
              go_simp
              exact hK _ _ rfl (by simpa [dn] using hG) (fun _ _ _ _ h => h)
            · intro done a w1 K hd hcl hsl hot hdep hG hK
              have e61 : a.tmps[61]?.getD undef = .int .i64 (dep : Int) := hsl 3 61 rfl (hdep 3 rfl)
              clear hcl hsl hot hdep
              go_simp
              exact hK _ _ rfl (by simpa [dn] using hG) (fun _ _ _ _ h => h)
            · intro done a w1 K hd hcl hsl hot hdep hG hK
              have e60 : a.tmps[60]?.getD undef = u := hsl 2 60 rfl (hdep 2 rfl)
              have e62 : a.tmps[62]?.getD undef = .int .i64 ((dep : Int) + 1) := hsl 4 62 rfl (hdep 4 rfl)
              have hcall := IH.out (okB ok w) x u w1 (dep + 1) (HUX.out.bel.keep (HVL.out.chg.trans hG.chg (fun i hi e => by rcases e with e | e; (have := HVL.out.hw; omega); (have := (hG.low i e).1; have := HVL.out.hw; omega))) (fun _ _ _ e => e)) (WF.out.2 _ (List.mem_of_getElem? HX.out)) (by have := HD.out; omega)
              rw [show ((dep + 1 : Nat) : Int) = (dep : Int) + 1 by omega] at hcall
              refine if_wanted rfl ?_
              refine wp_callV Tryz.call94 rfl (by simpa [Act.eval] using e60) (by simpa [Act.eval] using e62) hcall ?_
              rintro e w2 ⟨cs, rfl, hj, hc2⟩
              have hsz := hG.size
              exact ⟨_, rfl, hK _ _ ⟨cs, rfl, hj.mono (fun b _ hb => Nat.le_trans hsz hb)⟩ (by simpa [dn] using hG.chgNo hc2) (fun _ _ _ _ h => h.keepNo hc2)⟩
            · intro done a w1 K hd hcl hsl hot hdep hG hK
              obtain ⟨cs, e63, hj⟩ := hsl 5 63 rfl (hdep 5 rfl)
              refine if_wanted rfl ?_
              refine wp_build24V rfl (by simpa [Act.eval] using e63) hj.length ?_
              have hsz := hG.size
              refine hK _ _ ⟨_, cs, rfl, hsz, Blk.new _ cs _, hj.chg ((Chg.refl No _).alloc _) (fun _ _ e => e)⟩ (by simpa [dn] using hG.chgNo ((Chg.refl _ _).alloc _)) (fun _ _ _ _ h => h.keepNo ((Chg.refl _ _).alloc _))
            · intro done a w1 K hd hcl hsl hot hdep hG hK
              have e59 : a.tmps[59]?.getD undef = lv := hsl 1 59 rfl (hdep 1 rfl)
              obtain ⟨t, cs, e64, hlt, hbt, hj⟩ := hsl 6 64 rfl (hdep 6 rfl)
              have nS : done 9 = false := by
                cases hh0 : done 9 with
                | false => rfl
                | true =>
                  have hh1 := hcl 9 7 rfl hh0
                  rw [hd] at hh1; cases hh1
              have hGs : VG h (fun l => cells7 6 false 0 0 ⟨#[]⟩ (.slice none 0 0) l) lv rows x wr w1 false false := by have h' := hG; rw [hd, nS] at h'; exact h'
              refine if_wanted rfl ?_
              refine wp_appendRows elem24 rfl (by simpa [Act.eval] using e59) (hGs.own rfl) (by simpa [Act.eval] using e64) (hbt.row1 hj.length) (by intro r hr; obtain rfl := List.mem_singleton.1 hr; exact hj.one) (by simp only [List.length_singleton]; have := HNB.out; omega) (by decide) (Nat.le_trans hGs.hB hGs.size) fun v' w' hO hC hB hOld => ?_
              have hown : OwnV h wr.heap.size lv rows x v' w' := by
                have hj2 := hj.mono (ok' := fun b => wr.heap.size ≤ b ∧ b < w1.heap.size) (fun b hb hb2 => ⟨hb2, hb⟩)
                have hj3 := hj2.chg hC (fun b hb e => by have := (hGs.low b e).2; have := hb.1; omega)
                refine ⟨cs, hO, hj3.mono (fun b _ hb => ⟨hb.1, fun e => ?_⟩), ?_⟩
                · rcases hB with hB | hB
                  · have := (hGs.low b (hB ▸ e)).2; have := hb.1; omega
                  · have := hB b e; have := hb.2; omega
                · rcases hB with hB | hB
                  · exact .inl hB
                  · exact .inr (fun k hk => Nat.le_trans hGs.size (hB k hk))
              have hGl := hGs.low
              refine hK v' w' hown (by have h' := hGs.app hC; simpa [dn, nS] using h') ?_
              refine fun j hj _ u' hu => hu.keep hC (safe_of (i := 7) (fun j hl hj => ?_) j hj)
              match j, hj with
              | 0, _ => exact trivial
              | 1, _ => exact trivial
              | 2, _ => exact trivial
              | 3, _ => exact trivial
              | 4, _ => exact trivial
              | 5, _ => exact fun b hb e => by have := (hGl b e).2; omega
              | 6, _ => exact fun k hk => (hGl k hk).2
              | 7, hj => exact absurd rfl hj
              | 8, _ => exact trivial
              | 9, _ => exact trivial
              | j + 10, _ => exact absurd hl (by simp)
            · intro done a w1 K hd hcl hsl hot hdep hG hK
              have e11 : a.tmps[11]?.getD undef = .pointer (some ⟨h, 0, none⟩) := hot 11 rfl
              clear hcl hsl hot hdep
              go_simp
              exact hK _ _ rfl (by simpa [dn] using hG) (fun _ _ _ _ h => h)
            · intro done a w1 K hd hcl hsl hot hdep hG hK
              have e66 : a.tmps[66]?.getD undef = .pointer (some ⟨h, 6, none⟩) := hsl 8 66 rfl (hdep 8 rfl)
              have hO := hsl 7 65 rfl (hdep 7 rfl)
              change OwnV _ _ _ _ _ _ _ at hO
              obtain ⟨sa, sn, sc, hv⟩ := hO.choose_spec.1.slice
              rw [hv] at hO
              have e65 := hv
              have hGs : VG h (fun l => cells7 6 false 0 0 ⟨#[]⟩ (.slice none 0 0) l) lv rows x wr w1 true false := by have h' := hG; rw [hdep 7 rfl, hd] at h'; exact h'
              obtain ⟨l', hb, -, -⟩ := hGs.box
              have c6 : w1.cell? ⟨h, 6, none⟩ = some l' := hb.cell 6
              have f6 : w1.frozen? ⟨h, 6, none⟩ = false := hb.frozen 6
              obtain ⟨hb2, hC, -⟩ := hb.setCell 6 (.slice sa sn sc)
              have HG2 := Lib.hid (hGs.store hb2 hC hO)
              have HC2 := Lib.hid hC
              have HD2 := Lib.hid (hdep 7 rfl)
              clear hcl hsl hot hdep
              clear hv hG hGs hO hb hb2 hC
              go_simp
              refine hK undef _ trivial (by have h' := HG2.out; simpa [dn, HD2.out] using h') ?_
              have hC := HC2.out
              refine fun j hj _ u' hu => hu.keep hC (safe_of (i := 9) (fun j hl hj => ?_) j hj)
              match j, hj with
              | 0, _ => exact trivial
              | 1, _ => exact trivial
              | 2, _ => exact trivial
              | 3, _ => exact trivial
              | 4, _ => exact trivial
              | 5, _ => exact fun b hb e => by have := HB.out; omega
              | 6, _ => exact fun k hk => by have := HB.out; omega
              | 7, _ => exact fun k hk => by omega
              | 8, _ => exact trivial
              | 9, hj => exact absurd rfl hj
              | j + 10, _ => exact absurd hl (by simp)
          · intro vs w2 hvs _ hG
            obtain ⟨lv', rows', hvl⟩ := HVL.out.step HX.out hG
            have HVL' := Lib.hid hvl
            clear hvl hG hvs
            simp only [putAll, Act.put, List.setIfInBounds_toArray, List.set_cons_succ, List.set_cons_zero]
            go_wp2_with fail
            go_roundw
            case rel => exact ⟨n + 1, lv', rows', by go_num, HVL'.out⟩
            case measure => simp [intOf]; omega
        · have hnl : n = xs.length := Nat.le_antisymm HVL.out.le (Nat.not_lt.1 hlt)
          subst hnl
          have hlen : ¬ ((xs.length : Nat) : Int) < (vs.length : Int) := by rw [HN.out]; omega
          have hvl := HVL.out
          have hbx := hvl.box
          have hrs := hvl.res
          have hval := hvl.list
          have ho1 := hval.one
          have HVAL := Lib.hid hval
          clear hvl hval
          go_wp2_with (first | (with_reducible refine wpList_loadAgg rfl agg26 rfl rfl hbx.cells rfl ?_) | (with_reducible refine wpList_storeBlk rfl agg26 rfl rfl rfl hrs rfl rfl ho1 ?_; intro w6 hb6 hc6 hs6))
          exact bodyPost_ret (results_blk rfl agg26 rfl hb6 rfl) rfl ⟨_, rfl, (HVAL.out.chg hc6 (fun b hb e => by have := HVL.out.hw; omega)).mono (fun b _ hb => by have := HVL.out.hw; omega), HVL.out.chg.trans hc6 (fun i hi e => absurd e (by omega))⟩
    | @table bm nm fm kvs hmb hok hdom hval =>
      have f4 := as67_4
      have f2 := as67_2
      have f22 := as67_22
      have f9 := as67_9
      have f151 := as67_151
      have f3 := as67_3
      have f120 := as67_120
      have f86 := as67_86
      have f67 := as67_67

      have hmb := hmb.fit hdom
      have hmn := run_mapNil
      obtain ⟨nk, hnk⟩ : ∃ nk, nk = kvs.length := ⟨_, rfl⟩
      rw [← hnk] at hmb
      have HNK := Lib.hid hnk
      have HU := Lib.hid hval
      have HDOM := Lib.hid hdom
      have HOK := Lib.hid hok
      have HMB := Lib.hid hmb
      have hbl := hmb.lt
      clear hval hdom hok hnk
      go_enter Tryz.func94, Tryz.ntmps94
      go_wp2_with (first | (at_range; refine wpList_rangeB rfl rfl rfl ((hmb.alloc _).alloc _) ?_; intro w0 cnt0 hrg0 hcn0 hc0 hs0; go_frame))
      obtain ⟨h, hh⟩ : ∃ h, h = w.heap.size + 1 := ⟨_, rfl⟩
      have hb1 := (Blk.newAt (w := w.alloc (.cells zero7.toArray 26)) (n := h) (by simp [hh]) (cells7 7 false 0 0 ⟨#[]⟩ (.slice none 0 0) (.slice none 0 0)) 26)
      obtain ⟨r, hr⟩ : ∃ r, r = w.heap.size + 1 + 1 := ⟨_, rfl⟩
      have hsz2 : ∀ o1 o2, ((w.alloc o1).alloc o2).heap.size = r := fun _ _ => by simp [hr]
      rw [hsz2] at hrg0 hs0
      rw [← hr]
      have HKC0 := Lib.hid (show KC w h bm r nk fm w0 (fun k => (fm k).isSome) cnt0 (.slice none 0 0) [] from
        ⟨hrg0, by simpa using hcn0, OwnR.nil _ _ _ _, List.nodup_nil, fun k => (by cases h : fm k <;> simp), (((Chg.refl No w).alloc _).alloc _).trans' hc0, (hb0.alloc _).chg hc0 id, hb1.chg hc0 id, by omega, by omega, hbl⟩)
      rw [← hh]
      clear hb0 hb1 hh hr hsz2 hrg0 hcn0 hc0 hs0 hmb
      go_loopw [19] (fun _ wr => ∃ (left : K → Bool) (cnt : Nat) (kv : Value) (ks : List K), KC w h bm r nk fm wr left cnt kv ks) (fun _ wr => wr.rangeLeft bm r)
      case atStart => exact ⟨_, _, _, _, HKC0.out⟩
      case round =>
        obtain ⟨left, cnt, kv, ks, hkc⟩ := hrel
        have HKC := Lib.hid hkc
        have hrg := hkc.rng
        clear hkc HKC0
        go_wp2_with (first | (at_next; refine wpList_nextB rfl rfl rfl hrg ?_ ?_))
        · intro hc0 hl0
          have HL0 := Lib.hid hl0
          have hkc := HKC.out
          have c5 : wr.cell? ⟨h, 5, none⟩ = some kv := hkc.box.cell 5
          have HOWN := Lib.hid hkc.own
          have hkl : ks.length < 1099511627776 := by have h1 := hkc.num; have h2 := WF.out.2.1; have h3 := HNK.out; omega
          clear hl0 hkc
          go_wp2_with fail
          refine (sort_keys HOWN.out hkl).mono ?_
          rintro e w1 ⟨rfl, ks', hperm, hsort, hown', hc1⟩
          have hks := HKC.out.keys HL0.out WF.out.1 HDOM.out hperm hsort
          subst hks
          obtain ⟨qa, qc, rfl⟩ : ∃ a c, kv = .slice a kvs.length c := by
            obtain ⟨-, -, a, c, e, -, -⟩ := hown'.rowAt
            exact ⟨a, c, by simpa using e⟩
          have HVL0 := Lib.hid (show VL w h 7 (kvs.map (·.1)) (.slice qa kvs.length qc) (kvs.map (·.2)) w1 0 (.slice none 0 0) [] from
            ⟨Nat.zero_le _, OwnR.nil _ _ _ _, hown', rfl, fun i r x hr => by simp at hr, HKC.out.chg.trans hc1 (fun i hi e => by have := (HOWN.out.elem e).1; have := HKC.out.hw; omega),
              HKC.out.res.chg hc1 (fun e => by have := (HOWN.out.elem e).1; have := HKC.out.hw; omega), HKC.out.box.chg hc1 (fun e => by have := (HOWN.out.elem e).1; omega), HKC.out.hw⟩)
          have c51 : w1.cell? ⟨h, 5, none⟩ = some (.slice qa kvs.length qc) := HVL0.out.box.cell 5
          have hl1 : kvs.length ≤ 2 ^ 63 - 1 := by have := WF.out.2.1; omega
          clear hperm hsort hown' hc1 c5 HOWN hrg
          go_wp2_with fail
          clear c51
          go_loopw [124] (fun ct wr => ∃ (n : Nat) (lv : Value) (rows : List (List Value)), ct = .int .i64 n ∧ VL w h 7 (kvs.map (·.1)) (.slice qa kvs.length qc) (kvs.map (·.2)) wr n lv rows) (fun ct _ => kvs.length - (intOf ct).toNat)
          case atStart => exact ⟨0, _, _, rfl, HVL0.out⟩
          case round =>
            obtain ⟨n, lv, rows, rfl, hvl⟩ := hrel
            have HVL := Lib.hid hvl
            clear hvl HVL0
            by_cases hlt : n < kvs.length
            · obtain ⟨p, hp⟩ : ∃ p, kvs[n]? = some p := ⟨_, List.getElem?_eq_getElem hlt⟩
              have HGET := Lib.hid (mem_get WF.out.1 (List.mem_of_getElem? hp))
              obtain ⟨u, hfu⟩ : ∃ u, fm p.1 = some u := by
                have h1 := HDOM.out p.1
                rw [HGET.out] at h1
                cases hf : fm p.1 with
                | none => rw [hf] at h1; cases h1
                | some u => exact ⟨u, rfl⟩
              have HFU := Lib.hid hfu
              have hrow := HVL.out.keys.rowAt
              obtain ⟨kb, ko, rfl, hkok, hkc⟩ := hrow.at (i := n) (r := [.string p.1]) (by simp [hp])
              have hkc := hkc.one
              simp only [Nat.mul_one] at hkc
              have h64 : (n : Int) < (kvs.length : Int) := Int.ofNat_lt.2 hlt
              have HUX := Lib.hid (HU.out p.1 u p.2 hfu HGET.out)
              have HX := Lib.hid (show (kvs.map (·.2))[n]? = some p.2 by simp [hp])
              have HP := Lib.hid hp
              have hwrap : IntKind.i64.wrap ((dep : Int) + 1) = (dep : Int) + 1 := IntWalk.i64_in _ (by omega)
              have HB := Lib.hid HVL.out.box.lt
              have HNB := Lib.hid (show rows.length + 1 ≤ 1099511627776 by have h1 := HVL.out.len; have h2 := WF.out.2.1; omega)
              have HPK := Lib.hid (show p.1.size ≤ maxLen by have h1 := (WF.out.2.2 _ (List.mem_of_getElem? hp)).1; unfold kOk at h1; unfold maxLen; omega)
              clear hfu hp hrow
              go_upto_region 50 with (fail)
              refine wp_region_inv (FI [.eq (.pointer (some ⟨h, 6, none⟩)), .eq lv, .eq (.map (some bm)), .eq (.string p.1), .eq u, .eq (.int .i64 (dep : Int)), .eq (.int .i64 ((dep : Int) + 1)), .val (fun b => wr.heap.size ≤ b) p.2, .tempV wr.heap.size p.2, .ownV h wr.heap.size lv rows p.2 HB.out, .eq (.pointer (some ⟨h, 6, none⟩)), .any])
                (fun done w' => VG h (fun l => cells7 7 false 0 0 ⟨#[]⟩ (.slice (some ⟨kb, ko, none⟩) kvs.length qc) l) lv rows p.2 wr w' (done 9) (done 11))
                (by kernel_rfl) (by kernel_rfl) (VG.start HVL.out.own HVL.out.box) ?_ ?_
              · refine ⟨?_, ?_, ?_, ?_, ?_, ?_, ?_, ?_, ?_, ?_, ?_, ?_, trivial⟩
                · intro done a w1 K hd hcl hsl hot hdep hG hK
                  have e18 : a.tmps[18]?.getD undef = .pointer (some ⟨h, 0, none⟩) := hot 18 rfl
                  clear hcl hsl hot hdep
                  go_simp
                  exact hK _ _ rfl (by simpa [dn] using hG) (fun _ _ _ _ h => h)
                · intro done a w1 K hd hcl hsl hot hdep hG hK
                  have e128 : a.tmps[128]?.getD undef = .pointer (some ⟨h, 6, none⟩) := hsl 0 128 rfl (hdep 0 rfl)
                  have nS : done 11 = false := by
                    cases hh0 : done 11 with
                    | false => rfl
                    | true =>
                      have hh1 := hcl 11 9 rfl hh0
                      have hh2 := hcl 9 1 rfl hh1
                      rw [hd] at hh2; cases hh2
                  obtain ⟨l', hb, h1, -⟩ := hG.box
                  obtain rfl : l' = lv := h1 nS
                  have c6 : w1.cell? ⟨h, 6, none⟩ = some l' := hb.cell 6
                  clear hcl hsl hot hdep
                  clear hb h1
                  go_simp
                  exact hK _ _ rfl (by simpa [dn] using hG) (fun _ _ _ _ h => h)
                · intro done a w1 K hd hcl hsl hot hdep hG hK
                  have e17 : a.tmps[17]?.getD undef = .map (some bm) := hot 17 rfl
                  clear hcl hsl hot hdep
                  go_simp
                  exact hK _ _ rfl (by simpa [dn] using hG) (fun _ _ _ _ h => h)
                · intro done a w1 K hd hcl hsl hot hdep hG hK
                  have e21 : a.tmps[21]?.getD undef = .string p.1 := hot 21 rfl
                  clear hcl hsl hot hdep
                  go_simp
                  exact hK _ _ rfl (by simpa [dn] using hG) (fun _ _ _ _ h => h)
                · intro done a w1 K hd hcl hsl hot hdep hG hK
                  have e130 : a.tmps[130]?.getD undef = .map (some bm) := hsl 2 130 rfl (hdep 2 rfl)
                  have e131 : a.tmps[131]?.getD undef = .string p.1 := hsl 3 131 rfl (hdep 3 rfl)
                  have hm1 := (HMB.out.chg HVL.out.chg id).chg hG.chg (fun e => by rcases e with e | e; (have := HVL.out.hw; omega); (have := (hG.low _ e).1; have := HVL.out.hw; omega))
                  refine if_wanted rfl ?_
                  refine wp_lookB1 rfl (by simpa [Act.eval] using e130) hm1 (by simpa [Act.eval] using e131) HPK.out ?_
                  rw [HFU.out]
                  exact hK _ _ rfl (by simpa [dn] using hG) (fun _ _ _ _ h => h)
                · intro done a w1 K hd hcl hsl hot hdep hG hK
                  have e1 : a.tmps[1]?.getD undef = .int .i64 (dep : Int) := hot 1 rfl
                  clear hcl hsl hot hdep
                  go_simp
                  exact hK _ _ rfl (by simpa [dn] using hG) (fun _ _ _ _ h => h)
                · intro done a w1 K hd hcl hsl hot hdep hG hK
                  have e133 : a.tmps[133]?.getD undef = .int .i64 (dep : Int) := hsl 5 133 rfl (hdep 5 rfl)
                  clear hcl hsl hot hdep
                  go_simp
                  exact hK _ _ rfl (by simpa [dn] using hG) (fun _ _ _ _ h => h)
                · intro done a w1 K hd hcl hsl hot hdep hG hK
                  have e132 : a.tmps[132]?.getD undef = u := hsl 4 132 rfl (hdep 4 rfl)
                  have e134 : a.tmps[134]?.getD undef = .int .i64 ((dep : Int) + 1) := hsl 6 134 rfl (hdep 6 rfl)
                  have hcall := IH.out (okB ok w) p.2 u w1 (dep + 1) (HUX.out.bel.keep (HVL.out.chg.trans hG.chg (fun i hi e => by rcases e with e | e; (have := HVL.out.hw; omega); (have := (hG.low i e).1; have := HVL.out.hw; omega))) (fun _ _ _ e => e)) (WF.out.2.2 _ (List.mem_of_getElem? HP.out)).2 (by have := HD.out; omega)
                  rw [show ((dep + 1 : Nat) : Int) = (dep : Int) + 1 by omega] at hcall
                  refine if_wanted rfl ?_
                  refine wp_callV Tryz.call94 rfl (by simpa [Act.eval] using e132) (by simpa [Act.eval] using e134) hcall ?_
                  rintro e w2 ⟨cs, rfl, hj, hc2⟩
                  have hsz := hG.size
                  exact ⟨_, rfl, hK _ _ ⟨cs, rfl, hj.mono (fun b _ hb => Nat.le_trans hsz hb)⟩ (by simpa [dn] using hG.chgNo hc2) (fun _ _ _ _ h => h.keepNo hc2)⟩
                · intro done a w1 K hd hcl hsl hot hdep hG hK
                  obtain ⟨cs, e135, hj⟩ := hsl 7 135 rfl (hdep 7 rfl)
                  refine if_wanted rfl ?_
                  refine wp_build24V rfl (by simpa [Act.eval] using e135) hj.length ?_
                  have hsz := hG.size
                  refine hK _ _ ⟨_, cs, rfl, hsz, Blk.new _ cs _, hj.chg ((Chg.refl No _).alloc _) (fun _ _ e => e)⟩ (by simpa [dn] using hG.chgNo ((Chg.refl _ _).alloc _)) (fun _ _ _ _ h => h.keepNo ((Chg.refl _ _).alloc _))
                · intro done a w1 K hd hcl hsl hot hdep hG hK
                  have e129 : a.tmps[129]?.getD undef = lv := hsl 1 129 rfl (hdep 1 rfl)
                  obtain ⟨t, cs, e136, hlt, hbt, hj⟩ := hsl 8 136 rfl (hdep 8 rfl)
                  have nS : done 11 = false := by
                    cases hh0 : done 11 with
                    | false => rfl
                    | true =>
                      have hh1 := hcl 11 9 rfl hh0
                      rw [hd] at hh1; cases hh1
                  have hGs : VG h (fun l => cells7 7 false 0 0 ⟨#[]⟩ (.slice (some ⟨kb, ko, none⟩) kvs.length qc) l) lv rows p.2 wr w1 false false := by have h' := hG; rw [hd, nS] at h'; exact h'
                  refine if_wanted rfl ?_
                  refine wp_appendRows elem24 rfl (by simpa [Act.eval] using e129) (hGs.own rfl) (by simpa [Act.eval] using e136) (hbt.row1 hj.length) (by intro r hr; obtain rfl := List.mem_singleton.1 hr; exact hj.one) (by simp only [List.length_singleton]; have := HNB.out; omega) (by decide) (Nat.le_trans hGs.hB hGs.size) fun v' w' hO hC hB hOld => ?_
                  have hown : OwnV h wr.heap.size lv rows p.2 v' w' := by
                    have hj2 := hj.mono (ok' := fun b => wr.heap.size ≤ b ∧ b < w1.heap.size) (fun b hb hb2 => ⟨hb2, hb⟩)
                    have hj3 := hj2.chg hC (fun b hb e => by have := (hGs.low b e).2; have := hb.1; omega)
                    refine ⟨cs, hO, hj3.mono (fun b _ hb => ⟨hb.1, fun e => ?_⟩), ?_⟩
                    · rcases hB with hB | hB
                      · have := (hGs.low b (hB ▸ e)).2; have := hb.1; omega
                      · have := hB b e; have := hb.2; omega
                    · rcases hB with hB | hB
                      · exact .inl hB
                      · exact .inr (fun k hk => Nat.le_trans hGs.size (hB k hk))
                  have hGl := hGs.low
                  refine hK v' w' hown (by have h' := hGs.app hC; simpa [dn, nS] using h') ?_
                  refine fun j hj _ u' hu => hu.keep hC (safe_of (i := 9) (fun j hl hj => ?_) j hj)
                  match j, hj with
                  | 0, _ => exact trivial
                  | 1, _ => exact trivial
                  | 2, _ => exact trivial
                  | 3, _ => exact trivial
                  | 4, _ => exact trivial
                  | 5, _ => exact trivial
                  | 6, _ => exact trivial
                  | 7, _ => exact fun b hb e => by have := (hGl b e).2; omega
                  | 8, _ => exact fun k hk => (hGl k hk).2
                  | 9, hj => exact absurd rfl hj
                  | 10, _ => exact trivial
                  | 11, _ => exact trivial
                  | j + 12, _ => exact absurd hl (by simp)
                · intro done a w1 K hd hcl hsl hot hdep hG hK
                  have e18 : a.tmps[18]?.getD undef = .pointer (some ⟨h, 0, none⟩) := hot 18 rfl
                  clear hcl hsl hot hdep
                  go_simp
                  exact hK _ _ rfl (by simpa [dn] using hG) (fun _ _ _ _ h => h)
                · intro done a w1 K hd hcl hsl hot hdep hG hK
                  have e138 : a.tmps[138]?.getD undef = .pointer (some ⟨h, 6, none⟩) := hsl 10 138 rfl (hdep 10 rfl)
                  have hO := hsl 9 137 rfl (hdep 9 rfl)
                  change OwnV _ _ _ _ _ _ _ at hO
                  obtain ⟨sa, sn, sc, hv⟩ := hO.choose_spec.1.slice
                  rw [hv] at hO
                  have e137 := hv
                  have hGs : VG h (fun l => cells7 7 false 0 0 ⟨#[]⟩ (.slice (some ⟨kb, ko, none⟩) kvs.length qc) l) lv rows p.2 wr w1 true false := by have h' := hG; rw [hdep 9 rfl, hd] at h'; exact h'
                  obtain ⟨l', hb, -, -⟩ := hGs.box
                  have c6 : w1.cell? ⟨h, 6, none⟩ = some l' := hb.cell 6
                  have f6 : w1.frozen? ⟨h, 6, none⟩ = false := hb.frozen 6
                  obtain ⟨hb2, hC, -⟩ := hb.setCell 6 (.slice sa sn sc)
                  have HG2 := Lib.hid (hGs.store hb2 hC hO)
                  have HC2 := Lib.hid hC
                  have HD2 := Lib.hid (hdep 9 rfl)
                  clear hcl hsl hot hdep
                  clear hv hG hGs hO hb hb2 hC
                  go_simp
                  refine hK undef _ trivial (by have h' := HG2.out; simpa [dn, HD2.out] using h') ?_
                  have hC := HC2.out
                  refine fun j hj _ u' hu => hu.keep hC (safe_of (i := 11) (fun j hl hj => ?_) j hj)
                  match j, hj with
                  | 0, _ => exact trivial
                  | 1, _ => exact trivial
                  | 2, _ => exact trivial
                  | 3, _ => exact trivial
                  | 4, _ => exact trivial
                  | 5, _ => exact trivial
                  | 6, _ => exact trivial
                  | 7, _ => exact fun b hb e => by have := HB.out; omega
                  | 8, _ => exact fun k hk => by have := HB.out; omega
                  | 9, _ => exact fun k hk => by omega
                  | 10, _ => exact trivial
                  | 11, hj => exact absurd rfl hj
                  | j + 12, _ => exact absurd hl (by simp)
              · intro vs w2 hvs _ hG
                obtain ⟨lv', rows', hvl⟩ := HVL.out.step HX.out hG
                have HVL' := Lib.hid hvl
                clear hvl hG hvs
                simp only [putAll, Act.put, List.setIfInBounds_toArray, List.set_cons_succ, List.set_cons_zero]
                go_wp2_with fail
                go_roundw
                case rel => exact ⟨n + 1, lv', rows', by go_num, HVL'.out⟩
                case measure => simp [intOf]; omega
            · have hnl : n = kvs.length := Nat.le_antisymm (by have := HVL.out.le; simpa using this) (Nat.not_lt.1 hlt)
              subst hnl
              have hvl := HVL.out
              have hbx := hvl.box
              have hrs := hvl.res
              have hval := hvl.table
              have ho1 := hval.one
              have HVAL := Lib.hid hval
              clear hvl hval
              go_wp2_with (first | (with_reducible refine wpList_loadAgg rfl agg26 rfl rfl hbx.cells rfl ?_) | (with_reducible refine wpList_storeBlk rfl agg26 rfl rfl rfl hrs rfl rfl ho1 ?_; intro w6 hb6 hc6 hs6))
              exact bodyPost_ret (results_blk rfl agg26 rfl hb6 rfl) rfl ⟨_, rfl, (HVAL.out.chg hc6 (fun b hb e => by have := HVL.out.hw; omega)).mono (fun b _ hb => by have := HVL.out.hw; omega), HVL.out.chg.trans hc6 (fun i hi e => absurd e (by omega))⟩
        · intro k u w1 cnt1 hk hlk hfv hrg1 hlt hc1 hs1 hen
          have HKS := Lib.hid (fun w6 kv' => HKC.out.step (w6 := w6) (kv' := kv') hlk hfv hrg1 hlt hc1)
          have hkc := HKC.out
          have hown := hkc.own.chg hc1 (fun i hi e => (hkc.rng.apart hkc.own hi).1 e)
          have c5 : w1.cell? ⟨h, 5, none⟩ = some kv := (hkc.box.chg hc1 (by have := hkc.hr; omega)).cell 5
          have hnb : (kRows ks).length + 1 ≤ 1099511627776 := by
            have h1 := hkc.num
            have h2 := WF.out.2.1
            have h3 := HNK.out
            simp only [kRows, List.length_map]
            omega
          have hbs : h + 1 ≤ w1.heap.size + 1 := by have h1 := hkc.hr; have h2 := hkc.rng.lt; omega
          have HLT := Lib.hid hlt
          have HLE := Lib.hid hkc.rng.left_eq
          clear hkc hlk hfv hrg1 hlt hc1 hs1 hrg
          go_wp2_with (first | (at_builtin; refine wpList_appendRows rfl elem23 rfl rfl (hown.alloc _) rfl (RowAt.one1 w1 [.string k] 9 1 rfl) (by simp [Value.oneCell']) hnb (by decide) (by simpa using hbs) ?_; intro kv' w6 hown' hc6 hv' hold; (obtain ⟨sa, sn, sc, rfl⟩ := hown'.slice); go_frame) | (refine wpList_setSlice rfl rfl rfl rfl Tryz.sizeOf23 (HKS.out w6 _ hc6 hown').1 (show 5 < 7 by decide) ?_; intro w7 hb7 hc7 hs7))
          go_frame
          have HK7 := Lib.hid ((HKS.out w6 _ hc6 hown').2 w7 hb7 hc7)
          clear hown' hc6 hv' hold hown hb7 hc7
          go_roundw
          case rel => exact ⟨_, _, _, _, HK7.out⟩
          case measure => rw [HK7.out.rng.left_eq, HLE.out]; exact HLT.out

end Go.Proofs.YtljaoopfomcaoaaGreatDoor
