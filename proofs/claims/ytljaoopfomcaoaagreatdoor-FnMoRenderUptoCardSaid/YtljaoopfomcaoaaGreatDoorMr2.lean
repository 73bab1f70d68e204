/- A part of the proof. -/
import Derived.Test.YtljaoopfomcaoaaGreatDoorMr1
import Derived.IntWalk
import Derived.Defers
import Derived.Recover
set_option linter.unusedVariables false
set_option linter.unusedSimpArgs false
set_option maxRecDepth 100000
set_option maxHeartbeats 4000000
namespace Go.Proofs.YtljaoopfomcaoaaGreatDoor
open Go.RowKit
theorem as4_4 (v : Value) (w : World) : (Instr.typeAssert (.iface 4 v) 20 4 true).run Tryz.prog w = .ok (.tuple #[v, .bool true]) w := by kernel_rfl
theorem as4_151 (v : Value) (w : World) : (Instr.typeAssert (.iface 4 v) 20 151 true).run Tryz.prog w = .ok (.tuple #[.slice none 0 0, .bool false]) w := by kernel_rfl
theorem as2_4 (v : Value) (w : World) : (Instr.typeAssert (.iface 2 v) 20 4 true).run Tryz.prog w = .ok (.tuple #[.bool false, .bool false]) w := by kernel_rfl
theorem as2_2 (v : Value) (w : World) : (Instr.typeAssert (.iface 2 v) 20 2 true).run Tryz.prog w = .ok (.tuple #[v, .bool true]) w := by kernel_rfl
theorem as2_151 (v : Value) (w : World) : (Instr.typeAssert (.iface 2 v) 20 151 true).run Tryz.prog w = .ok (.tuple #[.slice none 0 0, .bool false]) w := by kernel_rfl
theorem as22_4 (v : Value) (w : World) : (Instr.typeAssert (.iface 22 v) 20 4 true).run Tryz.prog w = .ok (.tuple #[.bool false, .bool false]) w := by kernel_rfl
theorem as22_2 (v : Value) (w : World) : (Instr.typeAssert (.iface 22 v) 20 2 true).run Tryz.prog w = .ok (.tuple #[.int .i64 0, .bool false]) w := by kernel_rfl
theorem as22_22 (v : Value) (w : World) : (Instr.typeAssert (.iface 22 v) 20 22 true).run Tryz.prog w = .ok (.tuple #[v, .bool true]) w := by kernel_rfl
theorem as22_151 (v : Value) (w : World) : (Instr.typeAssert (.iface 22 v) 20 151 true).run Tryz.prog w = .ok (.tuple #[.slice none 0 0, .bool false]) w := by kernel_rfl
theorem as9_4 (v : Value) (w : World) : (Instr.typeAssert (.iface 9 v) 20 4 true).run Tryz.prog w = .ok (.tuple #[.bool false, .bool false]) w := by kernel_rfl
theorem as9_2 (v : Value) (w : World) : (Instr.typeAssert (.iface 9 v) 20 2 true).run Tryz.prog w = .ok (.tuple #[.int .i64 0, .bool false]) w := by kernel_rfl
theorem as9_22 (v : Value) (w : World) : (Instr.typeAssert (.iface 9 v) 20 22 true).run Tryz.prog w = .ok (.tuple #[.float .f64 0, .bool false]) w := by kernel_rfl
theorem as9_9 (v : Value) (w : World) : (Instr.typeAssert (.iface 9 v) 20 9 true).run Tryz.prog w = .ok (.tuple #[v, .bool true]) w := by kernel_rfl
theorem as9_151 (v : Value) (w : World) : (Instr.typeAssert (.iface 9 v) 20 151 true).run Tryz.prog w = .ok (.tuple #[.slice none 0 0, .bool false]) w := by kernel_rfl
theorem as151_4 (v : Value) (w : World) : (Instr.typeAssert (.iface 151 v) 20 4 true).run Tryz.prog w = .ok (.tuple #[.bool false, .bool false]) w := by kernel_rfl
theorem as151_2 (v : Value) (w : World) : (Instr.typeAssert (.iface 151 v) 20 2 true).run Tryz.prog w = .ok (.tuple #[.int .i64 0, .bool false]) w := by kernel_rfl
theorem as151_22 (v : Value) (w : World) : (Instr.typeAssert (.iface 151 v) 20 22 true).run Tryz.prog w = .ok (.tuple #[.float .f64 0, .bool false]) w := by kernel_rfl
theorem as151_9 (v : Value) (w : World) : (Instr.typeAssert (.iface 151 v) 20 9 true).run Tryz.prog w = .ok (.tuple #[.string ByteArray.empty, .bool false]) w := by kernel_rfl
theorem as151_151 (v : Value) (w : World) : (Instr.typeAssert (.iface 151 v) 20 151 true).run Tryz.prog w = .ok (.tuple #[v, .bool true]) w := by kernel_rfl
theorem as67_4 (v : Value) (w : World) : (Instr.typeAssert (.iface 67 v) 20 4 true).run Tryz.prog w = .ok (.tuple #[.bool false, .bool false]) w := by kernel_rfl
theorem as67_2 (v : Value) (w : World) : (Instr.typeAssert (.iface 67 v) 20 2 true).run Tryz.prog w = .ok (.tuple #[.int .i64 0, .bool false]) w := by kernel_rfl
theorem as67_22 (v : Value) (w : World) : (Instr.typeAssert (.iface 67 v) 20 22 true).run Tryz.prog w = .ok (.tuple #[.float .f64 0, .bool false]) w := by kernel_rfl
theorem as67_9 (v : Value) (w : World) : (Instr.typeAssert (.iface 67 v) 20 9 true).run Tryz.prog w = .ok (.tuple #[.string ByteArray.empty, .bool false]) w := by kernel_rfl
theorem as67_151 (v : Value) (w : World) : (Instr.typeAssert (.iface 67 v) 20 151 true).run Tryz.prog w = .ok (.tuple #[.slice none 0 0, .bool false]) w := by kernel_rfl
theorem as67_3 (v : Value) (w : World) : (Instr.typeAssert (.iface 67 v) 20 3 true).run Tryz.prog w = .ok (.tuple #[.int .i64 0, .bool false]) w := by kernel_rfl
theorem as67_120 (v : Value) (w : World) : (Instr.typeAssert (.iface 67 v) 20 120 true).run Tryz.prog w = .ok (.tuple #[.pointer none, .bool false]) w := by kernel_rfl
theorem as67_86 (v : Value) (w : World) : (Instr.typeAssert (.iface 67 v) 20 86 true).run Tryz.prog w = .ok (.tuple #[.map none, .bool false]) w := by kernel_rfl
theorem as67_67 (v : Value) (w : World) : (Instr.typeAssert (.iface 67 v) 20 67 true).run Tryz.prog w = .ok (.tuple #[v, .bool true]) w := by kernel_rfl
theorem run_mapNil (b : Nat) (w : World) : (Go.binOp BinOp.eql 67 (.map (some b)) (.map none)).run Tryz.prog w = .ok (.bool false) w := by kernel_rfl
theorem run_nilNil (w : World) : (Go.binOp BinOp.eql 67 (.map none) (.map none)).run Tryz.prog w = .ok (.bool true) w := by kernel_rfl
theorem rowNil (ok : Nat -> Prop) (w : World) (size : Nat) : RowAt ok w (.slice none 0 0) size [] := ⟨by simp, by simp, none, 0, rfl, fun _ => rfl, fun h => absurd rfl h⟩
def ValPost (w : World) (j : J) (e : Ending) (w' : World) : Prop :=
 ∃ cs : List Value, e = .returned (.agg cs.toArray) /\ ValJ (fun x => w.heap.size ≤ x) w' cs j /\ Chg No w w'
abbrev okH (h : Nat) (v : Value) : Nat -> Prop := fun x => h < x /\ v.ownBlock ≠ some x
structure VL (w : World) (h : Nat) (kd : Int) (ks : List K) (kv : Value) (xs : List J) (wr : World) (n : Nat) (lv : Value) (rows : List (List Value)) : Prop where
 le : n ≤ xs.length
 own : OwnR wr (h + 1) 26 7 lv rows
 keys : OwnR wr (h + 1) 9 1 kv (kRows ks)
 len : rows.length = n
 val : ∀ (i : Nat) (r : List Value) (x : J), rows[i]? = some r -> xs[i]? = some x -> ValJ (okH h lv) wr r x
 chg : Chg No w wr
 res : Blk wr w.heap.size zero7 26
 box : Blk wr h (cells7 kd false 0 0 ⟨#[]⟩ kv lv) 26
 hw : w.heap.size < h
theorem VL.step {w : World} {h : Nat} {kd : Int} {ks : List K} {kv : Value} {xs : List J} {wr w' : World} {n : Nat} {lv : Value} {rows : List (List Value)} {x : J} (v : VL w h kd ks kv xs wr n lv rows) (hx : xs[n]? = some x)
  (g : VG h (fun l => cells7 kd false 0 0 ⟨#[]⟩ kv l) lv rows x wr w' true true) : ∃ lv' rows', VL w h kd ks kv xs w' (n + 1) lv' rows' := by
 obtain ⟨l', hb, -, hv⟩ := g.box
 obtain ⟨cs, h1, h2, h3⟩ := hv rfl
 have hlt : n < xs.length := (List.getElem?_eq_some_iff.1 hx).1
 have hw := v.hw
 have hB := g.hB
 refine ⟨l', rows ++ [cs], hlt, h1, v.keys.chg g.chg (fun k hk e => ?_), by simp [v.len], fun i r y hr hy => ?_, v.chg.trans g.chg (fun i hi e => ?_), v.res.chg g.chg (fun e => ?_), hb, hw⟩
 ·rcases e with e | e
  ·have := (v.keys.elem hk).1; omega
  ·exact v.own.apart v.keys (by decide) e hk
 ·by_cases hi : i < rows.length
  ·rw [List.getElem?_append_left hi] at hr
   have hk2 := (v.val i r y hr hy).mono (ok' := fun b => okH h lv b /\ b < wr.heap.size) (fun b hb hb2 => ⟨hb2, hb⟩)
   have hk3 := hk2.chg g.chg (fun b hb e => by
    rcases e with e | e
    ·have := hb.1.1; omega
    ·exact hb.1.2 e)
   refine hk3.mono (fun b _ hb => ⟨hb.1.1, fun e => ?_⟩)
   rcases h3 with h3 | h3
   ·exact hb.1.2 (h3 ▸ e)
   ·have := h3 b e; have := hb.2; omega
  ·have hi2 : i = rows.length := by
    have := (List.getElem?_eq_some_iff.1 hr).1
    simp at this
    omega
   subst hi2
   rw [List.getElem?_append_right (Nat.le_refl _), Nat.sub_self] at hr
   cases hr
   rw [v.len, hx] at hy
   cases hy
   exact h2.mono (fun b _ hb => ⟨by have := hb.1; omega, hb.2⟩)
 ·rcases e with e | e
  ·omega
  ·have := (g.low i e).1; omega
 ·rcases e with e | e
  ·omega
  ·have := (g.low _ e).1; omega
theorem VL.list {w : World} {h : Nat} {xs : List J} {wr : World} {lv : Value} {rows : List (List Value)} (v : VL w h 6 [] (.slice none 0 0) xs wr xs.length lv rows) : ValJ (fun b => h < b) wr (cells7 6 false 0 0 ⟨#[]⟩ (.slice none 0 0) lv) (.list xs) :=
 .list (rowNil _ _ _) (v.own.rowAt.mono (fun b _ hb => (v.own.elem hb).1) (by decide)) v.len (fun n r x hr hx => (v.val n r x hr hx).mono (fun b _ hb => hb.1))
theorem VL.table {w : World} {h : Nat} {kvs : T} {kv : Value} {wr : World} {lv : Value} {rows : List (List Value)} (v : VL w h 7 (kvs.map (·.1)) kv (kvs.map (·.2)) wr kvs.length lv rows) : ValJ (fun b => h < b) wr (cells7 7 false 0 0 ⟨#[]⟩ kv lv) (.table kvs) :=
 .table (by
  have h1 := v.keys.rowAt.mono (ok' := fun b => h < b) (fun b _ hb => (v.keys.elem hb).1) (by decide)
  simpa [kRows, List.map_map, Function.comp_def] using h1) (v.own.rowAt.mono (fun b _ hb => (v.own.elem hb).1) (by decide)) v.len (fun n r p hr hp => (v.val n r p.2 hr (by simp [hp])).mono (fun b _ hb => hb.1))
theorem RangeB.apart {w : World} {b r n : Nat} {f : K -> Option Value} {left : K -> Bool} {cnt : Nat} (h : RangeB w b r n f left cnt) {base e size : Nat} {v : Value} {rows : List (List Value)} (ho : OwnR w base e size v rows) {k : Nat} (hk : v.ownBlock = some k) : k ≠ r /\ k ≠ b := by
 obtain ⟨D, l, h1, -, -⟩ := h
 obtain ⟨es, clock, since, seen, c0, e1, -, -, -, e5, -⟩ := h1
 obtain ⟨-, -, cur, h2⟩ := ho.elem hk
 constructor
 ·rintro rfl; rw [e5] at h2; cases h2
 ·rintro rfl; rw [e1] at h2; cases h2
theorem get_nulls (l : List K) (k : K) : get (l.map fun k => (k, J.null)) k = if k ∈ l then some .null else none := by
 induction l with
 | nil => simp [get]
 | cons a r ih =>
  simp only [List.map_cons, get, List.mem_cons]
  by_cases e : a = k
  ·rw [if_pos e, if_pos (.inl e.symm)]
  ·rw [if_neg e, ih]
   by_cases h : k ∈ r
   ·rw [if_pos h, if_pos (.inr h)]
   ·rw [if_neg h, if_neg (fun h2 => h2.elim (fun e2 => e e2.symm) h)]
theorem keys_unique {l m : List K} (hl : l.Pairwise klt) (hm : m.Pairwise klt) (h : ∀ k, k ∈ l ↔ k ∈ m) : l = m := by
 have e : (l.map fun k => (k, J.null)) = m.map fun k => (k, J.null) := by
  refine t_ext (by simpa [Sorted, List.pairwise_map] using hl) (by simpa [Sorted, List.pairwise_map] using hm) fun k => ?_
  rw [get_nulls, get_nulls]
  simp only [h]
 have e2 := congrArg (List.map Prod.fst) e
 simpa [List.map_map, Function.comp_def] using e2
structure KC (w : World) (h b r n : Nat) (f : K -> Option Value) (wr : World) (left : K -> Bool) (cnt : Nat) (kv : Value) (ks : List K) : Prop where
 rng : RangeB wr b r n f left cnt
 num : ks.length + cnt ≤ n
 own : OwnR wr (h + 1) 9 1 kv (kRows ks)
 nodup : ks.Nodup
 mem : ∀ k, k ∈ ks ↔ ((f k).isSome = true /\ left k = false)
 chg : Chg No w wr
 res : Blk wr w.heap.size zero7 26
 box : Blk wr h (cells7 7 false 0 0 ⟨#[]⟩ kv (.slice none 0 0)) 26
 hw : w.heap.size < h
 hr : h < r
 hb : b < w.heap.size
theorem KC.step {w : World} {h b r n : Nat} {f : K -> Option Value} {wr : World} {left : K -> Bool} {cnt : Nat} {kv : Value} {ks : List K} (v : KC w h b r n f wr left cnt kv ks) {k : K} {u : Value} (hlk : left k = true) (hf : f k = some u)
  {w1 w6 : World} {cnt' : Nat} (hrg : RangeB w1 b r n f (fun z => left z && !(z == k)) cnt') (hlt : cnt' < cnt) (h1 : Chg (· = r) wr w1) {kv' : Value} (h6 : Chg (fun i => kv.ownBlock = some i) (w1.alloc (.cells #[.string k] 9)) w6)
  (hown : OwnR w6 (h + 1) 9 1 kv' (kRows ks ++ [[.string k]])) :
  Blk w6 h (cells7 7 false 0 0 ⟨#[]⟩ kv (.slice none 0 0)) 26 /\ ∀ w7, Blk w7 h (cells7 7 false 0 0 ⟨#[]⟩ kv' (.slice none 0 0)) 26 -> Chg (· = h) w6 w7 -> KC w h b r n f w7 (fun z => left z && !(z == k)) cnt' kv' (ks ++ [k]) := by
 have hw := v.hw
 have hr := v.hr
 have hbw := v.hb
 have hel : ∀ i, kv.ownBlock = some i -> h + 1 ≤ i /\ i < wr.heap.size /\ i ≠ r /\ i ≠ b := fun i hi => ⟨(v.own.elem hi).1, (v.own.elem hi).2.1, (v.rng.apart v.own hi).1, (v.rng.apart v.own hi).2⟩
 have c1 : Chg (fun i => i = r ∨ kv.ownBlock = some i) wr w6 := ((h1.mono (fun i _ e => .inl e)).alloc _).trans h6 (fun i _ e => .inr e)
 have hrl := v.rng.lt
 refine ⟨v.box.chg c1 (fun e => ?_), fun w7 hb7 h7 => ⟨?_, by have := v.num; simp; omega, ?_, ?_, fun z => ?_, (v.chg.trans c1 (fun i hi e => ?_)).trans h7 (fun i hi e => by omega), (v.res.chg c1 (fun e => ?_)).chg h7 (by omega), hb7, hw, hr, hbw⟩⟩
 ·rcases e with e | e
  ·omega
  ·have := (hel h e).1; omega
 ·refine ((hrg.alloc _).chg h6 (fun e => (hel b e).2.2.2 rfl) (fun e => (hel r e).2.2.1 rfl)).chg h7 (by omega) (by omega)
 ·have h2 := hown.chg h7 (fun i hi e => by have := (hown.elem hi).1; omega)
  simpa [kRows] using h2
 ·rw [List.nodup_append]
  refine ⟨v.nodup, by simp, fun a ha c hc e => ?_⟩
  simp only [List.mem_singleton] at hc
  subst hc
  subst e
  have := ((v.mem a).1 ha).2
  rw [hlk] at this
  cases this
 ·simp only [List.mem_append, List.mem_singleton, Bool.and_eq_false_iff, Bool.not_eq_false', beq_iff_eq]
  constructor
  ·rintro (h2 | rfl)
   ·exact ⟨((v.mem z).1 h2).1, .inl ((v.mem z).1 h2).2⟩
   ·exact ⟨by rw [hf]; rfl, .inr rfl⟩
  ·rintro ⟨h2, h3 | h3⟩
   ·exact .inl ((v.mem z).2 ⟨h2, h3⟩)
   ·exact .inr h3
 ·rcases e with e | e
  ·have := v.chg.size; have := v.rng.ne; omega
  ·have := (hel i e).1; omega
 ·rcases e with e | e
  ·omega
  ·have := (hel _ e).1; omega
theorem KC.keys {w : World} {h b r n : Nat} {f : K -> Option Value} {wr : World} {left : K -> Bool} {cnt : Nat} {kv : Value} {ks ks' : List K} (v : KC w h b r n f wr left cnt kv ks) (hl : ∀ k, left k = false) {kvs : T} (hs : Sorted kvs) (hd : ∀ k, (f k).isSome = (get kvs k).isSome)
  (hp : ks'.Perm ks) (hs' : ks'.Pairwise (fun a b => a.data.toList ≤ b.data.toList)) : ks' = kvs.map (·.1) := by
 have hnd : ks'.Pairwise (fun a b => a ≠ b) := (hp.nodup_iff).2 v.nodup
 have hlt : ks'.Pairwise klt := (hs'.and hnd).imp (fun {a b} hab => by
  rcases Decidable.em (klt a b) with h1 | h1
  ·exact h1
  ·exact absurd (k_ext (List.le_antisymm hab.1 (List.not_lt.1 h1))) hab.2)
 refine keys_unique hlt (by simpa [Sorted, List.pairwise_map] using hs) fun k => ?_
 rw [hp.mem_iff, v.mem, hd]
 constructor
 ·rintro ⟨h1, -⟩
  cases hg : get kvs k with
  | none => rw [hg] at h1; cases h1
  | some x => exact List.mem_map.2 ⟨(k, x), get_mem hg, rfl⟩
 ·intro hm
  obtain ⟨p, hp, rfl⟩ := List.mem_map.1 hm
  rw [mem_get hs hp]
  exact ⟨rfl, hl _⟩
theorem valueIn_any (N : Nat) (hN : N < 1099511627776) (d : Nat) : ∀ (ok : Nat -> Prop) (j : J) (v : Value) (w : World) (dep : Nat), AnyJ ok w v j -> Wf N d j -> dep + d ≤ 4001 ->
  Calls Tryz.prog 94 #[v, .int .i64 (dep : Int)] w (ValPost w j) := by
 induction d with
 | zero => intro ok j v w dep _ h; exact h.elim
 | succ d ih =>
  intro ok j v w dep hv wf hd
  have HV := Hd hv
  have WF := Hd wf
  have IH := Hd ih
  have hd5 : ¬ (4000 : Int) < (dep : Int) := by omega
  have hd3 : (dep : Int) + 1 ≤ 4001 := by omega
  have HD := Hd hd
  clear hv wf ih hd
  have hb0 := Blk.new w zero7 26
  cases HV.out with
  | null =>
   go_enter Tryz.func94, Tryz.ntmps94
   go_wp2
   exact bodyPost_ret (results_blk rfl agg26 rfl (Blk.new w (cells7 0 false 0 0 ⟨#[]⟩ (.slice none 0 0) (.slice none 0 0)) 26) rfl) rfl ⟨_, rfl, .null (rowNil _ _ _) (rowNil _ _ _), (Chg.refl _ _).alloc _⟩
  | @bool b =>
   have f4 := as4_4
   go_enter Tryz.func94, Tryz.ntmps94
   go_wp2
   exact bodyPost_ret (results_blk rfl agg26 rfl (Blk.new w (cells7 1 b 0 0 ⟨#[]⟩ (.slice none 0 0) (.slice none 0 0)) 26) rfl) rfl ⟨_, rfl, .bool (rowNil _ _ _) (rowNil _ _ _), (Chg.refl _ _).alloc _⟩
  | @int i =>
   have f4 := as2_4
   have f2 := as2_2
   go_enter Tryz.func94, Tryz.ntmps94
   go_wp2
   exact bodyPost_ret (results_blk rfl agg26 rfl (Blk.new w (cells7 2 false i 0 ⟨#[]⟩ (.slice none 0 0) (.slice none 0 0)) 26) rfl) rfl ⟨_, rfl, .int (rowNil _ _ _) (rowNil _ _ _), (Chg.refl _ _).alloc _⟩
  | @float f =>
   have f4 := as22_4
   have f2 := as22_2
   have f22 := as22_22
   go_enter Tryz.func94, Tryz.ntmps94
   go_wp2
   exact bodyPost_ret (results_blk rfl agg26 rfl (Blk.new w (cells7 4 false 0 f ⟨#[]⟩ (.slice none 0 0) (.slice none 0 0)) 26) rfl) rfl ⟨_, rfl, .float (rowNil _ _ _) (rowNil _ _ _), (Chg.refl _ _).alloc _⟩
  | @text t =>
   have f4 := as9_4
   have f2 := as9_2
   have f22 := as9_22
   have f9 := as9_9
   go_enter Tryz.func94, Tryz.ntmps94
   go_wp2
   exact bodyPost_ret (results_blk rfl agg26 rfl (Blk.new w (cells7 5 false 0 0 t (.slice none 0 0) (.slice none 0 0)) 26) rfl) rfl ⟨_, rfl, .text (rowNil _ _ _) (rowNil _ _ _), (Chg.refl _ _).alloc _⟩
  | @list v vs xs hr hn hval =>
   have f4 := as151_4
   have f2 := as151_2
   have f22 := as151_22
   have f9 := as151_9
   have f151 := as151_151
   have HR := Hd hr
   have HN := Hd hn
   have HU := Hd hval
   have hl1 := hr.1
   obtain ⟨-, -, la, lc, rfl, -, -⟩ := hr
   simp only [List.length_map] at hl1 HR HV ⊢
   unfold maxLen at hl1
   clear hn hval
   go_enter Tryz.func94, Tryz.ntmps94
   go_wp2_with fail
   obtain ⟨h, hh⟩ : ∃ h, h = w.heap.size + 1 := ⟨_, rfl⟩
   have hb1 := (Blk.newAt (w := w.alloc (.cells zero7.toArray 26)) (n := h) (by simp [hh]) (cells7 6 false 0 0 ⟨#[]⟩ (.slice none 0 0) (.slice none 0 0)) 26)
   have HVL0 := Hd (show VL w h 6 [] (.slice none 0 0) xs _ 0 (.slice none 0 0) [] from
    ⟨Nat.zero_le _, OwnR.nil _ _ _ _, OwnR.nil _ _ _ _, rfl, fun i r x hr => by simp at hr, ((Chg.refl No w).alloc _).alloc _, hb0.alloc _, hb1, by omega⟩)
   rw [← hh]
   have HH := Hd hh
   clear hb0 hb1 hh
   unfold cells7 zero7 at HVL0
   go_loopw [54] (fun ct wr => ∃ (n : Nat) (lv : Value) (rows : List (List Value)), ct = .int .i64 n /\ VL w h 6 [] (.slice none 0 0) xs wr n lv rows) (fun ct _ => xs.length - (intOf ct).toNat)
   case atStart => exact ⟨0, _, _, rfl, HVL0.out⟩
   case round =>
    obtain ⟨n, lv, rows, rfl, hvl⟩ := hrel
    have HVL := Hd hvl
    clear hvl HVL0
    by_cases hlt : n < xs.length
    ·obtain ⟨x, hx⟩ : ∃ x, xs[n]? = some x := ⟨_, List.getElem?_eq_getElem hlt⟩
     have hlt2 : n < vs.length := by rw [HN.out]; exact hlt
     obtain ⟨u, hu⟩ : ∃ u, vs[n]? = some u := ⟨_, List.getElem?_eq_getElem hlt2⟩
     obtain ⟨kb, ko, rfl, hkok, hkc⟩ := HR.out.at (i := n) (r := [u]) (by simp [hu])
     have hkc := (hkc.chg HVL.out.chg id).one
     simp only [Nat.mul_one] at hkc
     have h64 : (n : Int) < (vs.length : Int) := by omega
     have HUX := Hd (HU.out n u x hu hx)
     have HX := Hd hx
     have hwrap : IntKind.i64.wrap ((dep : Int) + 1) = (dep : Int) + 1 := IntWalk.i64_in _ (by omega)
     have HB := Hd HVL.out.box.lt
     have HNB := Hd (show rows.length + 1 ≤ 1099511627776 by have h1 := HVL.out.len; have h2 := HVL.out.le; have h3 := WF.out.1; omega)
     clear hu hx
     go_upto_region 25 with (fail)
     refine wp_region_inv (FI [.eq (.pointer (some ⟨h, 6, none⟩)), .eq lv, .eq u, .eq (.int .i64 (dep : Int)), .eq (.int .i64 ((dep : Int) + 1)), .val (fun b => wr.heap.size ≤ b) x, .tempV wr.heap.size x, .ownV h wr.heap.size lv rows x HB.out, .eq (.pointer (some ⟨h, 6, none⟩)), .any])
      (fun done w' => VG h (fun l => cells7 6 false 0 0 ⟨#[]⟩ (.slice none 0 0) l) lv rows x wr w' (done 7) (done 9))
      (by kernel_rfl) (by kernel_rfl) (VG.start HVL.out.own HVL.out.box) ?_ ?_
     ·refine ⟨?_, ?_, ?_, ?_, ?_, ?_, ?_, ?_, ?_, ?_, trivial⟩
      ·intro done a w1 K hd qd qe qf qb hG hK
       have e11 : a.tmps[11]?.getD undef = .pointer (some ⟨h, 0, none⟩) := qf 11 rfl
       clear qd qe qf qb
       go_simp
       exact hK _ _ rfl (by simpa [dn] using hG) (fun _ _ _ _ h => h)
      ·intro done a w1 K hd qd qe qf qb hG hK
       have e58 : a.tmps[58]?.getD undef = .pointer (some ⟨h, 6, none⟩) := qe 0 58 rfl (qb 0 rfl)
       have nS : done 9 = false := by
        cases hh0 : done 9 with
        | false => rfl
        | true =>
         have hh1 := qd 9 7 rfl hh0
         have hh2 := qd 7 1 rfl hh1
         rw [hd] at hh2; cases hh2
       obtain ⟨l', hb, h1, -⟩ := hG.box
       obtain rfl : l' = lv := h1 nS
       have c6 : w1.cell? ⟨h, 6, none⟩ = some l' := hb.cell 6
       clear qd qe qf qb
       clear hb h1
       go_simp
       exact hK _ _ rfl (by simpa [dn] using hG) (fun _ _ _ _ h => h)
      ·intro done a w1 K hd qd qe qf qb hG hK
       have e13 : a.tmps[13]?.getD undef = u := qf 13 rfl
       clear qd qe qf qb
       go_simp
       exact hK _ _ rfl (by simpa [dn] using hG) (fun _ _ _ _ h => h)
      ·intro done a w1 K hd qd qe qf qb hG hK
       have e1 : a.tmps[1]?.getD undef = .int .i64 (dep : Int) := qf 1 rfl
       clear qd qe qf qb
       go_simp
       exact hK _ _ rfl (by simpa [dn] using hG) (fun _ _ _ _ h => h)
      ·intro done a w1 K hd qd qe qf qb hG hK
       have e61 : a.tmps[61]?.getD undef = .int .i64 (dep : Int) := qe 3 61 rfl (qb 3 rfl)
       clear qd qe qf qb
       go_simp
       exact hK _ _ rfl (by simpa [dn] using hG) (fun _ _ _ _ h => h)
      ·intro done a w1 K hd qd qe qf qb hG hK
       have e60 : a.tmps[60]?.getD undef = u := qe 2 60 rfl (qb 2 rfl)
       have e62 : a.tmps[62]?.getD undef = .int .i64 ((dep : Int) + 1) := qe 4 62 rfl (qb 4 rfl)
       have hcall := IH.out (okB ok w) x u w1 (dep + 1) (HUX.out.bel.keep (HVL.out.chg.trans hG.chg (fun i hi e => by rcases e with e | e; (have := HVL.out.hw; omega); (have := (hG.low i e).1; have := HVL.out.hw; omega))) (fun _ _ _ e => e)) (WF.out.2 _ (List.mem_of_getElem? HX.out)) (by have := HD.out; omega)
       rw [show ((dep + 1 : Nat) : Int) = (dep : Int) + 1 by omega] at hcall
       refine if_wanted rfl ?_
       refine wp_callV Tryz.call94 rfl (by simpa [Act.eval] using e60) (by simpa [Act.eval] using e62) hcall ?_
       rintro e w2 ⟨cs, rfl, hj, hc2⟩
       have hsz := hG.size
       exact ⟨_, rfl, hK _ _ ⟨cs, rfl, hj.mono (fun b _ hb => Nat.le_trans hsz hb)⟩ (by simpa [dn] using hG.chgNo hc2) (fun _ _ _ _ h => h.keepNo hc2)⟩
      ·intro done a w1 K hd qd qe qf qb hG hK
       obtain ⟨cs, e63, hj⟩ := qe 5 63 rfl (qb 5 rfl)
       refine if_wanted rfl ?_
       refine wp_build24V rfl (by simpa [Act.eval] using e63) hj.length ?_
       have hsz := hG.size
       refine hK _ _ ⟨_, cs, rfl, hsz, Blk.new _ cs _, hj.chg ((Chg.refl No _).alloc _) (fun _ _ e => e)⟩ (by simpa [dn] using hG.chgNo ((Chg.refl _ _).alloc _)) (fun _ _ _ _ h => h.keepNo ((Chg.refl _ _).alloc _))
      ·intro done a w1 K hd qd qe qf qb hG hK
       have e59 : a.tmps[59]?.getD undef = lv := qe 1 59 rfl (qb 1 rfl)
       obtain ⟨t, cs, e64, hlt, hbt, hj⟩ := qe 6 64 rfl (qb 6 rfl)
       have nS : done 9 = false := by
        cases hh0 : done 9 with
        | false => rfl
        | true =>
         have hh1 := qd 9 7 rfl hh0
         rw [hd] at hh1; cases hh1
       have hGs : VG h (fun l => cells7 6 false 0 0 ⟨#[]⟩ (.slice none 0 0) l) lv rows x wr w1 false false := by have h' := hG; rw [hd, nS] at h'; exact h'
       refine if_wanted rfl ?_
       refine wp_appendRows elem24 rfl (by simpa [Act.eval] using e59) (hGs.own rfl) (by simpa [Act.eval] using e64) (hbt.row1 hj.length) (by intro r hr; obtain rfl := List.mem_singleton.1 hr; exact hj.one) (by simp only [List.length_singleton]; have := HNB.out; omega) (by decide) (Nat.le_trans hGs.hB hGs.size) fun v' w' hO hC hB hOld => ?_
       have hown : OwnV h wr.heap.size lv rows x v' w' := by
        have hj2 := hj.mono (ok' := fun b => wr.heap.size ≤ b /\ b < w1.heap.size) (fun b hb hb2 => ⟨hb2, hb⟩)
        have hj3 := hj2.chg hC (fun b hb e => by have := (hGs.low b e).2; have := hb.1; omega)
        refine ⟨cs, hO, hj3.mono (fun b _ hb => ⟨hb.1, fun e => ?_⟩), ?_⟩
        ·rcases hB with hB | hB
         ·have := (hGs.low b (hB ▸ e)).2; have := hb.1; omega
         ·have := hB b e; have := hb.2; omega
        ·rcases hB with hB | hB
         ·exact .inl hB
         ·exact .inr (fun k hk => Nat.le_trans hGs.size (hB k hk))
       have hGl := hGs.low
       refine hK v' w' hown (by have h' := hGs.app hC; simpa [dn, nS] using h') ?_
       refine fun j hj _ u' hu => hu.keep hC (safe_of (i := 7) (fun j hl hj => ?_) j hj)
       match j, hj with
       | 0, _ => exact trivial
       | 1, _ => exact trivial
       | 2, _ => exact trivial
       | 3, _ => exact trivial
       | 4, _ => exact trivial
       | 5, _ => exact fun b hb e => by have := (hGl b e).2; omega
       | 6, _ => exact fun k hk => (hGl k hk).2
       | 7, hj => exact absurd rfl hj
       | 8, _ => exact trivial
       | 9, _ => exact trivial
       | j + 10, _ => exact absurd hl (by simp)
      ·intro done a w1 K hd qd qe qf qb hG hK
       have e11 : a.tmps[11]?.getD undef = .pointer (some ⟨h, 0, none⟩) := qf 11 rfl
       clear qd qe qf qb
       go_simp
       exact hK _ _ rfl (by simpa [dn] using hG) (fun _ _ _ _ h => h)
      ·intro done a w1 K hd qd qe qf qb hG hK
       have e66 : a.tmps[66]?.getD undef = .pointer (some ⟨h, 6, none⟩) := qe 8 66 rfl (qb 8 rfl)
       have hO := qe 7 65 rfl (qb 7 rfl)
       change OwnV _ _ _ _ _ _ _ at hO
       obtain ⟨sa, sn, sc, hv⟩ := hO.choose_spec.1.slice
       rw [hv] at hO
       have e65 := hv
       have hGs : VG h (fun l => cells7 6 false 0 0 ⟨#[]⟩ (.slice none 0 0) l) lv rows x wr w1 true false := by have h' := hG; rw [qb 7 rfl, hd] at h'; exact h'
       obtain ⟨l', hb, -, -⟩ := hGs.box
       have c6 : w1.cell? ⟨h, 6, none⟩ = some l' := hb.cell 6
       have f6 : w1.frozen? ⟨h, 6, none⟩ = false := hb.frozen 6
       obtain ⟨hb2, hC, -⟩ := hb.setCell 6 (.slice sa sn sc)
       have HG2 := Hd (hGs.store hb2 hC hO)
       have HC2 := Hd hC
       have HD2 := Hd (qb 7 rfl)
       clear qd qe qf qb
       clear hv hG hGs hO hb hb2 hC
       go_simp
       refine hK undef _ trivial (by have h' := HG2.out; simpa [dn, HD2.out] using h') ?_
       have hC := HC2.out
       refine fun j hj _ u' hu => hu.keep hC (safe_of (i := 9) (fun j hl hj => ?_) j hj)
       match j, hj with
       | 0, _ => exact trivial
       | 1, _ => exact trivial
       | 2, _ => exact trivial
       | 3, _ => exact trivial
       | 4, _ => exact trivial
       | 5, _ => exact fun b hb e => by have := HB.out; omega
       | 6, _ => exact fun k hk => by have := HB.out; omega
       | 7, _ => exact fun k hk => by omega
       | 8, _ => exact trivial
       | 9, hj => exact absurd rfl hj
       | j + 10, _ => exact absurd hl (by simp)
     ·intro vs w2 hvs _ hG
      obtain ⟨lv', rows', hvl⟩ := HVL.out.step HX.out hG
      have HVL' := Hd hvl
      clear hvl hG hvs
      simp only [putAll, Act.put, List.setIfInBounds_toArray, List.set_cons_succ, List.set_cons_zero]
      go_wp2_with fail
      go_roundw
      case rel => exact ⟨n + 1, lv', rows', by go_num, HVL'.out⟩
      case measure => simp [intOf]; omega
    ·have hnl : n = xs.length := Nat.le_antisymm HVL.out.le (Nat.not_lt.1 hlt)
     subst hnl
     have hlen : ¬ ((xs.length : Nat) : Int) < (vs.length : Int) := by rw [HN.out]; omega
     have hvl := HVL.out
     have hbx := hvl.box
     have hrs := hvl.res
     have hval := hvl.list
     have ho1 := hval.one
     have HVAL := Hd hval
     clear hvl hval
     go_wp2_with (first | (with_reducible refine wpList_loadAgg rfl agg26 rfl rfl hbx.cells rfl ?_) | (with_reducible refine wpList_storeBlk rfl agg26 rfl rfl rfl hrs rfl rfl ho1 ?_; intro w6 hb6 hc6 hs6))
     exact bodyPost_ret (results_blk rfl agg26 rfl hb6 rfl) rfl ⟨_, rfl, (HVAL.out.chg hc6 (fun b hb e => by have := HVL.out.hw; omega)).mono (fun b _ hb => by have := HVL.out.hw; omega), HVL.out.chg.trans hc6 (fun i hi e => absurd e (by omega))⟩
  | @table bm nm fm kvs hmb hok hdom hval =>
   have f4 := as67_4
   have f2 := as67_2
   have f22 := as67_22
   have f9 := as67_9
   have f151 := as67_151
   have f3 := as67_3
   have f120 := as67_120
   have f86 := as67_86
   have f67 := as67_67
   have hmb := hmb.fit hdom
   have hmn := run_mapNil
   obtain ⟨nk, hnk⟩ : ∃ nk, nk = kvs.length := ⟨_, rfl⟩
   rw [← hnk] at hmb
   have HNK := Hd hnk
   have HU := Hd hval
   have HDOM := Hd hdom
   have HOK := Hd hok
   have HMB := Hd hmb
   have hbl := hmb.lt
   clear hval hdom hok hnk
   go_enter Tryz.func94, Tryz.ntmps94
   go_wp2_with (first | (at_range; refine wpList_rangeB rfl rfl rfl ((hmb.alloc _).alloc _) ?_; intro w0 cnt0 hrg0 hcn0 hc0 hs0; go_frame))
   obtain ⟨h, hh⟩ : ∃ h, h = w.heap.size + 1 := ⟨_, rfl⟩
   have hb1 := (Blk.newAt (w := w.alloc (.cells zero7.toArray 26)) (n := h) (by simp [hh]) (cells7 7 false 0 0 ⟨#[]⟩ (.slice none 0 0) (.slice none 0 0)) 26)
   obtain ⟨r, hr⟩ : ∃ r, r = w.heap.size + 1 + 1 := ⟨_, rfl⟩
   have hsz2 : ∀ o1 o2, ((w.alloc o1).alloc o2).heap.size = r := fun _ _ => by simp [hr]
   rw [hsz2] at hrg0 hs0
   rw [← hr]
   have HKC0 := Hd (show KC w h bm r nk fm w0 (fun k => (fm k).isSome) cnt0 (.slice none 0 0) [] from
    ⟨hrg0, by simpa using hcn0, OwnR.nil _ _ _ _, List.nodup_nil, fun k => (by cases h : fm k <;> simp), (((Chg.refl No w).alloc _).alloc _).trans' hc0, (hb0.alloc _).chg hc0 id, hb1.chg hc0 id, by omega, by omega, hbl⟩)
   rw [← hh]
   clear hb0 hb1 hh hr hsz2 hrg0 hcn0 hc0 hs0 hmb
   go_loopw [19] (fun _ wr => ∃ (left : K -> Bool) (cnt : Nat) (kv : Value) (ks : List K), KC w h bm r nk fm wr left cnt kv ks) (fun _ wr => wr.rangeLeft bm r)
   case atStart => exact ⟨_, _, _, _, HKC0.out⟩
   case round =>
    obtain ⟨left, cnt, kv, ks, hkc⟩ := hrel
    have HKC := Hd hkc
    have hrg := hkc.rng
    clear hkc HKC0
    go_wp2_with (first | (at_next; refine wpList_nextB rfl rfl rfl hrg ?_ ?_))
    ·intro hc0 hl0
     have HL0 := Hd hl0
     have hkc := HKC.out
     have c5 : wr.cell? ⟨h, 5, none⟩ = some kv := hkc.box.cell 5
     have HOWN := Hd hkc.own
     have hkl : ks.length < 1099511627776 := by have h1 := hkc.num; have h2 := WF.out.2.1; have h3 := HNK.out; omega
     clear hl0 hkc
     go_wp2_with fail
     refine (sort_keys HOWN.out hkl).mono ?_
     rintro e w1 ⟨rfl, ks', hperm, hsort, hown', hc1⟩
     have hks := HKC.out.keys HL0.out WF.out.1 HDOM.out hperm hsort
     subst hks
     obtain ⟨qa, qc, rfl⟩ : ∃ a c, kv = .slice a kvs.length c := by
      obtain ⟨-, -, a, c, e, -, -⟩ := hown'.rowAt
      exact ⟨a, c, by simpa using e⟩
     have HVL0 := Hd (show VL w h 7 (kvs.map (·.1)) (.slice qa kvs.length qc) (kvs.map (·.2)) w1 0 (.slice none 0 0) [] from
      ⟨Nat.zero_le _, OwnR.nil _ _ _ _, hown', rfl, fun i r x hr => by simp at hr, HKC.out.chg.trans hc1 (fun i hi e => by have := (HOWN.out.elem e).1; have := HKC.out.hw; omega),
       HKC.out.res.chg hc1 (fun e => by have := (HOWN.out.elem e).1; have := HKC.out.hw; omega), HKC.out.box.chg hc1 (fun e => by have := (HOWN.out.elem e).1; omega), HKC.out.hw⟩)
     have c51 : w1.cell? ⟨h, 5, none⟩ = some (.slice qa kvs.length qc) := HVL0.out.box.cell 5
     have hl1 : kvs.length ≤ 2 ^ 63 - 1 := by have := WF.out.2.1; omega
     clear hperm hsort hown' hc1 c5 HOWN hrg
     go_wp2_with fail
     clear c51
     go_loopw [124] (fun ct wr => ∃ (n : Nat) (lv : Value) (rows : List (List Value)), ct = .int .i64 n /\ VL w h 7 (kvs.map (·.1)) (.slice qa kvs.length qc) (kvs.map (·.2)) wr n lv rows) (fun ct _ => kvs.length - (intOf ct).toNat)
     case atStart => exact ⟨0, _, _, rfl, HVL0.out⟩
     case round =>
      obtain ⟨n, lv, rows, rfl, hvl⟩ := hrel
      have HVL := Hd hvl
      clear hvl HVL0
      by_cases hlt : n < kvs.length
      ·obtain ⟨p, hp⟩ : ∃ p, kvs[n]? = some p := ⟨_, List.getElem?_eq_getElem hlt⟩
       have HGET := Hd (mem_get WF.out.1 (List.mem_of_getElem? hp))
       obtain ⟨u, hfu⟩ : ∃ u, fm p.1 = some u := by
        have h1 := HDOM.out p.1
        rw [HGET.out] at h1
        cases hf : fm p.1 with
        | none => rw [hf] at h1; cases h1
        | some u => exact ⟨u, rfl⟩
       have HFU := Hd hfu
       have hrow := HVL.out.keys.rowAt
       obtain ⟨kb, ko, rfl, hkok, hkc⟩ := hrow.at (i := n) (r := [.string p.1]) (by simp [hp])
       have hkc := hkc.one
       simp only [Nat.mul_one] at hkc
       have h64 : (n : Int) < (kvs.length : Int) := Int.ofNat_lt.2 hlt
       have HUX := Hd (HU.out p.1 u p.2 hfu HGET.out)
       have HX := Hd (show (kvs.map (·.2))[n]? = some p.2 by simp [hp])
       have HP := Hd hp
       have hwrap : IntKind.i64.wrap ((dep : Int) + 1) = (dep : Int) + 1 := IntWalk.i64_in _ (by omega)
       have HB := Hd HVL.out.box.lt
       have HNB := Hd (show rows.length + 1 ≤ 1099511627776 by have h1 := HVL.out.len; have h2 := WF.out.2.1; omega)
       have HPK := Hd (show p.1.size ≤ maxLen by have h1 := (WF.out.2.2 _ (List.mem_of_getElem? hp)).1; unfold kOk at h1; unfold maxLen; omega)
       clear hfu hp hrow
       go_upto_region 50 with (fail)
       refine wp_region_inv (FI [.eq (.pointer (some ⟨h, 6, none⟩)), .eq lv, .eq (.map (some bm)), .eq (.string p.1), .eq u, .eq (.int .i64 (dep : Int)), .eq (.int .i64 ((dep : Int) + 1)), .val (fun b => wr.heap.size ≤ b) p.2, .tempV wr.heap.size p.2, .ownV h wr.heap.size lv rows p.2 HB.out, .eq (.pointer (some ⟨h, 6, none⟩)), .any])
        (fun done w' => VG h (fun l => cells7 7 false 0 0 ⟨#[]⟩ (.slice (some ⟨kb, ko, none⟩) kvs.length qc) l) lv rows p.2 wr w' (done 9) (done 11))
        (by kernel_rfl) (by kernel_rfl) (VG.start HVL.out.own HVL.out.box) ?_ ?_
       ·refine ⟨?_, ?_, ?_, ?_, ?_, ?_, ?_, ?_, ?_, ?_, ?_, ?_, trivial⟩
        ·intro done a w1 K hd qd qe qf qb hG hK
         have e18 : a.tmps[18]?.getD undef = .pointer (some ⟨h, 0, none⟩) := qf 18 rfl
         clear qd qe qf qb
         go_simp
         exact hK _ _ rfl (by simpa [dn] using hG) (fun _ _ _ _ h => h)
        ·intro done a w1 K hd qd qe qf qb hG hK
         have e128 : a.tmps[128]?.getD undef = .pointer (some ⟨h, 6, none⟩) := qe 0 128 rfl (qb 0 rfl)
         have nS : done 11 = false := by
          cases hh0 : done 11 with
          | false => rfl
          | true =>
           have hh1 := qd 11 9 rfl hh0
           have hh2 := qd 9 1 rfl hh1
           rw [hd] at hh2; cases hh2
         obtain ⟨l', hb, h1, -⟩ := hG.box
         obtain rfl : l' = lv := h1 nS
         have c6 : w1.cell? ⟨h, 6, none⟩ = some l' := hb.cell 6
         clear qd qe qf qb
         clear hb h1
         go_simp
         exact hK _ _ rfl (by simpa [dn] using hG) (fun _ _ _ _ h => h)
        ·intro done a w1 K hd qd qe qf qb hG hK
         have e17 : a.tmps[17]?.getD undef = .map (some bm) := qf 17 rfl
         clear qd qe qf qb
         go_simp
         exact hK _ _ rfl (by simpa [dn] using hG) (fun _ _ _ _ h => h)
        ·intro done a w1 K hd qd qe qf qb hG hK
         have e21 : a.tmps[21]?.getD undef = .string p.1 := qf 21 rfl
         clear qd qe qf qb
         go_simp
         exact hK _ _ rfl (by simpa [dn] using hG) (fun _ _ _ _ h => h)
        ·intro done a w1 K hd qd qe qf qb hG hK
         have e130 : a.tmps[130]?.getD undef = .map (some bm) := qe 2 130 rfl (qb 2 rfl)
         have e131 : a.tmps[131]?.getD undef = .string p.1 := qe 3 131 rfl (qb 3 rfl)
         have hm1 := (HMB.out.chg HVL.out.chg id).chg hG.chg (fun e => by rcases e with e | e; (have := HVL.out.hw; omega); (have := (hG.low _ e).1; have := HVL.out.hw; omega))
         refine if_wanted rfl ?_
         refine wp_lookB1 rfl (by simpa [Act.eval] using e130) hm1 (by simpa [Act.eval] using e131) HPK.out ?_
         rw [HFU.out]
         exact hK _ _ rfl (by simpa [dn] using hG) (fun _ _ _ _ h => h)
        ·intro done a w1 K hd qd qe qf qb hG hK
         have e1 : a.tmps[1]?.getD undef = .int .i64 (dep : Int) := qf 1 rfl
         clear qd qe qf qb
         go_simp
         exact hK _ _ rfl (by simpa [dn] using hG) (fun _ _ _ _ h => h)
        ·intro done a w1 K hd qd qe qf qb hG hK
         have e133 : a.tmps[133]?.getD undef = .int .i64 (dep : Int) := qe 5 133 rfl (qb 5 rfl)
         clear qd qe qf qb
         go_simp
         exact hK _ _ rfl (by simpa [dn] using hG) (fun _ _ _ _ h => h)
        ·intro done a w1 K hd qd qe qf qb hG hK
         have e132 : a.tmps[132]?.getD undef = u := qe 4 132 rfl (qb 4 rfl)
         have e134 : a.tmps[134]?.getD undef = .int .i64 ((dep : Int) + 1) := qe 6 134 rfl (qb 6 rfl)
         have hcall := IH.out (okB ok w) p.2 u w1 (dep + 1) (HUX.out.bel.keep (HVL.out.chg.trans hG.chg (fun i hi e => by rcases e with e | e; (have := HVL.out.hw; omega); (have := (hG.low i e).1; have := HVL.out.hw; omega))) (fun _ _ _ e => e)) (WF.out.2.2 _ (List.mem_of_getElem? HP.out)).2 (by have := HD.out; omega)
         rw [show ((dep + 1 : Nat) : Int) = (dep : Int) + 1 by omega] at hcall
         refine if_wanted rfl ?_
         refine wp_callV Tryz.call94 rfl (by simpa [Act.eval] using e132) (by simpa [Act.eval] using e134) hcall ?_
         rintro e w2 ⟨cs, rfl, hj, hc2⟩
         have hsz := hG.size
         exact ⟨_, rfl, hK _ _ ⟨cs, rfl, hj.mono (fun b _ hb => Nat.le_trans hsz hb)⟩ (by simpa [dn] using hG.chgNo hc2) (fun _ _ _ _ h => h.keepNo hc2)⟩
        ·intro done a w1 K hd qd qe qf qb hG hK
         obtain ⟨cs, e135, hj⟩ := qe 7 135 rfl (qb 7 rfl)
         refine if_wanted rfl ?_
         refine wp_build24V rfl (by simpa [Act.eval] using e135) hj.length ?_
         have hsz := hG.size
         refine hK _ _ ⟨_, cs, rfl, hsz, Blk.new _ cs _, hj.chg ((Chg.refl No _).alloc _) (fun _ _ e => e)⟩ (by simpa [dn] using hG.chgNo ((Chg.refl _ _).alloc _)) (fun _ _ _ _ h => h.keepNo ((Chg.refl _ _).alloc _))
        ·intro done a w1 K hd qd qe qf qb hG hK
         have e129 : a.tmps[129]?.getD undef = lv := qe 1 129 rfl (qb 1 rfl)
         obtain ⟨t, cs, e136, hlt, hbt, hj⟩ := qe 8 136 rfl (qb 8 rfl)
         have nS : done 11 = false := by
          cases hh0 : done 11 with
          | false => rfl
          | true =>
           have hh1 := qd 11 9 rfl hh0
           rw [hd] at hh1; cases hh1
         have hGs : VG h (fun l => cells7 7 false 0 0 ⟨#[]⟩ (.slice (some ⟨kb, ko, none⟩) kvs.length qc) l) lv rows p.2 wr w1 false false := by have h' := hG; rw [hd, nS] at h'; exact h'
         refine if_wanted rfl ?_
         refine wp_appendRows elem24 rfl (by simpa [Act.eval] using e129) (hGs.own rfl) (by simpa [Act.eval] using e136) (hbt.row1 hj.length) (by intro r hr; obtain rfl := List.mem_singleton.1 hr; exact hj.one) (by simp only [List.length_singleton]; have := HNB.out; omega) (by decide) (Nat.le_trans hGs.hB hGs.size) fun v' w' hO hC hB hOld => ?_
         have hown : OwnV h wr.heap.size lv rows p.2 v' w' := by
          have hj2 := hj.mono (ok' := fun b => wr.heap.size ≤ b /\ b < w1.heap.size) (fun b hb hb2 => ⟨hb2, hb⟩)
          have hj3 := hj2.chg hC (fun b hb e => by have := (hGs.low b e).2; have := hb.1; omega)
          refine ⟨cs, hO, hj3.mono (fun b _ hb => ⟨hb.1, fun e => ?_⟩), ?_⟩
          ·rcases hB with hB | hB
           ·have := (hGs.low b (hB ▸ e)).2; have := hb.1; omega
           ·have := hB b e; have := hb.2; omega
          ·rcases hB with hB | hB
           ·exact .inl hB
           ·exact .inr (fun k hk => Nat.le_trans hGs.size (hB k hk))
         have hGl := hGs.low
         refine hK v' w' hown (by have h' := hGs.app hC; simpa [dn, nS] using h') ?_
         refine fun j hj _ u' hu => hu.keep hC (safe_of (i := 9) (fun j hl hj => ?_) j hj)
         match j, hj with
         | 0, _ => exact trivial
         | 1, _ => exact trivial
         | 2, _ => exact trivial
         | 3, _ => exact trivial
         | 4, _ => exact trivial
         | 5, _ => exact trivial
         | 6, _ => exact trivial
         | 7, _ => exact fun b hb e => by have := (hGl b e).2; omega
         | 8, _ => exact fun k hk => (hGl k hk).2
         | 9, hj => exact absurd rfl hj
         | 10, _ => exact trivial
         | 11, _ => exact trivial
         | j + 12, _ => exact absurd hl (by simp)
        ·intro done a w1 K hd qd qe qf qb hG hK
         have e18 : a.tmps[18]?.getD undef = .pointer (some ⟨h, 0, none⟩) := qf 18 rfl
         clear qd qe qf qb
         go_simp
         exact hK _ _ rfl (by simpa [dn] using hG) (fun _ _ _ _ h => h)
        ·intro done a w1 K hd qd qe qf qb hG hK
         have e138 : a.tmps[138]?.getD undef = .pointer (some ⟨h, 6, none⟩) := qe 10 138 rfl (qb 10 rfl)
         have hO := qe 9 137 rfl (qb 9 rfl)
         change OwnV _ _ _ _ _ _ _ at hO
         obtain ⟨sa, sn, sc, hv⟩ := hO.choose_spec.1.slice
         rw [hv] at hO
         have e137 := hv
         have hGs : VG h (fun l => cells7 7 false 0 0 ⟨#[]⟩ (.slice (some ⟨kb, ko, none⟩) kvs.length qc) l) lv rows p.2 wr w1 true false := by have h' := hG; rw [qb 9 rfl, hd] at h'; exact h'
         obtain ⟨l', hb, -, -⟩ := hGs.box
         have c6 : w1.cell? ⟨h, 6, none⟩ = some l' := hb.cell 6
         have f6 : w1.frozen? ⟨h, 6, none⟩ = false := hb.frozen 6
         obtain ⟨hb2, hC, -⟩ := hb.setCell 6 (.slice sa sn sc)
         have HG2 := Hd (hGs.store hb2 hC hO)
         have HC2 := Hd hC
         have HD2 := Hd (qb 9 rfl)
         clear qd qe qf qb
         clear hv hG hGs hO hb hb2 hC
         go_simp
         refine hK undef _ trivial (by have h' := HG2.out; simpa [dn, HD2.out] using h') ?_
         have hC := HC2.out
         refine fun j hj _ u' hu => hu.keep hC (safe_of (i := 11) (fun j hl hj => ?_) j hj)
         match j, hj with
         | 0, _ => exact trivial
         | 1, _ => exact trivial
         | 2, _ => exact trivial
         | 3, _ => exact trivial
         | 4, _ => exact trivial
         | 5, _ => exact trivial
         | 6, _ => exact trivial
         | 7, _ => exact fun b hb e => by have := HB.out; omega
         | 8, _ => exact fun k hk => by have := HB.out; omega
         | 9, _ => exact fun k hk => by omega
         | 10, _ => exact trivial
         | 11, hj => exact absurd rfl hj
         | j + 12, _ => exact absurd hl (by simp)
       ·intro vs w2 hvs _ hG
        obtain ⟨lv', rows', hvl⟩ := HVL.out.step HX.out hG
        have HVL' := Hd hvl
        clear hvl hG hvs
        simp only [putAll, Act.put, List.setIfInBounds_toArray, List.set_cons_succ, List.set_cons_zero]
        go_wp2_with fail
        go_roundw
        case rel => exact ⟨n + 1, lv', rows', by go_num, HVL'.out⟩
        case measure => simp [intOf]; omega
      ·have hnl : n = kvs.length := Nat.le_antisymm (by have := HVL.out.le; simpa using this) (Nat.not_lt.1 hlt)
       subst hnl
       have hvl := HVL.out
       have hbx := hvl.box
       have hrs := hvl.res
       have hval := hvl.table
       have ho1 := hval.one
       have HVAL := Hd hval
       clear hvl hval
       go_wp2_with (first | (with_reducible refine wpList_loadAgg rfl agg26 rfl rfl hbx.cells rfl ?_) | (with_reducible refine wpList_storeBlk rfl agg26 rfl rfl rfl hrs rfl rfl ho1 ?_; intro w6 hb6 hc6 hs6))
       exact bodyPost_ret (results_blk rfl agg26 rfl hb6 rfl) rfl ⟨_, rfl, (HVAL.out.chg hc6 (fun b hb e => by have := HVL.out.hw; omega)).mono (fun b _ hb => by have := HVL.out.hw; omega), HVL.out.chg.trans hc6 (fun i hi e => absurd e (by omega))⟩
    ·intro k u w1 cnt1 hk hlk hfv hrg1 hlt hc1 hs1 hen
     have HKS := Hd (fun w6 kv' => HKC.out.step (w6 := w6) (kv' := kv') hlk hfv hrg1 hlt hc1)
     have hkc := HKC.out
     have hown := hkc.own.chg hc1 (fun i hi e => (hkc.rng.apart hkc.own hi).1 e)
     have c5 : w1.cell? ⟨h, 5, none⟩ = some kv := (hkc.box.chg hc1 (by have := hkc.hr; omega)).cell 5
     have hnb : (kRows ks).length + 1 ≤ 1099511627776 := by
      have h1 := hkc.num
      have h2 := WF.out.2.1
      have h3 := HNK.out
      simp only [kRows, List.length_map]
      omega
     have hbs : h + 1 ≤ w1.heap.size + 1 := by have h1 := hkc.hr; have h2 := hkc.rng.lt; omega
     have HLT := Hd hlt
     have HLE := Hd hkc.rng.left_eq
     clear hkc hlk hfv hrg1 hlt hc1 hs1 hrg
     go_wp2_with (first | (at_builtin; refine wpList_appendRows rfl elem23 rfl rfl (hown.alloc _) rfl (RowAt.one1 w1 [.string k] 9 1 rfl) (by simp [Value.oneCell']) hnb (by decide) (by simpa using hbs) ?_; intro kv' w6 hown' hc6 hv' hold; (obtain ⟨sa, sn, sc, rfl⟩ := hown'.slice); go_frame) | (refine wpList_setSlice rfl rfl rfl rfl Tryz.sizeOf23 (HKS.out w6 _ hc6 hown').1 (show 5 < 7 by decide) ?_; intro w7 hb7 hc7 hs7))
     go_frame
     have HK7 := Hd ((HKS.out w6 _ hc6 hown').2 w7 hb7 hc7)
     clear hown' hc6 hv' hold hown hb7 hc7
     go_roundw
     case rel => exact ⟨_, _, _, _, HK7.out⟩
     case measure => rw [HK7.out.rng.left_eq, HLE.out]; exact HLT.out
def cutAt (s : K) (c : Nat) (i : Nat) : Bool := if h : i < s.size then s[i].toNat == c else true
def partsGo (s : K) (c : Nat) : Nat -> Nat -> Nat -> List K
 | 0, _, _ => []
 | k + 1, i, b => if cutAt s c i then s.extract b i :: partsGo s c k (i + 1) (i + 1) else partsGo s c k (i + 1) b
def parts (s : K) (c : Nat) : List K := partsGo s c (s.size + 1) 0 0
theorem partsGo_length (s : K) (c : Nat) : ∀ k i b, (partsGo s c k i b).length ≤ k
 | 0, _, _ => Nat.le_refl _
 | k + 1, i, b => by
  unfold partsGo
  split
  ·have := partsGo_length s c k (i + 1) (i + 1); simp only [List.length_cons]; omega
  ·have := partsGo_length s c k (i + 1) b; omega
theorem partsGo_cut {s : K} {c n b : Nat} (hn : n ≤ s.size) (h : cutAt s c n = true) (acc : List K) : (acc ++ [s.extract b n]) ++ partsGo s c (s.size + 1 - (n + 1)) (n + 1) (n + 1) = acc ++ partsGo s c (s.size + 1 - n) n b := by
 rw [show s.size + 1 - n = (s.size + 1 - (n + 1)) + 1 by omega, partsGo, if_pos h]
 simp
theorem partsGo_on {s : K} {c n b : Nat} (hn : n ≤ s.size) (h : cutAt s c n = false) : partsGo s c (s.size + 1 - (n + 1)) (n + 1) b = partsGo s c (s.size + 1 - n) n b := by
 rw [show s.size + 1 - n = (s.size + 1 - (n + 1)) + 1 by omega, partsGo, if_neg (by rw [h]; decide)]
theorem OwnR.slice1 {w : World} {base e size : Nat} {v : Value} {rows : List (List Value)} (h : OwnR w base e size v rows) : ∃ a c, v = .slice a rows.length c := by
 obtain ⟨-, -, a, c, h, -⟩ := h.rowAt
 exact ⟨a, c, h⟩
theorem keys_app {w wr w6 : World} {v v' : Value} {acc : List K} {k : K} (hown : OwnR wr w.heap.size 9 1 v (kRows acc)) (hc : Chg No w wr) (h6 : Chg (fun b => v.ownBlock = some b) (wr.alloc (.cells #[.string k] 9)) w6)
  (hown' : OwnR w6 w.heap.size 9 1 v' (kRows acc ++ [[.string k]])) : OwnR w6 w.heap.size 9 1 v' (kRows (acc ++ [k])) /\ Chg No w w6 := by
 refine ⟨by simpa [kRows] using hown', ?_⟩
 have h1 : Chg No w (wr.alloc (.cells #[.string k] 9)) := hc.alloc _
 exact h1.trans h6 (fun i hi e => by have := (hown.elem e).1; omega)
theorem names_any (s : K) (hs : s.size < 1099511627776) (w : World) :
  Calls Tryz.prog 77 #[.string s] w fun e w' => ∃ v, e = .returned v /\ OwnR w' w.heap.size 9 1 v (kRows (parts s 46)) /\ Chg No w w' := by
 have HS := Hd hs
 go_enter Tryz.func77, Tryz.ntmps77
 go_wp2_with fail
 go_loopw [3, 4, 5] (fun v bt it wr => ∃ (acc : List K) (b n : Nat), bt = .int .i64 b /\ it = .int .i64 n /\ b ≤ n /\ n ≤ s.size + 1 /\ OwnR wr w.heap.size 9 1 v (kRows acc) /\ acc.length ≤ n /\ acc ++ partsGo s 46 (s.size + 1 - n) n b = parts s 46 /\ Chg No w wr)
  (fun _ _ it _ => s.size + 1 - (intOf it).toNat)
 case atStart => exact ⟨[], 0, 0, rfl, rfl, Nat.le_refl _, Nat.zero_le _, OwnR.nil _ _ _ _, Nat.le_refl _, rfl, Chg.refl _ _⟩
 case round =>
  obtain ⟨acc, b, n, rfl, rfl, hbn, hn, hown, hal, hacc, hc⟩ := hrel
  obtain ⟨va, vc, rfl⟩ := hown.slice1
  have HACC := Hd hacc
  have HC := Hd hc
  have HAL := Hd hal
  have HN := Hd hn
  have hbs : w.heap.size ≤ wr.heap.size + 1 := by have := hc.size; omega
  have HOWN := Hd hown
  clear hacc hc hal hn
  by_cases hlt : n ≤ s.size
  ·have hnb : (kRows acc).length + 1 ≤ 1099511627776 := by have := HAL.out; have := HS.out; simp only [kRows, List.length_map]; omega
   by_cases heq : n = s.size
   ·subst heq
    have hcut : cutAt s 46 s.size = true := by unfold cutAt; rw [dif_neg (Nat.lt_irrefl _)]
    have HCUT := Hd hcut
    clear hcut
    have hll : (ByteArray.size s : Int) ≤ (ByteArray.size s : Int) := Int.le_refl _
    go_wp2_with (first | (at_builtin; refine wpList_appendRows rfl elem23 rfl rfl (hown.alloc _) rfl (RowAt.one1 wr [.string (ByteArray.extract s b s.size)] 9 1 rfl) (by simp [Value.oneCell']) hnb (by decide) (by simpa using hbs) ?_; intro v' w6 hown' hc6 hv' hold; go_frame))
    have HAPP := Hd (keys_app HOWN.out HC.out hc6 hown')
    clear hown' hc6 hv' hold hown
    go_roundw
    case rel => exact ⟨acc ++ [s.extract b s.size], s.size + 1, s.size + 1, by go_num, by go_num, Nat.le_refl _, Nat.le_refl _, HAPP.out.1, (by have := HAL.out; simp; omega), (by rw [partsGo_cut (Nat.le_refl _) HCUT.out]; exact HACC.out), HAPP.out.2⟩
    case measure => simp [intOf]
   ·have hlt2 : n < s.size := by omega
    have hne : ((n : Int) == (s.size : Int)) = false := by simp; omega
    by_cases hb : (s[n].toNat : Int) = 46
    ·have hbb : ((s[n].toNat : Int) == 46) = true := by simpa using hb
     have HCUT := Hd (show cutAt s 46 n = true by unfold cutAt; rw [dif_pos hlt2]; simp; omega)
     clear hb
     go_wp2_with (first | (at_builtin; refine wpList_appendRows rfl elem23 rfl rfl (hown.alloc _) rfl (RowAt.one1 wr [.string (ByteArray.extract s b n)] 9 1 rfl) (by simp [Value.oneCell']) hnb (by decide) (by simpa using hbs) ?_; intro v' w6 hown' hc6 hv' hold; go_frame))
     have HAPP := Hd (keys_app HOWN.out HC.out hc6 hown')
     clear hown' hc6 hv' hold hown
     go_roundw
     case rel => exact ⟨acc ++ [s.extract b n], n + 1, n + 1, by go_num, by go_num, Nat.le_refl _, by omega, HAPP.out.1, (by have := HAL.out; simp; omega), (by rw [partsGo_cut hlt HCUT.out]; exact HACC.out), HAPP.out.2⟩
     case measure => simp [intOf]; omega
    ·have hbb : ((s[n].toNat : Int) == 46) = false := by simpa using hb
     have HCUT := Hd (show cutAt s 46 n = false by unfold cutAt; rw [dif_pos hlt2]; simp; omega)
     clear hb
     go_wp2_with fail
     go_roundw
     case rel => exact ⟨acc, b, n + 1, rfl, by go_num, by omega, by omega, HOWN.out, (by have := HAL.out; omega), (by rw [partsGo_on hlt HCUT.out]; exact HACC.out), HC.out⟩
     case measure => simp [intOf]; omega
  ·have hn2 : n = s.size + 1 := by have := HN.out; omega
   have hll : ¬ (n : Int) ≤ (s.size : Int) := by omega
   go_wp2
   go_ret
   have h1 := HACC.out
   rw [hn2, Nat.sub_self, partsGo, List.append_nil] at h1
   rw [← h1]
   have h2 := HOWN.out
   simp only [kRows, List.length_map] at h2
   exact ⟨_, rfl, h2, HC.out⟩
theorem results_blk_cell {P : Program} {fn : Func} {p q : Tmp} {ty ty' n : Nat} (h : fn.results = #[.cell p ty, .cell q ty']) (hT : AggTy P ty n) {tmps : Array Value} {w : World} {g : Nat} {cs : List Value} {t : TypeId}
  (hp : tmps.getD p undef = .pointer (some ⟨g, 0, none⟩)) (hb : Blk w g cs t) (hl : cs.length = n) (hna : ∀ w, (isAgg ty').run P w = .ok false w) {a : Addr} {v : Value} (hq : tmps.getD q undef = .pointer (some a)) (hc : w.cell? a = some v) :
  (results fn tmps).run P w = .ok (.tuple #[.agg cs.toArray, v]) w := by
 have h1 := run_loadAgg w hT (b := g) (o := 0) hb.cells hl
 have h2 : (loadVar ty' a).run P w = .ok v w := by simp [loadVar, Sem.run_bind, hna, go_sem, hc]
 have hp' : tmps[p]?.getD undef = .pointer (some ⟨g, 0, none⟩) := by simpa using hp
 have hq' : tmps[q]?.getD undef = .pointer (some a) := by simpa using hq
 simp only [results, h]
 simp [Sem.run_bind, hp', hq', asAddr, Result.andThen, h1, h2]
theorem parts_length (s : K) (c : Nat) : (parts s c).length ≤ s.size + 1 := partsGo_length s c _ _ _
structure PG (g : Nat) (cs : List Value) (ok' : Nat -> Prop) (j : J) (wr w : World) (ds : Bool) : Prop where
 size : wr.heap.size ≤ w.heap.size
 chg : Chg (· = g) wr w
 box : ∃ c, Blk w g c 26 /\ (ds = false -> c = cs) /\ (ds = true -> ValJ ok' w c j)
theorem PG.start {g : Nat} {cs : List Value} {ok' : Nat -> Prop} {j : J} {wr : World} (hb : Blk wr g cs 26) : PG g cs ok' j wr wr.drew false :=
 ⟨Nat.le_refl _, (Chg.refl _ wr).drew, cs, hb.drew, fun _ => rfl, fun e => by cases e⟩
theorem PG.chgNo {g : Nat} {cs : List Value} {ok' : Nat -> Prop} {j : J} {wr w w' : World} {ds : Bool} (h : PG g cs ok' j wr w ds) (hc : Chg No w w') : PG g cs ok' j wr w' ds := by
 obtain ⟨c, h1, h2, h3⟩ := h.box
 exact ⟨Nat.le_trans h.size hc.size, h.chg.trans' hc, c, h1.chg hc id, h2, fun e => (h3 e).chg hc (fun _ _ e => e)⟩
theorem PG.fill {g : Nat} {cs c : List Value} {ok' : Nat -> Prop} {j : J} {wr w w' : World} {ds : Bool} (h : PG g cs ok' j wr w ds) (hb : Blk w' g c 26) (hc : Chg (· = g) w w') (hv : ValJ ok' w c j) (hn : ¬ ok' g) : PG g cs ok' j wr w' true :=
 ⟨Nat.le_trans h.size hc.size, h.chg.trans hc (fun _ _ e => e), c, hb, fun e => (by cases e), fun _ => hv.chg hc (fun b hb e => hn (e ▸ hb))⟩
theorem del_same {kvs : T} {key : K} {n : Nat} {p : K × J} (hp : kvs[n]? = some p) (hk : p.1 = key) : del (kvs.take (n + 1)) key = del (kvs.take n) key := by
 rw [List.take_add_one, hp]
 simp [del, hk]
theorem del_more {kvs : T} {key : K} {n : Nat} {p : K × J} (hp : kvs[n]? = some p) (hk : p.1 ≠ key) : del (kvs.take (n + 1)) key = del (kvs.take n) key ++ [p] := by
 rw [List.take_add_one, hp]
 simp [del, hk]
theorem del_len (kvs : T) (key : K) (n : Nat) : (del (kvs.take n) key).length ≤ n :=
 Nat.le_trans (List.length_filter_le _ _) (List.length_take_le _ _)
theorem without_any (ok : Nat -> Prop) (kvs : T) (key : K) (b : Bool) (i : Int) (f : Nat) (t : K) (kv lv : Value) (w : World)
  (h : ValJ ok w (cells7 7 b i f t kv lv) (.table kvs)) (hn : kvs.length < 1099511627776) :
  Calls Tryz.prog 52 #[.agg (cells7 7 b i f t kv lv).toArray, .string key] w fun e w' => ∃ cs, e = .returned (.agg cs.toArray) /\ ValJ (fun b => ok b ∨ w.heap.size ≤ b) w' cs (.table (del kvs key)) /\ Chg No w w' := by
 cases h with
 | @table _ _ _ _ _ _ rows0 _ hk hl hn0 hr =>
 have HK := Hd hk
 have HL := Hd hl
 obtain ⟨-, -, ka, kc, rfl, -, -⟩ := hk
 obtain ⟨-, -, la, lc, rfl, -, -⟩ := hl
 simp only [List.length_map] at HK ⊢
 have HR := Hd hr
 have HN := Hd hn0
 clear hr hn0
 have hbk := build26_k 7
 go_enter Tryz.func52, Tryz.ntmps52
 unfold cells7
 go_wp2_with fail
 obtain ⟨g1, hg1⟩ : ∃ g1, g1 = w.heap.size + 1 := ⟨_, rfl⟩
 obtain ⟨g2, hg2⟩ : ∃ g2, g2 = w.heap.size + 1 + 1 := ⟨_, rfl⟩
 rw [← hg2, ← hg1]
 obtain ⟨bsl, hbsl⟩ : ∃ bsl, bsl = [(w.heap.size, cells7 7 b i f t (Value.slice ka (List.length kvs) kc) (Value.slice la rows0.length lc)), (g1, zero7)] := ⟨_, rfl⟩
 go_loopw [12] (fun c wr => ∃ (n : Nat) (rows : List (List Value)) (kv lv : Value), n ≤ kvs.length /\ c = .int .i64 n /\
   OutMem ok w wr bsl g2 (g2 + 1) (del (kvs.take n) key) rows kv lv) (fun c _ => kvs.length - (intOf c).toNat)
 case atStart =>
  refine ⟨0, [], .slice none 0 0, .slice none 0 0, Nat.zero_le _, rfl, ⟨(((Chg.refl _ _).alloc _).alloc _).alloc _, by omega, by omega, by simp [hg2], ?_, ?_, OwnR.nil _ _ _ _, OwnR.nil _ _ _ _, rfl, by simp⟩⟩
  ·subst hbsl
   intro p hp
   simp only [List.mem_cons, List.mem_nil_iff, or_false] at hp
   rcases hp with rfl | rfl
   ·exact ⟨((Blk.new _ _ _).alloc _).alloc _, by simp; omega, by simp; omega⟩
   ·exact ⟨(Blk.newAt (by simp [hg1]) _ _).alloc _, by simp; omega, by simp; omega⟩
  ·exact Blk.newAt (by simp [hg2]) _ _
 case round =>
  obtain ⟨n, rows, kv, lv, hn1, rfl, hi⟩ := hrel
  obtain ⟨acc, hacc⟩ : ∃ acc, acc = del (kvs.take n) key := ⟨_, rfl⟩
  rw [← hacc] at hi
  have HACC := Hd hacc
  have HI := Hd hi
  have HG1 := Hd hg1
  have HG2 := Hd hg2
  have HB := Hd hbsl
  have hlen : acc.length ≤ n := by rw [hacc]; exact del_len _ _ _
  clear hi hg1 hg2 hbsl hacc
  have m0 : (w.heap.size, cells7 7 b i f t (Value.slice ka (List.length kvs) kc) (Value.slice la rows0.length lc)) ∈ bsl := by rw [HB.out]; exact .head _
  have m1 : (g1, zero7) ∈ bsl := by rw [HB.out]; exact .tail _ (.head _)
  have M0 := Hd m0
  have M1 := Hd m1
  clear m0 m1
  by_cases hlt : n < kvs.length
  ·obtain ⟨p, hp⟩ : ∃ p, kvs[n]? = some p := ⟨_, List.getElem?_eq_getElem hlt⟩
   have hlt2 : n < rows0.length := by rw [HN.out]; exact hlt
   obtain ⟨r, hr0⟩ : ∃ r, rows0[n]? = some r := ⟨_, List.getElem?_eq_getElem hlt2⟩
   obtain ⟨kb, ko, rfl, hok, hkc⟩ := HK.out.at (i := n) (r := [.string p.1]) (by simp [hp])
   obtain ⟨lb, lo, rfl, hlok, hlc⟩ := HL.out.at (i := n) (r := r) hr0
   have hkc := (hkc.chg HI.out.chg id).one
   simp only [Nat.mul_one] at hkc
   have HLC := hlc
   have HV9 := Hd (HR.out n r p hr0 hp)
   obtain ⟨rk, rb, ri, rf, rt, rkv, rlv, rfl⟩ := HV9.out.seven
   have hrl : (cells7 rk rb ri rf rt rkv rlv).length = 7 := rfl
   have HP := Hd hp
   have h63 : (n : Int) < 9223372036854775808 := by omega
   have h64 : (n : Int) < (rows0.length : Int) := by omega
   clear hp hr0 hlc
   by_cases hpk : p.1 = key
   ·have hpb : (p.1.toList == key.toList) = true := by rw [toList_beq]; simpa using hpk
    have HPK := Hd hpk
    clear hpk
    go_wp2_with fail
    go_roundw
    case rel => exact ⟨n + 1, rows, kv, lv, by omega, by go_num, by rw [del_same HP.out HPK.out, ← HACC.out]; exact HI.out⟩
    case measure => simp [intOf]; omega
   ·have hpb : (p.1.toList == key.toList) = false := by rw [toList_beq]; simpa using hpk
    have HPK := Hd hpk
    clear hpk
    go_wp2_with fail
    refine wp_region_inv (FI [.eq (.pointer (some ⟨g2, 5, none⟩)), .eq kv, .eq (.string p.1), .temp wr.heap.size [.string p.1] 9, .own (g2 + 1) 9 1 (keyRows acc ++ [[.string p.1]]), .eq (.pointer (some ⟨g2, 6, none⟩)), .eq lv, .eq (.pointer (some ⟨w.heap.size, 6, none⟩)), .eq (.slice (some ⟨lb, lo, none⟩) rows0.length lc), .eq (.int .i64 n), .eq (.pointer (some ⟨lb, lo + n * 7, none⟩)), .eq (.agg (cells7 rk rb ri rf rt rkv rlv).toArray), .temp wr.heap.size (cells7 rk rb ri rf rt rkv rlv) 26, .own (g2 + 1) 26 7 (rows ++ [(cells7 rk rb ri rf rt rkv rlv)]), .eq (.pointer (some ⟨g2, 5, none⟩)), .any, .eq (.pointer (some ⟨g2, 6, none⟩)), .any])
     (fun done w' => OutMid ok w w' wr.heap.size bsl g2 (g2 + 1) acc rows kv lv p.1 (cells7 rk rb ri rf rt rkv rlv) (done 15) (done 17))
     (by kernel_rfl) (by kernel_rfl) (HI.out.mid _ _) ?_ ?_
    ·refine ⟨?_, ?_, ?_, ?_, ?_, ?_, ?_, ?_, ?_, ?_, ?_, ?_, ?_, ?_, ?_, ?_, ?_, ?_, trivial⟩
     ·intro done a w1 K hd qd qe qf qb hG hK
      have e5 : a.tmps[5]?.getD undef = .pointer (some ⟨g2, 0, none⟩) := qf 5 rfl
      clear qd qe qf qb
      go_simp
      exact hK _ _ rfl (by simpa [dn] using hG) (fun _ _ _ _ h => h)
     ·intro done a w1 K hd qd qe qf qb hG hK
      have e20 : a.tmps[20]?.getD undef = .pointer (some ⟨g2, 5, none⟩) := qe 0 20 rfl (qb 0 rfl)
      have n15 : done 15 = false := by
       cases h : done 15 with
       | false => rfl
       | true => have := qd 15 1 rfl h; rw [hd] at this; cases this
      obtain ⟨k', l', hb, h1, -⟩ := hG.b
      rw [n15] at h1
      obtain rfl : k' = kv := h1
      have c5 : w1.cell? ⟨g2, 5, none⟩ = some k' := hb.cell 5
      clear qd qe qf qb
      go_simp
      exact hK _ _ rfl (by simpa [dn] using hG) (fun _ _ _ _ h => h)
     ·intro done a w1 K hd qd qe qf qb hG hK
      have e7 : a.tmps[7]?.getD undef = .string p.1 := qf 7 rfl
      clear qd qe qf qb
      go_simp
      exact hK _ _ rfl (by simpa [dn] using hG) (fun _ _ _ _ h => h)
     ·intro done a w1 K hd qd qe qf qb hG hK
      have e22 : a.tmps[22]?.getD undef = .string p.1 := qe 2 22 rfl (qb 2 rfl)
      clear qd qe qf qb
      go_simp
      refine hK _ _ ⟨_, rfl, hG.hlo, Blk.new _ [.string p.1] _⟩ (by simpa [dn] using hG.chgNo ((Chg.refl _ _).alloc _)) (fun _ _ _ _ h => h.keepNo ((Chg.refl _ _).alloc _))
     ·intro done a w1 K hd qd qe qf qb hG hK
      have e21 : a.tmps[21]?.getD undef = kv := qe 1 21 rfl (qb 1 rfl)
      obtain ⟨t, e23, hlt, hbt⟩ := qe 3 23 rfl (qb 3 rfl)
      have n15 : done 15 = false := by
       cases h : done 15 with
       | false => rfl
       | true => have := qd 15 4 rfl h; rw [hd] at this; cases this
      have n17 : done 17 = false := by
       cases h : done 17 with
       | false => rfl
       | true => have := qd 17 4 rfl h; rw [hd] at this; cases this
      rw [n15, n17] at hG
      refine if_wanted rfl ?_
      refine wp_appendRows elem23 rfl (by simpa [Act.eval] using e21) hG.ck (by simpa [Act.eval] using e23) (hbt.row1 rfl) (by simp [Value.oneCell']) (by simp only [keyRows, List.length_map, List.length_singleton]; have := hlen; omega) (by decide) (Nat.le_trans hG.bb hG.hlo) fun v' w' hO hC hB hOld => ?_
      have hC2 := hG.cl.chg hC (fun k hk hk2 => hG.ck.apart hG.cl (by decide) hk2 hk)
      refine hK v' w' hO (by simpa [dn, n15, n17] using hG.app hC (fun k hk => (hG.ck.elem hk).1) hOld hC2) ?_
      refine fun j hj _ u hu => hu.keep hC (safe_of (i := 4) (fun j hl hj => ?_) j hj)
      match j, hj with
      | 0, _ => exact trivial
      | 1, _ => exact trivial
      | 2, _ => exact trivial
      | 3, _ => exact fun k hk => hG.klo k hk
      | 4, hj => exact absurd rfl hj
      | 5, _ => exact trivial
      | 6, _ => exact trivial
      | 7, _ => exact trivial
      | 8, _ => exact trivial
      | 9, _ => exact trivial
      | 10, _ => exact trivial
      | 11, _ => exact trivial
      | 12, _ => exact fun k hk => hG.klo k hk
      | 13, _ => exact fun k hk _ => hG.ck.notElem (by decide) hk
      | 14, _ => exact trivial
      | 15, _ => exact trivial
      | 16, _ => exact trivial
      | 17, _ => exact trivial
      | j + 18, _ => exact absurd hl (by simp)
     ·intro done a w1 K hd qd qe qf qb hG hK
      have e5 : a.tmps[5]?.getD undef = .pointer (some ⟨g2, 0, none⟩) := qf 5 rfl
      clear qd qe qf qb
      go_simp
      exact hK _ _ rfl (by simpa [dn] using hG) (fun _ _ _ _ h => h)
     ·intro done a w1 K hd qd qe qf qb hG hK
      have e25 : a.tmps[25]?.getD undef = .pointer (some ⟨g2, 6, none⟩) := qe 5 25 rfl (qb 5 rfl)
      have n17 : done 17 = false := by
       cases h : done 17 with
       | false => rfl
       | true => have := qd 17 6 rfl h; rw [hd] at this; cases this
      obtain ⟨k', l', hb, -, h2⟩ := hG.b
      rw [n17] at h2
      obtain rfl : l' = lv := h2
      have c6 : w1.cell? ⟨g2, 6, none⟩ = some l' := hb.cell 6
      clear qd qe qf qb
      go_simp
      exact hK _ _ rfl (by simpa [dn] using hG) (fun _ _ _ _ h => h)
     ·intro done a w1 K hd qd qe qf qb hG hK
      have e2 : a.tmps[2]?.getD undef = .pointer (some ⟨w.heap.size, 0, none⟩) := qf 2 rfl
      clear qd qe qf qb
      go_simp
      exact hK _ _ rfl (by simpa [dn] using hG) (fun _ _ _ _ h => h)
     ·intro done a w1 K hd qd qe qf qb hG hK
      have e27 : a.tmps[27]?.getD undef = .pointer (some ⟨w.heap.size, 6, none⟩) := qe 7 27 rfl (qb 7 rfl)
      have c6 : w1.cell? ⟨w.heap.size, 6, none⟩ = some (.slice (some ⟨lb, lo, none⟩) rows0.length lc) := (hG.bs _ M0.out).1.cell 6
      clear qd qe qf qb
      go_simp
      exact hK _ _ rfl (by simpa [dn] using hG) (fun _ _ _ _ h => h)
     ·intro done a w1 K hd qd qe qf qb hG hK
      have e6 : a.tmps[6]?.getD undef = .int .i64 n := qf 6 rfl
      clear qd qe qf qb
      go_simp
      exact hK _ _ rfl (by simpa [dn] using hG) (fun _ _ _ _ h => h)
     ·intro done a w1 K hd qd qe qf qb hG hK
      have e28 : a.tmps[28]?.getD undef = .slice (some ⟨lb, lo, none⟩) rows0.length lc := qe 8 28 rfl (qb 8 rfl)
      have e29 : a.tmps[29]?.getD undef = .int .i64 n := qe 9 29 rfl (qb 9 rfl)
      clear qd qe qf qb
      go_simp
      exact hK _ _ rfl (by simpa [dn] using hG) (fun _ _ _ _ h => h)
     ·intro done a w1 K hd qd qe qf qb hG hK
      have e30 : a.tmps[30]?.getD undef = .pointer (some ⟨lb, lo + n * 7, none⟩) := qe 10 30 rfl (qb 10 rfl)
      refine if_wanted rfl ?_
      refine wp_loadAgg agg26 rfl (by simpa [Act.eval] using e30) (HLC.chg hG.chg id) hrl ?_
      exact hK _ _ rfl (by simpa [dn] using hG) (fun _ _ _ _ h => h)
     ·intro done a w1 K hd qd qe qf qb hG hK
      have e31 : a.tmps[31]?.getD undef = .agg (cells7 rk rb ri rf rt rkv rlv).toArray := qe 11 31 rfl (qb 11 rfl)
      clear qd qe qf qb
      unfold cells7 at e31
      go_simp
      refine hK _ _ ⟨_, rfl, hG.hlo, Blk.new _ (cells7 rk rb ri rf rt rkv rlv) _⟩ (by simpa [dn] using hG.chgNo ((Chg.refl _ _).alloc _)) (fun _ _ _ _ h => h.keepNo ((Chg.refl _ _).alloc _))
     ·intro done a w1 K hd qd qe qf qb hG hK
      have e26 : a.tmps[26]?.getD undef = lv := qe 6 26 rfl (qb 6 rfl)
      obtain ⟨t, e32, hlt, hbt⟩ := qe 12 32 rfl (qb 12 rfl)
      have n15 : done 15 = false := by
       cases h : done 15 with
       | false => rfl
       | true => have := qd 15 13 rfl h; rw [hd] at this; cases this
      have n17 : done 17 = false := by
       cases h : done 17 with
       | false => rfl
       | true => have := qd 17 13 rfl h; rw [hd] at this; cases this
      rw [n15, n17] at hG
      refine if_wanted rfl ?_
      refine wp_appendRows elem24 rfl (by simpa [Act.eval] using e26) hG.cl (by simpa [Act.eval] using e32) (hbt.row1 rfl) (by intro r hr; obtain rfl := List.mem_singleton.1 hr; exact HV9.out.one) (by simp only [List.length_singleton]; have := hlen; have := HI.out.rv.1; omega) (by decide) (Nat.le_trans hG.bb hG.hlo) fun v' w' hO hC hB hOld => ?_
      have hC2 := hG.ck.chg hC (fun k hk hk2 => hG.cl.apart hG.ck (by decide) hk2 hk)
      refine hK v' w' hO (by simpa [dn, n15, n17] using hG.app hC (fun k hk => (hG.cl.elem hk).1) hC2 hOld) ?_
      refine fun j hj _ u hu => hu.keep hC (safe_of (i := 13) (fun j hl hj => ?_) j hj)
      match j, hj with
      | 0, _ => exact trivial
      | 1, _ => exact trivial
      | 2, _ => exact trivial
      | 3, _ => exact fun k hk => hG.llo k hk
      | 4, _ => exact fun k hk _ => hG.cl.notElem (by decide) hk
      | 5, _ => exact trivial
      | 6, _ => exact trivial
      | 7, _ => exact trivial
      | 8, _ => exact trivial
      | 9, _ => exact trivial
      | 10, _ => exact trivial
      | 11, _ => exact trivial
      | 12, _ => exact fun k hk => hG.llo k hk
      | 13, hj => exact absurd rfl hj
      | 14, _ => exact trivial
      | 15, _ => exact trivial
      | 16, _ => exact trivial
      | 17, _ => exact trivial
      | j + 18, _ => exact absurd hl (by simp)
     ·intro done a w1 K hd qd qe qf qb hG hK
      have e5 : a.tmps[5]?.getD undef = .pointer (some ⟨g2, 0, none⟩) := qf 5 rfl
      clear qd qe qf qb
      go_simp
      exact hK _ _ rfl (by simpa [dn] using hG) (fun _ _ _ _ h => h)
     ·intro done a w1 K hd qd qe qf qb hG hK
      have e34 : a.tmps[34]?.getD undef = .pointer (some ⟨g2, 5, none⟩) := qe 14 34 rfl (qb 14 rfl)
      have hO := qe 4 24 rfl (qb 4 rfl)
      obtain ⟨sa, sn, sc, hv⟩ := OwnR.slice hO
      rw [hd] at hG
      obtain ⟨k', l', hb, -, -⟩ := hG.b
      have c5 : w1.cell? ⟨g2, 5, none⟩ = some k' := hb.cell 5
      have f5 : w1.frozen? ⟨g2, 5, none⟩ = false := hb.frozen 5
      change OwnR _ _ _ _ _ _ at hO
      rw [hv] at hO
      have e24 := hv
      obtain ⟨hG2, hC⟩ := hG.store5 hO
      have HK2 := Hd hG2
      have HC2 := Hd hC
      have hgb := hG.gb
      have hgl := Nat.lt_of_lt_of_le hG.gb hG.bb
      clear qd qe qf qb
      clear hv hG hO hG2 hC
      go_simp
      refine hK undef _ trivial (by simpa [dn] using HK2.out) ?_
      have hC := HC2.out
      refine fun j hj _ u hu => hu.keep hC (safe_of (i := 15) (fun j hl hj => ?_) j hj)
      match j, hj with
      | 0, _ => exact trivial
      | 1, _ => exact trivial
      | 2, _ => exact trivial
      | 3, _ => exact fun k hk => by omega
      | 4, _ => exact fun k hk hb => by omega
      | 5, _ => exact trivial
      | 6, _ => exact trivial
      | 7, _ => exact trivial
      | 8, _ => exact trivial
      | 9, _ => exact trivial
      | 10, _ => exact trivial
      | 11, _ => exact trivial
      | 12, _ => exact fun k hk => by omega
      | 13, _ => exact fun k hk hb => by omega
      | 14, _ => exact trivial
      | 15, hj => exact absurd rfl hj
      | 16, _ => exact trivial
      | 17, _ => exact trivial
      | j + 18, _ => exact absurd hl (by simp)
     ·intro done a w1 K hd qd qe qf qb hG hK
      have e5 : a.tmps[5]?.getD undef = .pointer (some ⟨g2, 0, none⟩) := qf 5 rfl
      clear qd qe qf qb
      go_simp
      exact hK _ _ rfl (by simpa [dn] using hG) (fun _ _ _ _ h => h)
     ·intro done a w1 K hd qd qe qf qb hG hK
      have e35 : a.tmps[35]?.getD undef = .pointer (some ⟨g2, 6, none⟩) := qe 16 35 rfl (qb 16 rfl)
      have hO := qe 13 33 rfl (qb 13 rfl)
      obtain ⟨sa, sn, sc, hv⟩ := OwnR.slice hO
      rw [hd] at hG
      obtain ⟨k', l', hb, -, -⟩ := hG.b
      have c5 : w1.cell? ⟨g2, 6, none⟩ = some l' := hb.cell 6
      have f5 : w1.frozen? ⟨g2, 6, none⟩ = false := hb.frozen 6
      change OwnR _ _ _ _ _ _ at hO
      rw [hv] at hO
      have e33 := hv
      obtain ⟨hG2, hC⟩ := hG.store6 hO
      have HK2 := Hd hG2
      have HC2 := Hd hC
      have hgb := hG.gb
      have hgl := Nat.lt_of_lt_of_le hG.gb hG.bb
      clear qd qe qf qb
      clear hv hG hO hG2 hC
      go_simp
      refine hK undef _ trivial (by simpa [dn] using HK2.out) ?_
      have hC := HC2.out
      refine fun j hj _ u hu => hu.keep hC (safe_of (i := 17) (fun j hl hj => ?_) j hj)
      match j, hj with
      | 0, _ => exact trivial
      | 1, _ => exact trivial
      | 2, _ => exact trivial
      | 3, _ => exact fun k hk => by omega
      | 4, _ => exact fun k hk hb => by omega
      | 5, _ => exact trivial
      | 6, _ => exact trivial
      | 7, _ => exact trivial
      | 8, _ => exact trivial
      | 9, _ => exact trivial
      | 10, _ => exact trivial
      | 11, _ => exact trivial
      | 12, _ => exact fun k hk => by omega
      | 13, _ => exact fun k hk hb => by omega
      | 14, _ => exact trivial
      | 15, _ => exact trivial
      | 16, _ => exact trivial
      | 17, hj => exact absurd rfl hj
      | j + 18, _ => exact absurd hl (by simp)
    ·intro vs w2 hvs _ hG
     obtain ⟨k9, l9, h9⟩ := OutMid.out hG HI.out.rv HV9.out
     have H9 := Hd h9
     clear h9 hG hvs
     simp only [putAll, Act.put, List.setIfInBounds_toArray, List.set_cons_succ, List.set_cons_zero]
     go_wp2_with fail
     go_roundw
     case rel => exact ⟨n + 1, rows ++ [(cells7 rk rb ri rf rt rkv rlv)], k9, l9, by omega, by go_num, by rw [del_more HP.out HPK.out, ← HACC.out]; exact H9.out⟩
     case measure => simp [intOf]; omega
  ·obtain rfl : n = kvs.length := by omega
   have hb3 := HI.out.b
   have hb2 := (HI.out.bs _ M1.out).1
   have ho1 := cells7_one (k := 7) (b := false) (i := 0) (f := 0) (t := ByteArray.empty) HI.out.ck.rowAt.one HI.out.cl.rowAt.one
   go_wp2_with (first | (refine wpList_loadAgg rfl agg26 rfl rfl hb3.cells rfl ?_) | (refine wpList_storeBlk rfl agg26 rfl rfl rfl hb2 rfl rfl ho1 ?_; intro w4 hb4 hc4 hs4))
   obtain ⟨hval, hch⟩ := HI.out.done hc4 (by rw [HG1.out]; omega) (by rw [HG1.out, HG2.out]; omega)
   refine bodyPost_ret (results_blk rfl agg26 rfl hb4 rfl) rfl ⟨_, rfl, ?_, hch⟩
   rw [show del kvs key = acc by rw [HACC.out, List.take_length]]
   exact hval
theorem wp_callV3 {P : Program} {f : FuncId} (hcall : ∀ (args : Array Value) (w : World), (callFunc f args).run P w = .ok (.enter f args) w) {o : Oper} {a : Act} {w : World} {K : Act -> World -> Prop} {Q : Exit -> Act -> World -> Prop} {x y z : Operand} {ts : Array TypeId} (ho : o.op = .call { callee := .value (.func f), args := #[x, y, z], argTypes := ts })
  {u d v : Value} (hx : a.eval x = u) (hy : a.eval y = d) (hz : a.eval z = v) {R : Ending -> World -> Prop} (hc : Calls P f #[u, d, v] w R) (h : ∀ e w', R e w' -> ∃ v, e = .returned v /\ K (a.put o.dst v) w') : o.wp P a w K Q := by
 unfold Oper.wp
 have hrun : (execOp a.eval o).run P w = .ok (.enter f #[u, d, v]) w := by
  simp only [execOp, ho, List.map_toArray, List.map_cons, List.map_nil, hx, hy, hz]
  simp [resolve, Act.eval, go_sem, hcall]
  exact ⟨by rw [← hx]; cases x <;> simp [Act.eval], by rw [← hy]; cases y <;> simp [Act.eval], by rw [← hz]; cases z <;> simp [Act.eval]⟩
 rw [hrun, Oper.upon_enter]
 refine hc.mono fun e w' hr => ?_
 obtain ⟨v, rfl, hk⟩ := h e w' hr
 exact hk
theorem ValJ.kindQ {ok : Nat -> Prop} {w : World} {k b i f t kv lv} {j : J} (h : ValJ ok w (cells7 k b i f t kv lv) j) : (k = 0 -> j = .null) /\ (k = 7 -> isT j = true) /\ (j = .null -> k = 0) /\ (isT j = true -> k = 7) := by
 cases h <;> simp [isT]
theorem get_take_self {b : T} {n : Nat} {p : K × J} (hb : Sorted b) (hp : b[n]? = some p) : get (b.take n) p.1 = none := by
 have ht : b.take (n + 1) = b.take n ++ [p] := by rw [List.take_add_one, hp]; rfl
 have hs := sorted_take hb (n + 1)
 rw [ht] at hs
 refine get_none_of (fun q hq e => ?_)
 exact klt_ne ((List.pairwise_append.1 hs).2.2 q hq p (by simp)) e
theorem get_take_succ {b : T} {n : Nat} {p : K × J} (hb : Sorted b) (hp : b[n]? = some p) (k : K) : get (b.take (n + 1)) k = if p.1 = k then some p.2 else get (b.take n) k := by
 have ht : b.take (n + 1) = b.take n ++ [p] := by rw [List.take_add_one, hp]; rfl
 have hs := sorted_take hb (n + 1)
 rw [ht] at hs ⊢
 exact get_snoc hs k
structure Told (F : T -> T) (at_ : K -> Option J -> Option J) : Prop where
 sorted : ∀ b, Sorted (F b)
 get : ∀ b k, Go.Proofs.YtljaoopfomcaoaaGreatDoor.get (F b) k = at_ k (Go.Proofs.YtljaoopfomcaoaaGreatDoor.get b k)
section
variable {F : T -> T} {at_ : K -> Option J -> Option J} {b : T} {n : Nat} {p : K × J}
theorem Told.same (h : Told F at_) (hb : Sorted b) (hp : b[n]? = some p) (he : at_ p.1 (some p.2) = at_ p.1 none) : F (b.take (n + 1)) = F (b.take n) := by
 refine t_ext (h.sorted _) (h.sorted _) fun k => ?_
 rw [h.get, h.get, get_take_succ hb hp]
 by_cases e : p.1 = k
 ·subst e; rw [if_pos rfl, get_take_self hb hp, he]
 ·rw [if_neg e]
theorem Told.ins (h : Told F at_) (hb : Sorted b) (hp : b[n]? = some p) {z : J} (he : at_ p.1 (some p.2) = some z) : F (b.take (n + 1)) = ins (F (b.take n)) p.1 z := by
 refine t_ext (h.sorted _) (sorted_ins _ _ (h.sorted _)) fun k => ?_
 rw [h.get, get_ins, h.get, get_take_succ hb hp]
 by_cases e : p.1 = k
 ·subst e; rw [if_pos rfl, if_pos rfl, he]
 ·rw [if_neg e, if_neg e]
theorem Told.del (h : Told F at_) (hb : Sorted b) (hp : b[n]? = some p) (he : at_ p.1 (some p.2) = none) : F (b.take (n + 1)) = del (F (b.take n)) p.1 := by
 refine t_ext (h.sorted _) (sorted_del _ (h.sorted _)) fun k => ?_
 rw [h.get, get_del, h.get, get_take_succ hb hp]
 by_cases e : p.1 = k
 ·subst e; rw [if_pos rfl, if_pos rfl, he]
 ·rw [if_neg e, if_neg e]
theorem Told.start (h : Told F at_) {a : T} (ha : Sorted a) (hn : ∀ k, at_ k none = Go.Proofs.YtljaoopfomcaoaaGreatDoor.get a k) : F (b.take 0) = a := by
 refine t_ext (h.sorted _) ha fun k => ?_
 rw [h.get]; exact hn k
end
theorem told_coal (m : Bool) (a : T) : Told (coal m a) (fun k y => coalAt m (get a k) y) := ⟨sorted_coal m a, get_coal m a⟩
theorem told_over (m : Bool) (dep : K -> Bool) (v : T) : Told (over m dep v) (fun k y => overAt m (dep k) (get v k) y) := ⟨sorted_over m dep v, get_over m dep v⟩
theorem told_globT (mine : T) : Told (globT mine) (fun k y => globAt (get mine k) y) := ⟨sorted_globT mine, get_globT mine⟩
theorem coalAt_none (m : Bool) (x : Option J) : coalAt m x none = x := by
 cases x with
 | none => rfl
 | some x => cases x <;> rfl
theorem overAt_none (m dep : Bool) (x : Option J) : overAt m dep x none = x := by
 cases x with
 | none => rfl
 | some x => cases x <;> (try cases m) <;> rfl
theorem globAt_none (x : Option J) : globAt x none = x := rfl
theorem WU.take {U : List K} {N d n : Nat} {b : T} (h : WU U N d (.table b)) : WU U N d (.table (b.take n)) := by
 cases d with
 | zero => exact h.elim
 | succ d => exact ⟨sorted_take h.1 n, fun p hp => h.2 p (List.mem_of_mem_take hp)⟩
theorem WU.len {U : List K} {N d : Nat} {b : T} (h : WU U N d (.table b)) : b.length ≤ U.length := by
 cases d with
 | zero => exact h.elim
 | succ d => exact sorted_len h.1 (fun p hp => (h.2 p hp).1)
theorem WU.sorted {U : List K} {N d : Nat} {b : T} (h : WU U N d (.table b)) : Sorted b := by
 cases d with
 | zero => exact h.elim
 | succ d => exact h.1
structure CO (ok : Nat -> Prop) (w : World) (g : Nat) (ca cb : List Value) (o : T) (wr : World) (oc : List Value) : Prop where
 b0 : Blk wr g ca 26
 b1 : Blk wr (g + 1) cb 26
 b2 : Blk wr (g + 2) zero7 26
 b3 : Blk wr (g + 3) oc 26
 val : ValJ (okL ok w (g + 3)) wr oc (.table o)
 chg : Chg No w wr
theorem CO.step {ok : Nat -> Prop} {w : World} {g : Nat} {ca cb : List Value} {o : T} {wr w' : World} {oc : List Value} (h : CO ok w g ca cb o wr oc) (hc : Chg No wr w') : CO ok w g ca cb o w' oc :=
 ⟨h.b0.chg hc id, h.b1.chg hc id, h.b2.chg hc id, h.b3.chg hc id, h.val.chg hc (fun _ _ e => e), h.chg.trans' hc⟩
theorem CO.fill {ok : Nat -> Prop} {w : World} {g : Nat} {ca cb : List Value} {o o' : T} {wr w' : World} {oc oc' : List Value} (h : CO ok w g ca cb o wr oc) (hw : w.heap.size ≤ g) (hc : Chg (· = g + 3) wr w') (hb : Blk w' (g + 3) oc' 26) (hv : ValJ (okL ok w (g + 3)) w' oc' (.table o')) : CO ok w g ca cb o' w' oc' :=
 ⟨h.b0.chg hc (by omega), h.b1.chg hc (by omega), h.b2.chg hc (by omega), hb, hv, h.chg.trans hc (fun i hi e => by omega)⟩
theorem okL_not {ok : Nat -> Prop} {w : World} {g : Nat} (hw : w.heap.size ≤ g) : ¬ okL ok w g g := fun h => by rcases h with h | h <;> omega
theorem coalesced_any (U : List K) (N : Nat) (hU : U.length < 1099511627776) (m : Bool) (d : Nat) : ∀ (ok : Nat -> Prop) (a b : T) (ca cb : List Value) (w : World), ValJ ok w ca (.table a) -> ValJ ok w cb (.table b) -> WU U N d (.table a) -> WU U N d (.table b) ->
  Calls Tryz.prog 53 #[.agg ca.toArray, .agg cb.toArray, .bool m] w fun e w' => ∃ cs, e = .returned (.agg cs.toArray) /\ ValJ (fun b => ok b ∨ w.heap.size ≤ b) w' cs (.table (coal m a b)) /\ Chg No w w' := by
 induction d with
 | zero => intro ok a b ca cb w _ _ h; exact h.elim
 | succ d ih =>
  intro ok a b ca cb w ha hb wa wb
  have IH := Hd ih
  have HA := Hd ha.bel
  have HB := Hd hb.bel
  have WA := Hd wa
  have WB := Hd wb
  have HBS := Hd wb.sorted
  have hUl := hU
  have TOLD := Hd (told_coal m a)
  obtain ⟨ab, ai, af, at_, akv, alv, rfl⟩ := ha.table7
  cases hb with
  | @table bb bi bf bt bkv blv rows _ hk hl hn hr =>
  have HK := Hd (hk.mono (ok' := okB ok w) (fun b hb h => ⟨h, hb⟩) (by decide))
  have HL := Hd (hl.mono (ok' := okB ok w) (fun b hb h => ⟨h, hb⟩) (by decide))
  have HR := Hd hr
  have HN := Hd hn
  have hk1 := hk.1
  obtain ⟨-, -, ka, kc, rfl, -, -⟩ := hk
  obtain ⟨-, -, la, lc, rfl, -, -⟩ := hl
  simp only [List.length_map] at HK hk1 HB ⊢
  unfold maxLen at hk1
  have hfacts : ∀ W, (((w.alloc (.cells (cells7 7 ab ai af at_ akv alv).toArray 26)).alloc (.cells (cells7 7 bb bi bf bt (.slice ka b.length kc) (.slice la rows.length lc)).toArray 26)).alloc (.cells zero7.toArray 26)) = W ->
    Blk W w.heap.size (cells7 7 ab ai af at_ akv alv) 26 /\ Blk W (w.heap.size + 1) (cells7 7 bb bi bf bt (.slice ka b.length kc) (.slice la rows.length lc)) 26 /\ Blk W (w.heap.size + 2) zero7 26 /\ Chg No w W /\ W.heap.size = w.heap.size + 3 := by
   rintro W rfl
   exact ⟨((Blk.new _ _ _).alloc _).alloc _, (Blk.newAt (by simp) _ _).alloc _, Blk.newAt (by simp) _ _, (((Chg.refl No w).alloc _).alloc _).alloc _, by simp⟩
  have HF := Hd hfacts
  clear hfacts ha wa wb ih hr hn
  go_enter Tryz.func53, Tryz.ntmps53
  unfold cells7
  go_upto_region 1 with fail
  generalize hgw : World.alloc _ _ = W
  obtain ⟨b0, b1, b2, c1, hws⟩ := HF.out W hgw
  clear hgw HF
  obtain ⟨g, hg⟩ : ∃ g, g = w.heap.size := ⟨_, rfl⟩
  rw [← hg] at b0 b1 b2 hws ⊢
  have HG := Hd hg
  clear hg
  rw [show g + 1 + 1 = g + 2 from rfl]
  have k0 : W.cell? ⟨g, 0, none⟩ = some (.int .i64 7) := b0.cell 0
  have q0 : W.cell? ⟨g + 1, 0, none⟩ = some (.int .i64 7) := b1.cell 0
  have hoa : (cells7 7 ab ai af at_ akv alv).all (·.oneCell') = true := HA.out.one
  have HCO0 := Hd (show CO ok w g (cells7 7 ab ai af at_ akv alv) (cells7 7 bb bi bf bt (.slice ka b.length kc) (.slice la rows.length lc)) (coal m a (b.take 0)) (W.alloc (.cells (cells7 7 ab ai af at_ akv alv).toArray 26)) (cells7 7 ab ai af at_ akv alv) from
   ⟨b0.alloc _, b1.alloc _, b2.alloc _, Blk.newAt hws.symm _ _, (by
    rw [TOLD.out.start WA.out.sorted (fun k => coalAt_none m _)]
    exact (HA.out.chg (c1.alloc _) (fun _ _ e => e)).mono (fun b _ h => .inl h)), c1.alloc _⟩)
  have b0c := b0.cells
  have HB1 := Hd b1
  have HWS := Hd hws
  clear hws
  have q5 : (W.alloc (.cells (cells7 7 ab ai af at_ akv alv).toArray 26)).cell? ⟨g + 1, 5, none⟩ = some (.slice ka b.length kc) := (b1.alloc _).cell 5
  clear b0 b1 b2 c1
  go_wp2_with (first | (with_reducible refine wpList_loadAgg rfl agg26 rfl rfl b0c rfl ?_) | (with_reducible refine wpList_storeNew rfl agg26 rfl rfl rfl rfl rfl hoa ?_))
  rw [HWS.out]
  clear k0 q0 q5 b0c hoa HB1
  go_loopw [24] (fun ct wr => ∃ (n : Nat) (oc : List Value), ct = .int .i64 n /\ n ≤ b.length /\ CO ok w g (cells7 7 ab ai af at_ akv alv) (cells7 7 bb bi bf bt (.slice ka b.length kc) (.slice la rows.length lc)) (coal m a (b.take n)) wr oc) (fun ct _ => b.length - (intOf ct).toNat)
  case atStart => exact ⟨0, _, rfl, Nat.zero_le _, HCO0.out⟩
  case round =>
   obtain ⟨n, oc, rfl, hnb, hco⟩ := hrel
   have HCO := Hd hco
   clear hco
   by_cases hlt : n < b.length
   ·obtain ⟨p, hp⟩ : ∃ p, b[n]? = some p := ⟨_, List.getElem?_eq_getElem hlt⟩
    obtain ⟨r, hr0⟩ : ∃ r, rows[n]? = some r := ⟨_, List.getElem?_eq_getElem (by rw [HN.out]; exact hlt)⟩
    obtain ⟨kb, ko, rfl, hkok, hkc⟩ := HK.out.at (i := n) (r := [.string p.1]) (by simp [hp])
    obtain ⟨lb, lo, rfl, hlok, hlc⟩ := HL.out.at (i := n) (r := r) hr0
    have hkc := (hkc.chg HCO.out.chg id).one
    simp only [Nat.mul_one] at hkc
    have HVR0 := Hd ((HR.out n r p hr0 hp).bel)
    obtain ⟨rk, rb, ri, rf, rt, rkv, rlv, rfl⟩ := HVR0.out.seven
    have HP := Hd hp
    have HLOK := Hd (show lb < g by have := hlok.2; have := HG.out; omega)
    have HLC0 := Hd hlc
    have h64 : (n : Int) < (b.length : Int) := by omega
    have h65 : (n : Int) < (rows.length : Int) := by rw [HN.out]; exact h64
    have b0 := HCO.out.b0.cells
    clear hp hr0 hlc hkok hlok
    go_wp2_with (first | (with_reducible refine wpList_loadAgg rfl agg26 rfl rfl b0 rfl ?_))
    refine (at_table (okB ok w) a p.1 ab ai af at_ akv alv wr (HA.out.chg HCO.out.chg (fun _ _ e => e))).mono ?_
    rintro e w1 ⟨hc1, hat⟩
    simp only [atJ] at hat
    obtain ⟨O, hO⟩ : ∃ O, O = coal m a (b.take n) := ⟨_, rfl⟩
    have HOE := Hd hO
    have hwo : WU U N (d + 1) (.table O) := by rw [hO]; exact WU.coal m WA.out WB.out.take
    have HOS := Hd hwo.sorted
    have HOL := Hd (Nat.lt_of_le_of_lt hwo.len hUl)
    have HCO1 := Hd (HCO.out.step hc1)
    have NOTG := Hd (okL_not (ok := ok) (w := w) (g := g + 3) (by have := HG.out; omega))
    rw [← hO] at HCO1
    clear hc1 b0 hkc hwo hO HCO
    cases hgk : get a p.1 with
    | none =>
     rw [hgk] at hat
     obtain rfl := hat
     have HGK := Hd hgk
     have hz1 : zero7.all (·.oneCell') = true := rfl
     clear hgk
     go_upto_region 11 with (first | (with_reducible refine wpList_storeNew rfl agg26 rfl rfl rfl rfl rfl hz1 ?_))
     have HCO := Hd (HCO1.out.step ((Chg.refl No w1).alloc (.cells zero7.toArray 26)))
     have HVR := Hd ((HVR0.out.chg HCO.out.chg (fun _ _ e => e)).mono (ok' := okL ok w (g + 3)) (fun b _ h => .inl h))
     have HLC := Hd (HLC0.out.chg HCO.out.chg id)
     obtain ⟨ob, oi, of, ot, okv, olv, rfl⟩ := HCO.out.val.table7
     obtain ⟨wx, hwx⟩ : ∃ wx, wx = w1.alloc (.cells zero7.toArray 26) := ⟨_, rfl⟩
     rw [← hwx] at HCO HVR HLC ⊢
     clear hwx
     refine wp_region_inv (FI [.eq (.agg (cells7 7 ob oi of ot okv olv).toArray), .eq (.string p.1), .eq (.pointer (some ⟨g + 1, 6, none⟩)), .eq (.slice (some ⟨lb, lo, none⟩) rows.length lc), .eq (.int .i64 n), .eq (.pointer (some ⟨lb, lo + n * 7, none⟩)), .eq (.agg (cells7 rk rb ri rf rt rkv rlv).toArray), .val (okL ok w (g + 3)) (.table (ins O p.1 p.2)), .any])
      (fun done w' => PG (g + 3) (cells7 7 ob oi of ot okv olv) (okL ok w (g + 3)) (.table (ins O p.1 p.2)) wx w' (done 8)) (by kernel_rfl) (by kernel_rfl) (PG.start HCO.out.b3) ?_ ?_
     ·refine ⟨?_, ?_, ?_, ?_, ?_, ?_, ?_, ?_, ?_, trivial⟩
      ·intro done a w1 K hd qd qe qf qb hG hK
       have e7 : a.tmps[7]?.getD undef = .pointer (some ⟨(g + 3), 0, none⟩) := qf 7 rfl
       have n8 : done 8 = false := by
        cases hh0 : done 8 with
        | false => rfl
        | true =>
         have hh1 := qd 8 7 rfl hh0
         have hh2 := qd 7 0 rfl hh1
         rw [hd] at hh2; cases hh2
       have hG0 := hG
       rw [n8] at hG0
       obtain ⟨c', hb, h1, -⟩ := hG0.box
       obtain rfl := h1 rfl
       refine if_wanted rfl ?_
       refine wp_loadAgg agg26 rfl (by simpa [Act.eval] using e7) hb.cells rfl ?_
       exact hK _ _ rfl (by simpa [dn] using hG) (fun _ _ _ _ h => h)
      ·intro done a w1 K hd qd qe qf qb hG hK
       have e9 : a.tmps[9]?.getD undef = .string p.1 := qf 9 rfl
       clear qd qe qf qb
       go_simp
       exact hK _ _ rfl (by simpa [dn] using hG) (fun _ _ _ _ h => h)
      ·intro done a w1 K hd qd qe qf qb hG hK
       have e4 : a.tmps[4]?.getD undef = .pointer (some ⟨g + 1, 0, none⟩) := qf 4 rfl
       clear qd qe qf qb
       go_simp
       exact hK _ _ rfl (by simpa [dn] using hG) (fun _ _ _ _ h => h)
      ·intro done a w1 K hd qd qe qf qb hG hK
       have e40 : a.tmps[40]?.getD undef = .pointer (some ⟨g + 1, 6, none⟩) := qe 2 40 rfl (qb 2 rfl)
       have c6 : w1.cell? ⟨g + 1, 6, none⟩ = some (.slice (some ⟨lb, lo, none⟩) rows.length lc) := (HCO.out.b1.chg hG.chg (by omega)).cell 6
       clear qd qe qf qb
       go_simp
       exact hK _ _ rfl (by simpa [dn] using hG) (fun _ _ _ _ h => h)
      ·intro done a w1 K hd qd qe qf qb hG hK
       have e8 : a.tmps[8]?.getD undef = .int .i64 n := qf 8 rfl
       clear qd qe qf qb
       go_simp
       exact hK _ _ rfl (by simpa [dn] using hG) (fun _ _ _ _ h => h)
      ·intro done a w1 K hd qd qe qf qb hG hK
       have e41 : a.tmps[41]?.getD undef = .slice (some ⟨lb, lo, none⟩) rows.length lc := qe 3 41 rfl (qb 3 rfl)
       have e42 : a.tmps[42]?.getD undef = .int .i64 n := qe 4 42 rfl (qb 4 rfl)
       clear qd qe qf qb
       go_simp
       exact hK _ _ rfl (by simpa [dn] using hG) (fun _ _ _ _ h => h)
      ·intro done a w1 K hd qd qe qf qb hG hK
       have e43 : a.tmps[43]?.getD undef = .pointer (some ⟨lb, lo + n * 7, none⟩) := qe 5 43 rfl (qb 5 rfl)
       refine if_wanted rfl ?_
       refine wp_loadAgg agg26 rfl (by simpa [Act.eval] using e43) (HLC.out.chg hG.chg (fun e => by have := HLOK.out; omega)) rfl ?_
       exact hK _ _ rfl (by simpa [dn] using hG) (fun _ _ _ _ h => h)
      ·intro done a w1 K hd qd qe qf qb hG hK
       have e38 : a.tmps[38]?.getD undef = .agg (cells7 7 ob oi of ot okv olv).toArray := qe 0 38 rfl (qb 0 rfl)
       have e39 : a.tmps[39]?.getD undef = .string p.1 := qe 1 39 rfl (qb 1 rfl)
       have e44 : a.tmps[44]?.getD undef = .agg (cells7 rk rb ri rf rt rkv rlv).toArray := qe 6 44 rfl (qb 6 rfl)
       refine if_wanted rfl ?_
       have hcall := with_any (okL ok w (g + 3)) O p.1 p.2 ob oi of ot okv olv (cells7 rk rb ri rf rt rkv rlv) w1 (HCO.out.val.chg hG.chg (fun b hb e => NOTG.out (e ▸ hb))) (HVR.out.chg hG.chg (fun b hb e => NOTG.out (e ▸ hb))) HOS.out HOL.out
       refine wp_callV3 Tryz.call51 rfl (by simpa [Act.eval] using e38) (by simpa [Act.eval] using e39) (by simpa [Act.eval] using e44) hcall ?_
       rintro e w2 ⟨cs, rfl, hj, hc⟩
       exact ⟨_, rfl, hK _ _ ⟨cs, rfl, hj.mono (fun b _ hb => hb.elim id (fun h => .inr (by have h1 := hG.size; have h2 := HCO.out.b3.lt; omega)))⟩ (by simpa [dn] using hG.chgNo hc) (fun _ _ _ _ h => h.keepNo hc)⟩
      ·intro done a w1 K hd qd qe qf qb hG hK
       have e7 : a.tmps[7]?.getD undef = .pointer (some ⟨(g + 3), 0, none⟩) := qf 7 rfl
       obtain ⟨c2, e45, hv2⟩ := qe 7 45 rfl (qb 7 rfl)
       rw [hd] at hG
       obtain ⟨c', hb, h1, -⟩ := hG.box
       obtain rfl := h1 rfl
       refine if_wanted rfl ?_
       refine wp_storeBlk agg26 rfl (by simpa [Act.eval] using e7) (by simpa [Act.eval] using e45) hb rfl hv2.length hv2.one ?_
       intro w2 hb2 hC hs2
       refine hK undef _ trivial (by simpa [dn] using hG.fill hb2 hC hv2 NOTG.out) ?_
       refine fun j hj _ u hu => hu.keep hC (safe_of (i := 8) (fun j hl hj => ?_) j hj)
       match j, hj with
       | 0, _ => exact trivial
       | 1, _ => exact trivial
       | 2, _ => exact trivial
       | 3, _ => exact trivial
       | 4, _ => exact trivial
       | 5, _ => exact trivial
       | 6, _ => exact trivial
       | 7, _ => exact fun b hb e => NOTG.out (e ▸ hb)
       | 8, hj => exact absurd rfl hj
       | j + 9, _ => exact absurd hl (by simp)
     ·intro vs w2 hvs hvn hG
      obtain ⟨c2, hb2, -, hv2⟩ := hG.box
      have HCO2 := Hd (HCO.out.fill (Nat.le_of_eq HG.out.symm) hG.chg hb2 (hv2 rfl))
      clear hb2 hv2 hG hvs hvn
      simp only [putAll, Act.put, List.setIfInBounds_toArray, List.set_cons_succ, List.set_cons_zero]
      go_wp2_with fail
      go_roundw
      case rel => exact ⟨n + 1, c2, by go_num, by omega, (by rw [TOLD.out.ins HBS.out HP.out (by rw [HGK.out]; rfl), ← HOE.out]; exact HCO2.out)⟩
      case measure => simp [intOf]; omega
    | some x =>
     rw [hgk] at hat
     obtain ⟨xc, rfl, hvx⟩ := hat
     have hox := hvx.one
     have hlx := hvx.length
     obtain ⟨xk, xb, xi, xf, xt, xkv, xlv, rfl⟩ := hvx.seven
     obtain ⟨h, hh⟩ : ∃ h, h = w1.heap.size := ⟨_, rfl⟩
     have HGK := Hd hgk
     have HKX := Hd hvx.kindQ
     have HKR := Hd HVR0.out.kindQ
     have HB10a := Hd (show Blk (w1.alloc (.cells (cells7 xk xb xi xf xt xkv xlv).toArray 26)) h (cells7 xk xb xi xf xt xkv xlv) 26 from Blk.newAt hh _ _)
     have HHG := Hd (show g + 3 < h by have := HCO1.out.b3.lt; omega)
     have HVX0 := Hd hvx
     have HCOa := Hd (HCO1.out.step ((Chg.refl No w1).alloc (.cells (cells7 xk xb xi xf xt xkv xlv).toArray 26)))
     clear hvx hgk
     go_upto_region 12 with (first | (with_reducible refine wpList_storeNew rfl agg26 rfl rfl rfl rfl hlx hox ?_))
     rw [← hh]
     obtain ⟨wx, hwx⟩ : ∃ wx, wx = w1.alloc (.cells (cells7 xk xb xi xf xt xkv xlv).toArray 26) := ⟨_, rfl⟩
     rw [← hwx] at HCOa HB10a ⊢
     have HC1X := Hd (show Chg No w1 wx by rw [hwx]; exact (Chg.refl No w1).alloc _)
     clear hwx hh HCO1
     have HCO := Hd HCOa.out
     have HB10 := Hd HB10a.out
     clear HCOa HB10a
     have HVX := Hd ((HVX0.out.chg HC1X.out (fun _ _ e => e)).mono (ok' := okL ok w (g + 3)) (fun b _ h => .inl h))
     have HVR := Hd ((HVR0.out.chg HCO.out.chg (fun _ _ e => e)).mono (ok' := okL ok w (g + 3)) (fun b _ h => .inl h))
     have HLC := Hd (HLC0.out.chg HCO.out.chg id)
     have kx : wx.cell? ⟨h, 0, none⟩ = some (.int .i64 xk) := HB10.out.cell 0
     have q6 : wx.cell? ⟨g + 1, 6, none⟩ = some (.slice (some ⟨lb, lo, none⟩) rows.length lc) := HCO.out.b1.cell 6
     have kr : wx.cell? ⟨lb, lo + n * 7, none⟩ = some (.int .i64 rk) := HLC.out 0 _ rfl
     by_cases hx0 : xk = 0
     ·subst hx0
      have hxn : x = .null := HKX.out.1 rfl
      subst hxn
      by_cases hr0 : rk = 0
      ·subst hr0
       have hpn : p.2 = .null := HKR.out.1 rfl
       have HPN := Hd hpn
       clear hpn
       go_wp2_with fail
       go_roundw
       case rel => exact ⟨n + 1, _, by go_num, by omega, (by rw [TOLD.out.same HBS.out HP.out (by rw [HGK.out, HPN.out]; rfl)] <;> rw [← HOE.out] <;> exact HCO.out)⟩
       case measure => simp [intOf]; omega
      ·have hr0b : (rk == 0) = false := by simpa using hr0
       have hpn : p.2 ≠ .null := fun e => hr0 (HKR.out.2.2.1 e)
       have HPN := Hd hpn
       clear hpn
       cases m with
       | false =>
        obtain ⟨ob, oi, of, ot, okv, olv, rfl⟩ := HCO.out.val.table7
        have b3 := HCO.out.b3.cells
        go_wp2_with (first | (with_reducible refine wpList_loadAgg rfl agg26 rfl rfl b3 rfl ?_))
        refine (without_any (okL ok w (g + 3)) O p.1 ob oi of ot okv olv wx HCO.out.val HOL.out).mono ?_
        rintro e w2 ⟨c2, rfl, hv2, hc2⟩
        have HC2 := Hd hc2
        have hb3 := HCO.out.b3.chg hc2 id
        have hl2 := hv2.length
        have ho2 := hv2.one
        have HV2 := Hd (hv2.mono (ok' := okL ok w (g + 3)) (fun b _ hb => hb.elim id (fun h => .inr (by have h2 := HCO.out.b3.lt; omega))))
        have HCO2 := Hd (HCO.out.step hc2)
        clear hv2 hc2 b3 kx q6 kr
        go_wp2_with (first | (with_reducible refine wpList_storeBlk rfl agg26 rfl rfl rfl hb3 rfl hl2 ho2 ?_; intro w3 hb3' hc3 hs3))
        have HCO3 := Hd (HCO2.out.fill (Nat.le_of_eq HG.out.symm) hc3 hb3' (HV2.out.chg hc3 (fun b hb e => NOTG.out (e ▸ hb))))
        clear hb3' hc3 hs3 hb3
        go_roundw
        case rel => exact ⟨n + 1, c2, by go_num, by omega, (by rw [TOLD.out.del HBS.out HP.out (by rw [HGK.out]; cases hp2 : p.2 <;> first | rfl | exact absurd hp2 HPN.out), ← HOE.out]; exact HCO3.out)⟩
        case measure => simp [intOf]; omega
       | true =>
        have b10 := HB10.out.cells
        go_wp2_with (first | (with_reducible refine wpList_loadAgg rfl agg26 rfl rfl b10 rfl ?_))
        refine (isTable_any 0 xi xb xf xt xkv xlv wx).mono ?_
        rintro e w2 ⟨rfl, hc2⟩
        have HCO2 := Hd (HCO.out.step hc2)
        clear hc2 b10 kx q6 kr HCO
        have HCO := Hd HCO2.out
        go_wp2_with fail
        go_roundw
        case rel => exact ⟨n + 1, _, by go_num, by omega, (by rw [TOLD.out.same HBS.out HP.out (by rw [HGK.out]; cases hp2 : p.2 <;> rfl)] <;> rw [← HOE.out] <;> exact HCO.out)⟩
        case measure => simp [intOf]; omega
     ·have hx0b : (xk == 0) = false := by simpa using hx0
      have b10 := HB10.out.cells
      go_wp2_with (first | (with_reducible refine wpList_loadAgg rfl agg26 rfl rfl b10 rfl ?_))
      refine (isTable_any xk xi xb xf xt xkv xlv wx).mono ?_
      rintro e w2 ⟨rfl, hc2⟩
      have HCO2 := Hd (HCO.out.step hc2)
      have HB102 := Hd (HB10.out.chg hc2 id)
      have HVX2 := Hd (HVX.out.chg hc2 (fun _ _ e => e))
      have HVR2 := Hd (HVR.out.chg hc2 (fun _ _ e => e))
      have HLC2 := Hd (HLC.out.chg hc2 id)
      clear hc2 b10 kx q6 kr HCO HB10 HVX HVR HLC
      have HCO := Hd HCO2.out
      have HB10 := Hd HB102.out
      have HVX := Hd HVX2.out
      have HVR := Hd HVR2.out
      have HLC := Hd HLC2.out
      clear HCO2 HB102 HVX2 HVR2 HLC2
      by_cases hx7 : xk = 7
      ·subst hx7
       obtain ⟨x, rfl⟩ := isT_table (HKX.out.2.1 rfl)
       have q6 : w2.cell? ⟨g + 1, 6, none⟩ = some (.slice (some ⟨lb, lo, none⟩) rows.length lc) := HCO.out.b1.cell 6
       have hlc := HLC.out
       go_wp2_with (first | (with_reducible refine wpList_loadAggG rfl agg26 rfl rfl hlc rfl ?_))
       refine (isTable_any rk ri rb rf rt rkv rlv w2).mono ?_
       rintro e w3 ⟨rfl, hc3⟩
       have HCO2 := Hd (HCO.out.step hc3)
       have HB102 := Hd (HB10.out.chg hc3 id)
       have HVX2 := Hd (HVX.out.chg hc3 (fun _ _ e => e))
       have HVR2 := Hd (HVR.out.chg hc3 (fun _ _ e => e))
       have HLC2 := Hd (HLC.out.chg hc3 id)
       clear hc3 q6 hlc HCO HB10 HVX HVR HLC
       have HCO := Hd HCO2.out
       have HB10 := Hd HB102.out
       have HVX := Hd HVX2.out
       have HVR := Hd HVR2.out
       have HLC := Hd HLC2.out
       clear HCO2 HB102 HVX2 HVR2 HLC2
       by_cases hr7 : rk = 7
       ·subst hr7
        obtain ⟨y, hy⟩ := isT_table (HKR.out.2.1 rfl)
        have HY := Hd hy
        rw [hy] at HVR
        have WX := Hd (WA.out.get HGK.out).2
        have WY := Hd (show WU U N d (.table y) by rw [← hy]; exact (WB.out.2 p (List.mem_of_getElem? HP.out)).2)
        obtain ⟨ob, oi, of, ot, okv, olv, rfl⟩ := HCO.out.val.table7
        clear hy
        go_upto_region 16 with fail
        obtain ⟨wx2, hwx⟩ : ∃ wx2, wx2 = w3 := ⟨_, rfl⟩
        rw [← hwx] at HCO HVR HLC HVX HB10 ⊢
        clear hwx
        refine wp_region_inv (FI [.eq (.agg (cells7 7 ob oi of ot okv olv).toArray), .eq (.string p.1), .eq (.agg (cells7 7 xb xi xf xt xkv xlv).toArray), .eq (.pointer (some ⟨g + 1, 6, none⟩)), .eq (.slice (some ⟨lb, lo, none⟩) rows.length lc), .eq (.int .i64 n), .eq (.pointer (some ⟨lb, lo + n * 7, none⟩)), .eq (.agg (cells7 7 rb ri rf rt rkv rlv).toArray), .eq (.bool m), .val (okL ok w (g + 3)) (.table (coal m x y)), .val (okL ok w (g + 3)) (.table (ins O p.1 (.table (coal m x y)))), .any])
         (fun done w' => PG (g + 3) (cells7 7 ob oi of ot okv olv) (okL ok w (g + 3)) (.table (ins O p.1 (.table (coal m x y)))) wx2 w' (done 11)) (by kernel_rfl) (by kernel_rfl) (PG.start HCO.out.b3) ?_ ?_
        ·refine ⟨?_, ?_, ?_, ?_, ?_, ?_, ?_, ?_, ?_, ?_, ?_, ?_, trivial⟩
         ·intro done a w1 K hd qd qe qf qb hG hK
          have e7 : a.tmps[7]?.getD undef = .pointer (some ⟨(g + 3), 0, none⟩) := qf 7 rfl
          have n11 : done 11 = false := by
           cases hh0 : done 11 with
           | false => rfl
           | true =>
            have hh1 := qd 11 10 rfl hh0
            have hh2 := qd 10 0 rfl hh1
            rw [hd] at hh2; cases hh2
          have hG0 := hG
          rw [n11] at hG0
          obtain ⟨c', hb, h1, -⟩ := hG0.box
          obtain rfl := h1 rfl
          refine if_wanted rfl ?_
          refine wp_loadAgg agg26 rfl (by simpa [Act.eval] using e7) hb.cells rfl ?_
          exact hK _ _ rfl (by simpa [dn] using hG) (fun _ _ _ _ h => h)
         ·intro done a w1 K hd qd qe qf qb hG hK
          have e9 : a.tmps[9]?.getD undef = .string p.1 := qf 9 rfl
          clear qd qe qf qb
          go_simp
          exact hK _ _ rfl (by simpa [dn] using hG) (fun _ _ _ _ h => h)
         ·intro done a w1 K hd qd qe qf qb hG hK
          have e10 : a.tmps[10]?.getD undef = .pointer (some ⟨h, 0, none⟩) := qf 10 rfl
          refine if_wanted rfl ?_
          refine wp_loadAgg agg26 rfl (by simpa [Act.eval] using e10) (HB10.out.chg hG.chg (by have := HHG.out; omega)).cells rfl ?_
          exact hK _ _ rfl (by simpa [dn] using hG) (fun _ _ _ _ h => h)
         ·intro done a w1 K hd qd qe qf qb hG hK
          have e4 : a.tmps[4]?.getD undef = .pointer (some ⟨g + 1, 0, none⟩) := qf 4 rfl
          clear qd qe qf qb
          go_simp
          exact hK _ _ rfl (by simpa [dn] using hG) (fun _ _ _ _ h => h)
         ·intro done a w1 K hd qd qe qf qb hG hK
          have e84 : a.tmps[84]?.getD undef = .pointer (some ⟨g + 1, 6, none⟩) := qe 3 84 rfl (qb 3 rfl)
          have c6 : w1.cell? ⟨g + 1, 6, none⟩ = some (.slice (some ⟨lb, lo, none⟩) rows.length lc) := (HCO.out.b1.chg hG.chg (by omega)).cell 6
          clear qd qe qf qb
          go_simp
          exact hK _ _ rfl (by simpa [dn] using hG) (fun _ _ _ _ h => h)
         ·intro done a w1 K hd qd qe qf qb hG hK
          have e8 : a.tmps[8]?.getD undef = .int .i64 n := qf 8 rfl
          clear qd qe qf qb
          go_simp
          exact hK _ _ rfl (by simpa [dn] using hG) (fun _ _ _ _ h => h)
         ·intro done a w1 K hd qd qe qf qb hG hK
          have e85 : a.tmps[85]?.getD undef = .slice (some ⟨lb, lo, none⟩) rows.length lc := qe 4 85 rfl (qb 4 rfl)
          have e86 : a.tmps[86]?.getD undef = .int .i64 n := qe 5 86 rfl (qb 5 rfl)
          clear qd qe qf qb
          go_simp
          exact hK _ _ rfl (by simpa [dn] using hG) (fun _ _ _ _ h => h)
         ·intro done a w1 K hd qd qe qf qb hG hK
          have e87 : a.tmps[87]?.getD undef = .pointer (some ⟨lb, lo + n * 7, none⟩) := qe 6 87 rfl (qb 6 rfl)
          refine if_wanted rfl ?_
          refine wp_loadAgg agg26 rfl (by simpa [Act.eval] using e87) (HLC.out.chg hG.chg (fun e => by have := HLOK.out; omega)) rfl ?_
          exact hK _ _ rfl (by simpa [dn] using hG) (fun _ _ _ _ h => h)
         ·intro done a w1 K hd qd qe qf qb hG hK
          have e2 : a.tmps[2]?.getD undef = .bool m := qf 2 rfl
          clear qd qe qf qb
          go_simp
          exact hK _ _ rfl (by simpa [dn] using hG) (fun _ _ _ _ h => h)
         ·intro done a w1 K hd qd qe qf qb hG hK
          have e83 : a.tmps[83]?.getD undef = .agg (cells7 7 xb xi xf xt xkv xlv).toArray := qe 2 83 rfl (qb 2 rfl)
          have e88 : a.tmps[88]?.getD undef = .agg (cells7 7 rb ri rf rt rkv rlv).toArray := qe 7 88 rfl (qb 7 rfl)
          have e89 : a.tmps[89]?.getD undef = .bool m := qe 8 89 rfl (qb 8 rfl)
          refine if_wanted rfl ?_
          have hcall := IH.out (okL ok w (g + 3)) x y (cells7 7 xb xi xf xt xkv xlv) (cells7 7 rb ri rf rt rkv rlv) w1 (HVX.out.chg hG.chg (fun b hb e => NOTG.out (e ▸ hb))) (HVR.out.chg hG.chg (fun b hb e => NOTG.out (e ▸ hb))) WX.out WY.out
          refine wp_callV3 Tryz.call53 rfl (by simpa [Act.eval] using e83) (by simpa [Act.eval] using e88) (by simpa [Act.eval] using e89) hcall ?_
          rintro e w2 ⟨cs, rfl, hj, hc⟩
          exact ⟨_, rfl, hK _ _ ⟨cs, rfl, hj.mono (fun b _ hb => hb.elim id (fun h => .inr (by have h1 := hG.size; have h2 := HCO.out.b3.lt; omega)))⟩ (by simpa [dn] using hG.chgNo hc) (fun _ _ _ _ h => h.keepNo hc)⟩
         ·intro done a w1 K hd qd qe qf qb hG hK
          have e81 : a.tmps[81]?.getD undef = .agg (cells7 7 ob oi of ot okv olv).toArray := qe 0 81 rfl (qb 0 rfl)
          have e82 : a.tmps[82]?.getD undef = .string p.1 := qe 1 82 rfl (qb 1 rfl)
          obtain ⟨c9, e90, hv9⟩ := qe 9 90 rfl (qb 9 rfl)
          refine if_wanted rfl ?_
          have hcall := with_any (okL ok w (g + 3)) O p.1 (.table (coal m x y)) ob oi of ot okv olv c9 w1 (HCO.out.val.chg hG.chg (fun b hb e => NOTG.out (e ▸ hb))) hv9 HOS.out HOL.out
          refine wp_callV3 Tryz.call51 rfl (by simpa [Act.eval] using e81) (by simpa [Act.eval] using e82) (by simpa [Act.eval] using e90) hcall ?_
          rintro e w2 ⟨cs, rfl, hj, hc⟩
          exact ⟨_, rfl, hK _ _ ⟨cs, rfl, hj.mono (fun b _ hb => hb.elim id (fun h => .inr (by have h1 := hG.size; have h2 := HCO.out.b3.lt; omega)))⟩ (by simpa [dn] using hG.chgNo hc) (fun _ _ _ _ h => h.keepNo hc)⟩
         ·intro done a w1 K hd qd qe qf qb hG hK
          have e7 : a.tmps[7]?.getD undef = .pointer (some ⟨(g + 3), 0, none⟩) := qf 7 rfl
          obtain ⟨c2, e91, hv2⟩ := qe 10 91 rfl (qb 10 rfl)
          rw [hd] at hG
          obtain ⟨c', hb, h1, -⟩ := hG.box
          obtain rfl := h1 rfl
          refine if_wanted rfl ?_
          refine wp_storeBlk agg26 rfl (by simpa [Act.eval] using e7) (by simpa [Act.eval] using e91) hb rfl hv2.length hv2.one ?_
          intro w2 hb2 hC hs2
          refine hK undef _ trivial (by simpa [dn] using hG.fill hb2 hC hv2 NOTG.out) ?_
          refine fun j hj _ u hu => hu.keep hC (safe_of (i := 11) (fun j hl hj => ?_) j hj)
          match j, hj with
          | 0, _ => exact trivial
          | 1, _ => exact trivial
          | 2, _ => exact trivial
          | 3, _ => exact trivial
          | 4, _ => exact trivial
          | 5, _ => exact trivial
          | 6, _ => exact trivial
          | 7, _ => exact trivial
          | 8, _ => exact trivial
          | 9, _ => exact fun b hb e => NOTG.out (e ▸ hb)
          | 10, _ => exact fun b hb e => NOTG.out (e ▸ hb)
          | 11, hj => exact absurd rfl hj
          | j + 12, _ => exact absurd hl (by simp)
        ·intro vs w2 hvs hvn hG
         obtain ⟨c2, hb2, -, hv2⟩ := hG.box
         have HCO2 := Hd (HCO.out.fill (Nat.le_of_eq HG.out.symm) hG.chg hb2 (hv2 rfl))
         clear hb2 hv2 hG hvs hvn
         simp only [putAll, Act.put, List.setIfInBounds_toArray, List.set_cons_succ, List.set_cons_zero]
         go_wp2_with fail
         go_roundw
         case rel => exact ⟨n + 1, c2, by go_num, by omega, (by rw [TOLD.out.ins HBS.out HP.out (by rw [HGK.out, HY.out]; rfl), ← HOE.out]; exact HCO2.out)⟩
         case measure => simp [intOf]; omega
       ·have hr7b : (rk == 7) = false := by simpa using hr7
        have hpt : isT p.2 = false := by cases hpt : isT p.2 <;> first | rfl | exact absurd (HKR.out.2.2.2 hpt) hr7
        have HPT := Hd hpt
        clear hpt
        go_wp2_with fail
        go_roundw
        case rel => exact ⟨n + 1, _, by go_num, by omega, (by rw [TOLD.out.same HBS.out HP.out (by rw [HGK.out]; have h := HPT.out; cases hp2 : p.2 <;> first | rfl | (rw [hp2] at h; cases h))] <;> rw [← HOE.out] <;> exact HCO.out)⟩
        case measure => simp [intOf]; omega
      ·have hx7b : (xk == 7) = false := by simpa using hx7
       have hxt : isT x = false := by cases hxt : isT x <;> first | rfl | exact absurd (HKX.out.2.2.2 hxt) hx7
       have hxn : x ≠ .null := fun e => hx0 (HKX.out.2.2.1 e)
       have HXT := Hd hxt
       have HXN := Hd hxn
       clear hxt hxn
       go_wp2_with fail
       go_roundw
       case rel => exact ⟨n + 1, _, by go_num, by omega, (by rw [TOLD.out.same HBS.out HP.out (by rw [HGK.out]; have h := HXT.out; have h2 := HXN.out; cases x <;> first | rfl | exact absurd rfl h2 | cases h)] <;> rw [← HOE.out] <;> exact HCO.out)⟩
       case measure => simp [intOf]; omega
   ·have hnl : n = b.length := Nat.le_antisymm hnb (Nat.not_lt.1 hlt)
    subst hnl
    have hlen : ¬ ((b.length : Nat) : Int) < (b.length : Int) := by omega
    have b3 := HCO.out.b3.cells
    have b2 := HCO.out.b2
    have hol := HCO.out.val.length
    have hoo := HCO.out.val.one
    go_wp2_with (first | (with_reducible refine wpList_loadAgg rfl agg26 rfl rfl b3 hol ?_) | (with_reducible refine wpList_storeBlk rfl agg26 rfl rfl rfl b2 rfl hol hoo ?_; intro w3 hb3' hc3 hs3))
    refine bodyPost_ret (results_blk rfl agg26 rfl hb3' hol) rfl ⟨oc, rfl, ?_, HCO.out.chg.trans hc3 (fun i hi e => by have := HG.out; omega)⟩
    have h1 := HCO.out.val
    rw [List.take_length] at h1
    exact (h1.chg hc3 (fun b hb e => by rcases hb with hb | hb <;> (have := HG.out; omega))).mono (fun b _ hb => hb.imp (fun h => h.1) (fun h => by have := HG.out; omega))
end Go.Proofs.YtljaoopfomcaoaaGreatDoor
namespace Go.Proofs.YtljaoopfomcaoaaGreatDoor
theorem gK_lit : gK = ⟨#[103, 108, 111, 98, 97, 108]⟩ := by decide
def Flat1 (j : J) : Prop := ∀ t, j = .table t -> ∀ k x, get t k = some x -> isT x = false
def Flat2 (j : J) : Prop := ∀ t, j = .table t -> ∀ k x, get t k = some x -> Flat1 x
def Shal : Nat -> J -> Prop
 | 0, _ => True
 | d + 1, j => ∀ t, j = .table t -> ∀ k x, get t k = some x -> Shal d x /\ (k = gK -> Flat2 x)
theorem flat1_coal {m : Bool} {a b : T} (ha : Flat1 (.table a)) (hb : Flat1 (.table b)) : Flat1 (.table (coal m a b)) := by
 intro t e k z hz
 cases e
 rw [get_coal] at hz
 cases hga : get a k with
 | none => rw [hga] at hz; exact hb b rfl k z hz
 | some x =>
  have hx := ha a rfl k x hga
  rw [hga] at hz
  cases hgb : get b k with
  | none => rw [hgb] at hz; cases x <;> (cases hz; exact hx)
  | some y =>
   rw [hgb] at hz
   cases x with
   | table x => cases hx
   | null => cases y <;> simp only [coalAt] at hz <;> first | (cases hz; exact hx) | (split at hz <;> cases hz; exact hx)
   | _ => cases hz; exact hx
theorem flat2_coal {m : Bool} {a b : T} (ha : Flat2 (.table a)) (hb : Flat2 (.table b)) : Flat2 (.table (coal m a b)) := by
 intro t e k z hz
 cases e
 rw [get_coal] at hz
 cases hga : get a k with
 | none => rw [hga] at hz; exact hb b rfl k z hz
 | some x =>
  have hx := ha a rfl k x hga
  rw [hga] at hz
  cases hgb : get b k with
  | none => rw [hgb] at hz; cases x <;> (cases hz; exact hx)
  | some y =>
   have hy := hb b rfl k y hgb
   rw [hgb] at hz
   cases x with
   | table x =>
    cases y with
    | table y => cases hz; exact flat1_coal hx hy
    | _ => cases hz; exact hx
   | null => cases y <;> simp only [coalAt] at hz <;> first | (cases hz; exact hx) | (split at hz <;> cases hz; exact hx)
   | _ => cases hz; exact hx
theorem shal_coal {m : Bool} (d : Nat) : ∀ {a b : T}, Shal d (.table a) -> Shal d (.table b) -> Shal d (.table (coal m a b)) := by
 induction d with
 | zero => intro a b _ _; trivial
 | succ d ih =>
  intro a b ha hb t e k z hz
  cases e
  rw [get_coal] at hz
  cases hga : get a k with
  | none => rw [hga] at hz; exact hb b rfl k z hz
  | some x =>
   have hx := ha a rfl k x hga
   rw [hga] at hz
   cases hgb : get b k with
   | none => rw [hgb] at hz; cases x <;> (cases hz; exact hx)
   | some y =>
    have hy := hb b rfl k y hgb
    rw [hgb] at hz
    cases x with
    | table x =>
     cases y with
     | table y => cases hz; exact ⟨ih hx.1 hy.1, fun e => flat2_coal (hx.2 e) (hy.2 e)⟩
     | _ => cases hz; exact hx
    | null => cases y <;> simp only [coalAt] at hz <;> first | (cases hz; exact hx) | (split at hz <;> cases hz; exact hx)
    | _ => cases hz; exact hx
theorem shal_over {m : Bool} {dep : K -> Bool} {d : Nat} {a b : T} (ha : Shal d (.table a)) (hb : Shal d (.table b)) : Shal d (.table (over m dep a b)) := by
 cases d with
 | zero => trivial
 | succ d =>
  intro t e k z hz
  cases e
  rw [get_over] at hz
  cases hga : get a k with
  | none => rw [hga] at hz; exact hb b rfl k z hz
  | some x =>
   have hx := ha a rfl k x hga
   rw [hga] at hz
   cases x with
   | table x =>
    cases hgb : get b k with
    | none => rw [hgb] at hz; cases hz; exact hx
    | some y =>
     have hy := hb b rfl k y hgb
     rw [hgb] at hz
     cases y with
     | table y => cases hz; exact ⟨shal_coal d hx.1 hy.1, fun e => flat2_coal (hx.2 e) (hy.2 e)⟩
     | _ => cases hz; exact hx
   | null =>
    simp only [overAt] at hz
    split at hz
    ·cases hz; exact hx
    ·split at hz <;> cases hz; exact hx
   | _ => cases hz; exact hx
theorem flat2_globT {a b : T} (ha : Flat2 (.table a)) (hb : Flat2 (.table b)) : Flat2 (.table (globT a b)) := by
 intro t e k z hz
 cases e
 rw [get_globT] at hz
 cases hgb : get b k with
 | none => rw [hgb] at hz; exact ha a rfl k z hz
 | some y =>
  have hy := hb b rfl k y hgb
  rw [hgb] at hz
  cases hga : get a k with
  | none => rw [hga] at hz; cases y <;> (cases hz; exact hy)
  | some x =>
   have hx := ha a rfl k x hga
   rw [hga] at hz
   cases y <;> cases x <;> cases hz <;> first | exact hy | exact hx | exact flat1_coal hy hx
theorem shal_globT {d : Nat} {a b : T} (ha : Shal d (.table a)) (hb : Shal d (.table b)) (h2 : Flat2 (.table a)) (h3 : Flat2 (.table b)) : Shal d (.table (globT a b)) := by
 cases d with
 | zero => trivial
 | succ d =>
  intro t e k z hz
  cases e
  rw [get_globT] at hz
  cases hgb : get b k with
  | none => rw [hgb] at hz; exact ha a rfl k z hz
  | some y =>
   have hy := hb b rfl k y hgb
   rw [hgb] at hz
   cases hga : get a k with
   | none => rw [hga] at hz; cases y <;> (cases hz; exact hy)
   | some x =>
    have hx := ha a rfl k x hga
    rw [hga] at hz
    cases y <;> cases x <;> cases hz <;> first | exact hy | exact hx | exact ⟨shal_coal d hy.1 hx.1, fun e => flat2_coal (hy.2 e) (hx.2 e)⟩
theorem shal_ins {d : Nat} {t : T} {k : K} {x : J} (ht : Shal (d + 1) (.table t)) (hx : Shal d x) (h2 : k = gK -> Flat2 x) : Shal (d + 1) (.table (ins t k x)) := by
 intro t' e k' z hz
 cases e
 rw [get_ins] at hz
 split at hz
 ·rename_i e; subst e; cases hz; exact ⟨hx, h2⟩
 ·exact ht t rfl k' z hz
theorem flat2_nil : Flat2 (.table []) := fun t e k x h => by cases e; cases h
theorem shal_nil (d : Nat) : Shal d (.table []) := by
 cases d with
 | zero => trivial
 | succ d => intro t e k x h; cases e; cases h
def ShalA (j : J) : Prop := ∀ d, Shal d j
theorem ShalA.get {t : T} {k : K} {x : J} (h : ShalA (.table t)) (hg : get t k = some x) : ShalA x := fun d => (h (d + 1) t rfl k x hg).1
theorem ShalA.flat {t : T} {x : J} (h : ShalA (.table t)) (hg : Go.Proofs.YtljaoopfomcaoaaGreatDoor.get t gK = some x) : Flat2 x := (h 1 t rfl gK x hg).2 rfl
theorem ShalA.over {m : Bool} {dep : K -> Bool} {a b : T} (ha : ShalA (.table a)) (hb : ShalA (.table b)) : ShalA (.table (over m dep a b)) := fun d => shal_over (ha d) (hb d)
theorem ShalA.tabAt {t x : T} {k : K} (h : ShalA (.table t)) (hx : tabAt t k = some x) : ShalA (.table x) /\ (k = gK -> Flat2 (.table x)) := by
 unfold Go.Proofs.YtljaoopfomcaoaaGreatDoor.tabAt at hx
 split at hx
 ·cases hx; exact ⟨fun d => shal_nil d, fun _ => flat2_nil⟩
 ·rename_i y hy; cases hx; exact ⟨h.get hy, fun e => h.flat (e ▸ hy)⟩
 ·cases hx
theorem ShalA.globals {a b : T} (ha : ShalA (.table a)) (hb : ShalA (.table b)) : ShalA (.table (globals a b)) := by
 unfold Go.Proofs.YtljaoopfomcaoaaGreatDoor.globals
 split
 ·rename_i x y hx hy
  obtain ⟨h1, h2⟩ := ha.tabAt hx
  obtain ⟨h3, h4⟩ := hb.tabAt hy
  intro d
  cases d with
  | zero => trivial
  | succ d => exact shal_ins (ha (d + 1)) (shal_globT (h1 d) (h3 d) (h2 rfl) (h4 rfl)) (fun _ => flat2_globT (h2 rfl) (h4 rfl))
 ·exact ha
end Go.Proofs.YtljaoopfomcaoaaGreatDoor
namespace Go.Proofs.YtljaoopfomcaoaaGreatDoor
open Go.RowKit
def cellsW (x : Want) (tv iv : Value) : List Value := [.string x.name, .string x.version, .string x.condition, .string x.alias_, tv, .bool x.enabled, iv]
abbrev impRows (l : List Imp) : List (List Value) := l.map fun i => [.string i.plain, .string i.child, .string i.parent, .bool i.isMap]
def WantJ (ok : Nat -> Prop) (w : World) (cs : List Value) (x : Want) : Prop := ∃ tv iv, cs = cellsW x tv iv /\ RowAt ok w tv 1 (kRows x.tags) /\ RowAt ok w iv 4 (impRows x.imports)
def cells11 (name ver : K) (k : Int) (b : Bool) (i : Int) (f : Nat) (t : K) (kv lv dv wv : Value) : List Value :=
 [.string name, .string ver, .int .i64 k, .bool b, .int .i64 i, .float .f64 f, .string t, kv, lv, dv, wv]
inductive ChJ (ok : Nat -> Prop) (w : World) : List Value -> Ch -> Prop where
 | mk {name ver : K} {k : Int} {b : Bool} {i : Int} {f : Nat} {t : K} {kv lv dv wv : Value} {vals : J} {drows wrows : List (List Value)} {deps : List Ch} {wants : List Want}
   (hv : ValJ ok w (cells7 k b i f t kv lv) vals) (hd : RowAt ok w dv 11 drows) (hn : drows.length = deps.length) (h : ∀ (n : Nat) (r : List Value) (d : Ch), drows[n]? = some r -> deps[n]? = some d -> ChJ ok w r d)
   (hw : RowAt ok w wv 7 wrows) (hm : wrows.length = wants.length) (hx : ∀ (n : Nat) (r : List Value) (x : Want), wrows[n]? = some r -> wants[n]? = some x -> WantJ ok w r x) : ChJ ok w (cells11 name ver k b i f t kv lv dv wv) (.mk name ver vals deps wants)
theorem WantJ.chg {ok S : Nat -> Prop} {w w' : World} {cs : List Value} {x : Want} (h : WantJ ok w cs x) (hc : Chg S w w') (hs : ∀ b, ok b -> ¬ S b) : WantJ ok w' cs x := by
 obtain ⟨tv, iv, h1, h2, h3⟩ := h
 exact ⟨tv, iv, h1, h2.chg hc hs, h3.chg hc hs⟩
theorem WantJ.mono {ok ok' : Nat -> Prop} {w : World} {cs : List Value} {x : Want} (h : WantJ ok w cs x) (hs : ∀ b, b < w.heap.size -> ok b -> ok' b) : WantJ ok' w cs x := by
 obtain ⟨tv, iv, h1, h2, h3⟩ := h
 exact ⟨tv, iv, h1, h2.mono hs (by decide), h3.mono hs (by decide)⟩
theorem ChJ.chg {ok S : Nat -> Prop} {w w' : World} {cs : List Value} {c : Ch} (h : ChJ ok w cs c) (hc : Chg S w w') (hs : ∀ b, ok b -> ¬ S b) : ChJ ok w' cs c := by
 induction h with
 | mk hv hd hn _ hw hm hx ih => exact .mk (hv.chg hc hs) (hd.chg hc hs) hn ih (hw.chg hc hs) hm (fun n r x h1 h2 => (hx n r x h1 h2).chg hc hs)
theorem ChJ.mono {ok ok' : Nat -> Prop} {w : World} {cs : List Value} {c : Ch} (h : ChJ ok w cs c) (hs : ∀ b, b < w.heap.size -> ok b -> ok' b) : ChJ ok' w cs c := by
 induction h with
 | mk hv hd hn _ hw hm hx ih => exact .mk (hv.mono hs) (hd.mono hs (by decide)) hn ih (hw.mono hs (by decide)) hm (fun n r x h1 h2 => (hx n r x h1 h2).mono hs)
theorem ChJ.bel {ok : Nat -> Prop} {w : World} {cs : List Value} {c : Ch} (h : ChJ ok w cs c) : ChJ (okB ok w) w cs c := h.mono (fun b hb h => ⟨h, hb⟩)
theorem ChJ.one {ok : Nat -> Prop} {w : World} {cs : List Value} {c : Ch} (h : ChJ ok w cs c) : cs.length = 11 /\ cs.all (·.oneCell') = true := by
 cases h with
 | mk hv hd hn _ hw hm hx =>
  have h1 := hv.one
  have h2 := hd.one
  have h3 := hw.one
  refine ⟨rfl, ?_⟩
  simp only [cells7, List.all_cons, List.all_nil, Bool.and_true, Bool.and_eq_true] at h1
  simp only [cells11, List.all_cons, List.all_nil, Bool.and_true, Bool.and_eq_true]
  simp_all [Value.oneCell']
theorem hasDep_any {ok : Nat -> Prop} {w : World} {cs : List Value} {c : Ch} (h : ChJ ok w cs c) (key : K) : Calls Tryz.prog 54 #[.agg cs.toArray, .string key] w fun e w' => e = .returned (.bool (hasDep c.deps key)) /\ Chg No w w' := by
 cases h with
 | @mk name ver k b i f t kv lv dv wv vals drows wrows deps wants hv hd hn hh hw hm hx =>
  have HD := Hd (RowAt.mono (ok' := okB ok w) hd (fun b hb h => ⟨h, hb⟩) (by decide))
  have HH := Hd hh
  have HN := Hd hn
  have hd1 := hd.1
  obtain ⟨-, -, da, dc, rfl, -, -⟩ := hd
  unfold maxLen at hd1
  have hfacts : ∀ W, (w.alloc (.cells (cells11 name ver k b i f t kv lv (.slice da drows.length dc) wv).toArray 30)) = W ->
    Blk W w.heap.size (cells11 name ver k b i f t kv lv (.slice da drows.length dc) wv) 30 /\ Chg No w W := by
   rintro W rfl
   exact ⟨Blk.new _ _ _, (Chg.refl No w).alloc _⟩
  have HF := Hd hfacts
  clear hv hn hh hw hm hx hfacts
  go_enter Tryz.func54, Tryz.ntmps54
  unfold cells11
  go_upto_region 1 with fail
  generalize hgw : World.alloc _ _ = W
  obtain ⟨b0, c1⟩ := HF.out W hgw
  clear hgw HF
  have k9 : W.cell? ⟨w.heap.size, 9, none⟩ = some (.slice da drows.length dc) := b0.cell 9
  have HC1 := Hd c1
  clear b0 c1
  go_wp2_with fail
  clear k9
  go_loopw [10] (fun ct wr => ∃ n : Nat, ct = .int .i64 n /\ n ≤ drows.length /\ (∀ d ∈ deps.take n, d.name ≠ key) /\ Chg No w wr) (fun ct _ => drows.length - (intOf ct).toNat)
  case atStart => exact ⟨0, rfl, Nat.zero_le _, by simp, HC1.out⟩
  case round =>
   obtain ⟨n, rfl, hnl, hnot, hc⟩ := hrel
   have HC := Hd hc
   have HNOT := Hd hnot
   clear hc hnot
   by_cases hlt : n < drows.length
   ·obtain ⟨r, hr⟩ : ∃ r, drows[n]? = some r := ⟨_, List.getElem?_eq_getElem hlt⟩
    obtain ⟨d, hdd⟩ : ∃ d, deps[n]? = some d := ⟨_, List.getElem?_eq_getElem (by rw [← HN.out]; exact hlt)⟩
    obtain ⟨lb, lo, rfl, hlok, hlc⟩ := HD.out.at (i := n) (r := r) hr
    have hlc := hlc.chg HC.out id
    have hch := HH.out n r d hr hdd
    have ho := hch.one
    obtain ⟨rn, rv, rk, rb, ri, rf, rt, rkv, rlv, rdv, rwv, rfl, hname⟩ : ∃ rn rv rk rb ri rf rt rkv rlv rdv rwv, r = cells11 rn rv rk rb ri rf rt rkv rlv rdv rwv /\ d.name = rn := by
     cases hch; exact ⟨_, _, _, _, _, _, _, _, _, _, _, rfl, rfl⟩
    have hone := ho.2
    have HDD := Hd hdd
    have HNAME := Hd hname
    have h64 : (n : Int) < (drows.length : Int) := by omega
    clear hr hdd hlok hch ho hname
    go_upto_region 4 with (first | (with_reducible refine wpList_loadAgg rfl agg30 rfl rfl hlc rfl ?_) | (with_reducible refine wpList_storeNew rfl agg30 rfl rfl rfl rfl rfl hone ?_))
    have kn : (wr.alloc (.cells (cells11 rn rv rk rb ri rf rt rkv rlv rdv rwv).toArray 30)).cell? ⟨wr.heap.size, 0, none⟩ = some (.string rn) := (Blk.new wr _ 30).cell 0
    by_cases hk : rn = key
    ·have hkb : (rn.toList == key.toList) = true := by rw [toList_beq]; simpa using hk
     have hall : hasDep deps key = true := List.any_eq_true.2 ⟨d, List.mem_of_getElem? HDD.out, by simpa [HNAME.out] using hk⟩
     have HALL := Hd hall
     clear hk hall
     go_wp2
     go_ret
     refine ⟨?_, HC.out.alloc _⟩
     show Ending.returned (.bool true) = _
     rw [show (Ch.mk name ver vals deps wants).deps = deps from rfl, HALL.out]
    ·have hkb : (rn.toList == key.toList) = false := by rw [toList_beq]; simpa using hk
     have HK := Hd hk
     clear hk
     go_wp2_with fail
     go_roundw
     case rel =>
      refine ⟨n + 1, by go_num, by omega, fun x hx => ?_, HC.out.alloc _⟩
      rw [List.take_add_one, HDD.out] at hx
      rcases List.mem_append.1 hx with hx | hx
      ·exact HNOT.out x hx
      ·have : x = d := by simpa using hx
       subst this; rw [HNAME.out]; exact HK.out
     case measure => simp [intOf]; omega
   ·have hall : hasDep deps key = false := by
     have h := HNOT.out
     rw [List.take_of_length_le (by rw [← HN.out]; omega)] at h
     exact List.any_eq_false.2 (fun d hd => by simpa using h d hd)
    have HALL := Hd hall
    have h64 : ¬ (n : Int) < (drows.length : Int) := by omega
    clear hall
    go_wp2
    go_ret
    refine ⟨?_, HC.out⟩
    rw [show (Ch.mk name ver vals deps wants).deps = deps from rfl, HALL.out]
    rfl
end Go.Proofs.YtljaoopfomcaoaaGreatDoor
namespace Go.Proofs.YtljaoopfomcaoaaGreatDoor
def kSm (k : K) : Prop := k.size ≤ 1048576
theorem kSm.ok {k : K} (h : kSm k) : kOk k := by unfold kSm at h; unfold kOk; omega
def tK : K := ⟨#[116, 97, 103, 115]⟩
structure PlainS (s : K) : Prop where
 pos : s ≠ ByteArray.empty
 le : s.size ≤ 12
 notG : s ≠ gK
 notT : s ≠ tK
 low : ∀ (i : Nat) (h : i < s.size), 97 ≤ s[i].toNat /\ s[i].toNat ≤ 122
structure OkPart (x : K) : Prop where
 dig : ∀ (i : Nat) (h : i < x.size), 48 ≤ x[i].toNat /\ x[i].toNat ≤ 57
 pos : 0 < x.size
 le : x.size ≤ 9
 lead : ∀ (h : 1 < x.size), x[0].toNat ≠ 48
def Ver (s : K) : Prop := (parts s 46).length = 3 /\ ∀ x ∈ parts s 46, OkPart x
def named (x : Want) : K := if x.alias_ ≠ ByteArray.empty then x.alias_ else x.name
def apartW (a b : Want) : Prop := a.name ≠ b.name /\ named a ≠ named b /\ a.name ≠ named b /\ named a ≠ b.name
structure WSm (x : Want) : Prop where
 name : kSm x.name
 ver : kSm x.version
 cond : kSm x.condition
 ali : kSm x.alias_
 tags : x.tags.length ≤ 1048576 /\ ∀ t ∈ x.tags, kSm t
 imps : x.imports.length ≤ 1048576 /\ ∀ i ∈ x.imports, kSm i.plain /\ kSm i.child /\ kSm i.parent
structure WantR (x : Want) : Prop where
 sm : WSm x
 imps : x.imports.length ≤ 20
 name : PlainS x.name
 ver : Ver x.version
 ali : x.alias_ = ByteArray.empty ∨ PlainS x.alias_
def ChR : Nat -> Ch -> Prop
 | 0, _ => False
 | L + 1, c => (Wf 400 50 c.vals /\ sz c.vals ≤ 400 /\ (c.vals = .null ∨ isT c.vals = true)) /\ PlainS c.name /\ (Ver c.version /\ kSm c.version) /\ c.deps.length ≤ 20 /\ (c.deps.map Ch.name).Nodup /\ (∀ d ∈ c.deps, ChR L d) /\
   c.wants.length ≤ 40 /\ (∀ x ∈ c.wants, WantR x) /\ c.wants.Pairwise apartW /\ ∀ x ∈ c.wants, ∀ d ∈ c.deps, x.alias_ ≠ d.name
mutual
def cnt : Ch -> Nat
 | .mk _ _ _ deps wants => 1 + cntL deps + wants.length
def cntL : List Ch -> Nat
 | [] => 0
 | d :: r => cnt d + cntL r
end
theorem cntL_append (a b : List Ch) : cntL (a ++ b) = cntL a + cntL b := by
 induction a with
 | nil => simp [cntL]
 | cons x r ih => simp [cntL, ih]; omega
theorem partsGo_first (s : K) (c : Nat) : ∀ (m i b : Nat), i + m = s.size -> ∃ e, i ≤ e /\ e ≤ s.size /\ cutAt s c e = true /\ (∀ j, i ≤ j -> j < e -> cutAt s c j = false) /\
  partsGo s c (s.size + 1 - i) i b = s.extract b e :: partsGo s c (s.size - e) (e + 1) (e + 1)
 | 0, i, b, h => by
  have hi : i = s.size := by omega
  subst hi
  have hc : cutAt s c s.size = true := by unfold cutAt; rw [dif_neg (Nat.lt_irrefl _)]
  refine ⟨s.size, Nat.le_refl _, Nat.le_refl _, hc, fun j h1 h2 => by omega, ?_⟩
  rw [show s.size + 1 - s.size = 0 + 1 by omega, partsGo, if_pos hc, Nat.sub_self]
 | m + 1, i, b, h => by
  cases hc : cutAt s c i with
  | true =>
   refine ⟨i, Nat.le_refl _, by omega, hc, fun j h1 h2 => by omega, ?_⟩
   rw [show s.size + 1 - i = (s.size - i) + 1 by omega, partsGo, if_pos hc]
  | false =>
   obtain ⟨e, h1, h2, h3, h4, h5⟩ := partsGo_first s c m (i + 1) b (by omega)
   refine ⟨e, by omega, h2, h3, fun j hj1 hj2 => ?_, ?_⟩
   ·by_cases hj : j = i
    ·subst hj; exact hc
    ·exact h4 j (by omega) hj2
   ·rw [show s.size + 1 - i = (s.size - i) + 1 by omega, partsGo, if_neg (by rw [hc]; decide), show s.size - i = s.size + 1 - (i + 1) by omega]
    exact h5
theorem extract_size (s : K) {b e : Nat} (he : e ≤ s.size) : (s.extract b e).size = e - b := by
 rw [ByteArray.size_extract]; omega
theorem extract_get (s : K) {b e i : Nat} (he : e ≤ s.size) (h : i < (s.extract b e).size) (h' : b + i < s.size) : (s.extract b e)[i] = s[b + i] := by
 rw [ByteArray.getElem_extract]
structure PV (s : K) (i n b : Nat) : Prop where
 le : i ≤ s.size
 bi : b ≤ i
 acc : ∃ acc : List K, acc.length = n /\ acc ++ partsGo s 46 (s.size + 1 - i) i b = parts s 46
 non : ∀ j (h : j < s.size), b ≤ j -> j < i -> s[j].toNat ≠ 46
theorem PV.start (s : K) : PV s 0 0 0 := ⟨Nat.zero_le _, Nat.le_refl _, ⟨[], rfl, rfl⟩, fun j h h1 h2 => by omega⟩
theorem PV.part {s : K} {i n b : Nat} (h : PV s i n b) (hv : Ver s) : ∃ e, i ≤ e /\ e ≤ s.size /\ cutAt s 46 e = true /\ (∀ j, i ≤ j -> j < e -> cutAt s 46 j = false) /\ OkPart (s.extract b e) /\
  (∃ acc : List K, acc.length = n /\ (acc ++ [s.extract b e]) ++ partsGo s 46 (s.size - e) (e + 1) (e + 1) = parts s 46) := by
 obtain ⟨e, h1, h2, h3, h4, h5⟩ := partsGo_first s 46 (s.size - i) i b (by have := h.le; omega)
 obtain ⟨acc, ha, hp⟩ := h.acc
 rw [h5] at hp
 refine ⟨e, h1, h2, h3, h4, hv.2 _ (by rw [← hp]; simp), acc, ha, ?_⟩
 rw [← hp]; simp
theorem cutAt_lt {s : K} {c i : Nat} (h : i < s.size) : cutAt s c i = decide (s[i].toNat = c) := by
 unfold cutAt; rw [dif_pos h]; rfl
theorem PV.digit {s : K} {i n b : Nat} (h : PV s i n b) (hv : Ver s) (hi : i < s.size) (hd : s[i].toNat ≠ 46) : (48 ≤ s[i].toNat /\ s[i].toNat ≤ 57) /\ i - b ≤ 8 /\ (b < i -> ∀ (hb : b < s.size), s[b].toNat ≠ 48) /\ PV s (i + 1) n b := by
 obtain ⟨e, h1, h2, h3, h4, hok, -⟩ := h.part hv
 have hne : i ≠ e := by
  intro e1; subst e1; rw [cutAt_lt hi] at h3; exact hd (of_decide_eq_true h3)
 have hbi := h.bi
 have hs : (s.extract b e).size = e - b := extract_size s h2
 refine ⟨?_, ?_, ?_, ?_⟩
 ·have h6 := hok.dig (i - b) (by omega)
  rw [extract_get s h2 (by omega) (by omega)] at h6
  simp only [show b + (i - b) = i by omega] at h6
  exact h6
 ·have := hok.le; omega
 ·intro hlt hb
  have h6 := hok.lead (by omega)
  rw [extract_get s h2 (by omega) (by omega)] at h6
  exact h6
 ·obtain ⟨acc, ha, hp⟩ := h.acc
  refine ⟨hi, by omega, ⟨acc, ha, ?_⟩, fun j hj hj1 hj2 => ?_⟩
  ·rw [← hp, partsGo_on (by omega) (by rw [cutAt_lt hi]; exact decide_eq_false hd)]
  ·by_cases hji : j = i
   ·subst hji; exact hd
   ·exact h.non j hj hj1 (by omega)
theorem PV.point {s : K} {i n b : Nat} (h : PV s i n b) (hv : Ver s) (hi : i < s.size) (hd : s[i].toNat = 46) : b < i /\ PV s (i + 1) (n + 1) (i + 1) := by
 obtain ⟨e, h1, h2, h3, h4, hok, acc, ha, hp⟩ := h.part hv
 have hc : cutAt s 46 i = true := by rw [cutAt_lt hi]; exact decide_eq_true hd
 have he : i = e := by
  by_cases e1 : i = e
  ·exact e1
  ·have := h4 i (Nat.le_refl _) (by omega); rw [hc] at this; cases this
 subst he
 have hs := extract_size s (b := b) h2
 have := hok.pos
 refine ⟨by omega, hi, Nat.le_refl _, ⟨acc ++ [s.extract b i], by simp [ha], ?_⟩, fun j _ h1 h2 => by omega⟩
 rw [← hp, show s.size + 1 - (i + 1) = s.size - i by omega]
theorem PV.done {s : K} {n b : Nat} (h : PV s s.size n b) (hv : Ver s) : n = 2 /\ b < s.size := by
 obtain ⟨e, h1, h2, h3, h4, hok, acc, ha, hp⟩ := h.part hv
 have he : e = s.size := by omega
 subst he
 have hs := extract_size s (b := b) h2
 have := hok.pos
 have hl := hv.1
 rw [← hp, Nat.sub_self, partsGo] at hl
 simp at hl
 exact ⟨by omega, by omega⟩
end Go.Proofs.YtljaoopfomcaoaaGreatDoor
namespace Go.Proofs.YtljaoopfomcaoaaGreatDoor
open Go.RowKit
theorem same_any (N : Nat) (hN : N < 1099511627776) (d : Nat) : ∀ (ok : Nat -> Prop) (j : J) (ca cb : List Value) (w : World), ValJ ok w ca j -> ValJ ok w cb j -> Wf N d j ->
  Calls Tryz.prog 19 #[.agg ca.toArray, .agg cb.toArray] w fun e w' => e = .returned (.bool true) /\ Chg No w w' := by
 induction d with
 | zero => intro ok j ca cb w _ _ h; exact h.elim
 | succ d ih =>
  intro ok j ca cb w ha hb wf
  have WF := Hd wf
  have IH := Hd ih
  have HA := Hd ha
  have HB := Hd hb
  clear wf ih
  have facts : ∀ (k : Int) (b : Bool) (i : Int) (f : Nat) (t : K) (kv lv : Value) (b' : Bool) (i' : Int) (f' : Nat) (t' : K) (kv' lv' : Value) (W : World), ((w.alloc (.cells (cells7 k b i f t kv lv).toArray 26)).alloc (.cells (cells7 k b' i' f' t' kv' lv').toArray 26)) = W ->
    Blk W w.heap.size (cells7 k b i f t kv lv) 26 /\ Blk W (w.heap.size + 1) (cells7 k b' i' f' t' kv' lv') 26 /\ Chg No w W := by
   rintro k b i f t kv lv b' i' f' t' kv' lv' W rfl
   exact ⟨(Blk.new _ _ _).alloc _, Blk.newAt (by simp) _ _, ((Chg.refl No w).alloc _).alloc _⟩
  cases ha with
  | @null b i f t kv lv hk hl =>
   cases hb with
   | @null b' i' f' t' kv' lv' hk' hl' =>
    obtain ⟨-, -, la, lc, rfl, -, -⟩ := hl
    obtain ⟨-, -, ma, mc, rfl, -, -⟩ := hl'
    have HF := Hd (facts (0) (b) i f t kv (.slice la 0 lc) (b') i' f' t' kv' (.slice ma 0 mc))
    simp only [List.length_nil]
    clear hk hk' facts
    go_enter Tryz.func19, Tryz.ntmps19
    unfold cells7
    go_upto_region 1 with fail
    generalize hgw : World.alloc _ _ = W
    obtain ⟨b0, b1, c2⟩ := HF.out W hgw
    clear hgw HF
    have HB0 := Hd b0
    have HB1 := Hd b1
    have HC2 := Hd c2
    have k0 : W.cell? ⟨w.heap.size, 0, none⟩ = some (.int .i64 0) := b0.cell 0
    have k6 : W.cell? ⟨w.heap.size, 6, none⟩ = some (.slice la 0 lc) := b0.cell 6
    have q0 : W.cell? ⟨w.heap.size + 1, 0, none⟩ = some (.int .i64 0) := b1.cell 0
    have q6 : W.cell? ⟨w.heap.size + 1, 6, none⟩ = some (.slice ma 0 mc) := b1.cell 6
    clear b0 b1 c2
    go_wp2
    refine wp_loop_rounds 1 ?_
    rw [rounds_succ]
    go_wp2
    go_ret
    exact ⟨rfl, HC2.out⟩
  | @bool b1 i f t kv lv hk hl =>
   cases hb with
   | @bool _ i' f' t' kv' lv' hk' hl' =>
    obtain ⟨-, -, la, lc, rfl, -, -⟩ := hl
    obtain ⟨-, -, ma, mc, rfl, -, -⟩ := hl'
    have HF := Hd (facts (1) (b1) i f t kv (.slice la 0 lc) (b1) i' f' t' kv' (.slice ma 0 mc))
    simp only [List.length_nil]
    clear hk hk' facts
    go_enter Tryz.func19, Tryz.ntmps19
    unfold cells7
    go_upto_region 1 with fail
    generalize hgw : World.alloc _ _ = W
    obtain ⟨b0, b1, c2⟩ := HF.out W hgw
    clear hgw HF
    have HB0 := Hd b0
    have HB1 := Hd b1
    have HC2 := Hd c2
    have k0 : W.cell? ⟨w.heap.size, 0, none⟩ = some (.int .i64 1) := b0.cell 0
    have k6 : W.cell? ⟨w.heap.size, 6, none⟩ = some (.slice la 0 lc) := b0.cell 6
    have q0 : W.cell? ⟨w.heap.size + 1, 0, none⟩ = some (.int .i64 1) := b1.cell 0
    have q6 : W.cell? ⟨w.heap.size + 1, 6, none⟩ = some (.slice ma 0 mc) := b1.cell 6
    have k1 := b0.cell 1
    have q1 := b1.cell 1
    simp only [cells7, List.getElem?_cons_succ, List.getElem?_cons_zero] at k1 q1
    clear b0 b1 c2
    go_wp2
    go_ret
    exact ⟨rfl, HC2.out⟩
  | @int b i1 f t kv lv hk hl =>
   cases hb with
   | @int b' _ f' t' kv' lv' hk' hl' =>
    obtain ⟨-, -, la, lc, rfl, -, -⟩ := hl
    obtain ⟨-, -, ma, mc, rfl, -, -⟩ := hl'
    have HF := Hd (facts (2) (b) i1 f t kv (.slice la 0 lc) (b') i1 f' t' kv' (.slice ma 0 mc))
    simp only [List.length_nil]
    clear hk hk' facts
    go_enter Tryz.func19, Tryz.ntmps19
    unfold cells7
    go_upto_region 1 with fail
    generalize hgw : World.alloc _ _ = W
    obtain ⟨b0, b1, c2⟩ := HF.out W hgw
    clear hgw HF
    have HB0 := Hd b0
    have HB1 := Hd b1
    have HC2 := Hd c2
    have k0 : W.cell? ⟨w.heap.size, 0, none⟩ = some (.int .i64 2) := b0.cell 0
    have k6 : W.cell? ⟨w.heap.size, 6, none⟩ = some (.slice la 0 lc) := b0.cell 6
    have q0 : W.cell? ⟨w.heap.size + 1, 0, none⟩ = some (.int .i64 2) := b1.cell 0
    have q6 : W.cell? ⟨w.heap.size + 1, 6, none⟩ = some (.slice ma 0 mc) := b1.cell 6
    have k2 := b0.cell 2
    have q2 := b1.cell 2
    simp only [cells7, List.getElem?_cons_succ, List.getElem?_cons_zero] at k2 q2
    clear b0 b1 c2
    go_wp2
    go_ret
    exact ⟨rfl, HC2.out⟩
  | @float b i f1 t kv lv hk hl =>
   cases hb with
   | @float b' i' _ t' kv' lv' hk' hl' =>
    obtain ⟨-, -, la, lc, rfl, -, -⟩ := hl
    obtain ⟨-, -, ma, mc, rfl, -, -⟩ := hl'
    have HF := Hd (facts (4) (b) i f1 t kv (.slice la 0 lc) (b') i' f1 t' kv' (.slice ma 0 mc))
    simp only [List.length_nil]
    clear hk hk' facts
    go_enter Tryz.func19, Tryz.ntmps19
    unfold cells7
    go_upto_region 1 with fail
    generalize hgw : World.alloc _ _ = W
    obtain ⟨b0, b1, c2⟩ := HF.out W hgw
    clear hgw HF
    have HB0 := Hd b0
    have HB1 := Hd b1
    have HC2 := Hd c2
    have k0 : W.cell? ⟨w.heap.size, 0, none⟩ = some (.int .i64 4) := b0.cell 0
    have k6 : W.cell? ⟨w.heap.size, 6, none⟩ = some (.slice la 0 lc) := b0.cell 6
    have q0 : W.cell? ⟨w.heap.size + 1, 0, none⟩ = some (.int .i64 4) := b1.cell 0
    have q6 : W.cell? ⟨w.heap.size + 1, 6, none⟩ = some (.slice ma 0 mc) := b1.cell 6
    have k3 := b0.cell 3
    have q3 := b1.cell 3
    simp only [cells7, List.getElem?_cons_succ, List.getElem?_cons_zero] at k3 q3
    have hfin : (FloatKind.f64.format.order f1 f1 == some .eq) = true := WF.out
    clear b0 b1 c2
    go_wp2
    go_ret
    exact ⟨rfl, HC2.out⟩
  | @text b i f t1 kv lv hk hl =>
   cases hb with
   | @text b' i' f' _ kv' lv' hk' hl' =>
    obtain ⟨-, -, la, lc, rfl, -, -⟩ := hl
    obtain ⟨-, -, ma, mc, rfl, -, -⟩ := hl'
    have HF := Hd (facts (5) (b) i f t1 kv (.slice la 0 lc) (b') i' f' t1 kv' (.slice ma 0 mc))
    simp only [List.length_nil]
    clear hk hk' facts
    go_enter Tryz.func19, Tryz.ntmps19
    unfold cells7
    go_upto_region 1 with fail
    generalize hgw : World.alloc _ _ = W
    obtain ⟨b0, b1, c2⟩ := HF.out W hgw
    clear hgw HF
    have HB0 := Hd b0
    have HB1 := Hd b1
    have HC2 := Hd c2
    have k0 : W.cell? ⟨w.heap.size, 0, none⟩ = some (.int .i64 5) := b0.cell 0
    have k6 : W.cell? ⟨w.heap.size, 6, none⟩ = some (.slice la 0 lc) := b0.cell 6
    have q0 : W.cell? ⟨w.heap.size + 1, 0, none⟩ = some (.int .i64 5) := b1.cell 0
    have q6 : W.cell? ⟨w.heap.size + 1, 6, none⟩ = some (.slice ma 0 mc) := b1.cell 6
    have k4 := b0.cell 4
    have q4 := b1.cell 4
    simp only [cells7, List.getElem?_cons_succ, List.getElem?_cons_zero] at k4 q4
    clear b0 b1 c2
    go_wp2
    go_ret
    exact ⟨rfl, HC2.out⟩
  | @list b i f t kv lv rows xs hk hl hn hr =>
   cases hb with
   | @list b' i' f' t' kv' lv' rows' _ hk' hl' hn' hr' =>
    have HRA := Hd hl
    have HRB := Hd hl'
    have hl1 := hl.1
    obtain ⟨-, -, la, lc, rfl, -, -⟩ := hl
    obtain ⟨-, -, ma, mc, rfl, -, -⟩ := hl'
    rw [hn] at HRA hl1
    rw [hn'] at HRB
    rw [hn, hn']
    unfold maxLen at hl1
    have HF := Hd (facts 6 b i f t kv (.slice la xs.length lc) b' i' f' t' kv' (.slice ma xs.length mc))
    have HNA := Hd hn
    have HNB := Hd hn'
    have HEA := Hd hr
    have HEB := Hd hr'
    have WX := Hd WF.out.2
    clear hk hk' facts hn hn' hr hr'
    go_enter Tryz.func19, Tryz.ntmps19
    unfold cells7
    go_upto_region 1 with fail
    generalize hgw : World.alloc _ _ = W
    obtain ⟨b0, b1, c2⟩ := HF.out W hgw
    clear hgw HF
    have HB0 := Hd b0
    have HB1 := Hd b1
    have HC2 := Hd c2
    have k0 : W.cell? ⟨w.heap.size, 0, none⟩ = some (.int .i64 6) := b0.cell 0
    have k6 : W.cell? ⟨w.heap.size, 6, none⟩ = some (.slice la xs.length lc) := b0.cell 6
    have q0 : W.cell? ⟨w.heap.size + 1, 0, none⟩ = some (.int .i64 6) := b1.cell 0
    have q6 : W.cell? ⟨w.heap.size + 1, 6, none⟩ = some (.slice ma xs.length mc) := b1.cell 6
    clear b0 b1 c2
    go_wp2_with fail
    clear k0 k6 q0 q6
    go_loopw [7] (fun ct wr => ∃ n : Nat, n ≤ xs.length /\ ct = .int .i64 n /\ Chg No W wr) (fun ct _ => xs.length - (intOf ct).toNat)
    case atStart => exact ⟨0, Nat.zero_le _, rfl, Chg.refl _ _⟩
    case round =>
     obtain ⟨n, hn, rfl, hcr⟩ := hrel
     have HCR := Hd hcr
     have k0 := (HB0.out.chg hcr id).cell 0
     have k6 := (HB0.out.chg hcr id).cell 6
     simp only [cells7, List.getElem?_cons_succ, List.getElem?_cons_zero] at k0 k6
     clear hcr
     by_cases hlt : n < xs.length
     ·obtain ⟨x, hx⟩ : ∃ x, xs[n]? = some x := ⟨_, List.getElem?_eq_getElem hlt⟩
      obtain ⟨ra, hra⟩ : ∃ r, rows[n]? = some r := ⟨_, List.getElem?_eq_getElem (by rw [HNA.out]; exact hlt)⟩
      obtain ⟨rb, hrb⟩ : ∃ r, rows'[n]? = some r := ⟨_, List.getElem?_eq_getElem (by rw [HNB.out]; exact hlt)⟩
      obtain ⟨lb, lo, rfl, -, hla⟩ := HRA.out.at (i := n) (r := ra) hra
      obtain ⟨mb, mo, rfl, -, hlb⟩ := HRB.out.at (i := n) (r := rb) hrb
      have HLA := Hd hla
      have HLB := Hd hlb
      have HVA := Hd (HEA.out n ra x hra hx)
      have HVB := Hd (HEB.out n rb x hrb hx)
      have HX := Hd hx
      have h64 : (n : Int) < (xs.length : Int) := by omega
      clear hla hlb hra hrb hx
      go_upto_region 24 with fail
      clear k0 k6
      refine wp_region_inv (FI [.eq (.pointer (some ⟨w.heap.size, 6, none⟩)), .eq (.slice (some ⟨lb, lo, none⟩) xs.length lc), .eq (.int .i64 n), .eq (.pointer (some ⟨lb, lo + n * 7, none⟩)), .eq (.agg ra.toArray), .eq (.pointer (some ⟨w.heap.size + 1, 6, none⟩)), .eq (.slice (some ⟨mb, mo, none⟩) xs.length mc), .eq (.int .i64 n), .eq (.pointer (some ⟨mb, mo + n * 7, none⟩)), .eq (.agg rb.toArray), .eq (.bool true), .eq (.bool false)])
       (fun _ w' => Chg No wr w') (by kernel_rfl) (by kernel_rfl) ((Chg.refl No wr).drew) ?_ ?_
      ·refine ⟨?_, ?_, ?_, ?_, ?_, ?_, ?_, ?_, ?_, ?_, ?_, ?_, trivial⟩
       ·intro done a w1 K hd qd qe qf qb hG hK
        have e2 : a.tmps[2]?.getD undef = .pointer (some ⟨w.heap.size, 0, none⟩) := qf 2 rfl
        clear qd qe qf qb
        go_simp
        exact hK _ _ rfl hG (fun _ _ _ _ h => h)
       ·intro done a w1 K hd qd qe qf qb hG hK
        have e94 : a.tmps[94]?.getD undef = .pointer (some ⟨w.heap.size, 6, none⟩) := qe 0 94 rfl (qb 0 rfl)
        have c6 : w1.cell? ⟨w.heap.size, 6, none⟩ = some (.slice (some ⟨lb, lo, none⟩) xs.length lc) := ((HB0.out.chg HCR.out id).chg hG id).cell 6
        clear qd qe qf qb
        go_simp
        exact hK _ _ rfl hG (fun _ _ _ _ h => h)
       ·intro done a w1 K hd qd qe qf qb hG hK
        have e7 : a.tmps[7]?.getD undef = .int .i64 (n : Int) := qf 7 rfl
        clear qd qe qf qb
        go_simp
        exact hK _ _ rfl hG (fun _ _ _ _ h => h)
       ·intro done a w1 K hd qd qe qf qb hG hK
        have e95 : a.tmps[95]?.getD undef = .slice (some ⟨lb, lo, none⟩) xs.length lc := qe 1 95 rfl (qb 1 rfl)
        have e96 : a.tmps[96]?.getD undef = .int .i64 (n : Int) := qe 2 96 rfl (qb 2 rfl)
        clear qd qe qf qb
        go_simp
        exact hK _ _ rfl hG (fun _ _ _ _ h => h)
       ·intro done a w1 K hd qd qe qf qb hG hK
        have e97 : a.tmps[97]?.getD undef = .pointer (some ⟨lb, lo + n * 7, none⟩) := qe 3 97 rfl (qb 3 rfl)
        refine if_wanted rfl ?_
        refine wp_loadAgg agg26 rfl (by simpa [Act.eval] using e97) (((HLA.out.chg HC2.out id).chg HCR.out id).chg hG id) HVA.out.length ?_
        exact hK _ _ rfl hG (fun _ _ _ _ h => h)
       ·intro done a w1 K hd qd qe qf qb hG hK
        have e3 : a.tmps[3]?.getD undef = .pointer (some ⟨w.heap.size + 1, 0, none⟩) := qf 3 rfl
        clear qd qe qf qb
        go_simp
        exact hK _ _ rfl hG (fun _ _ _ _ h => h)
       ·intro done a w1 K hd qd qe qf qb hG hK
        have e99 : a.tmps[99]?.getD undef = .pointer (some ⟨w.heap.size + 1, 6, none⟩) := qe 5 99 rfl (qb 5 rfl)
        have c6 : w1.cell? ⟨w.heap.size + 1, 6, none⟩ = some (.slice (some ⟨mb, mo, none⟩) xs.length mc) := ((HB1.out.chg HCR.out id).chg hG id).cell 6
        clear qd qe qf qb
        go_simp
        exact hK _ _ rfl hG (fun _ _ _ _ h => h)
       ·intro done a w1 K hd qd qe qf qb hG hK
        have e7 : a.tmps[7]?.getD undef = .int .i64 (n : Int) := qf 7 rfl
        clear qd qe qf qb
        go_simp
        exact hK _ _ rfl hG (fun _ _ _ _ h => h)
       ·intro done a w1 K hd qd qe qf qb hG hK
        have e100 : a.tmps[100]?.getD undef = .slice (some ⟨mb, mo, none⟩) xs.length mc := qe 6 100 rfl (qb 6 rfl)
        have e101 : a.tmps[101]?.getD undef = .int .i64 (n : Int) := qe 7 101 rfl (qb 7 rfl)
        clear qd qe qf qb
        go_simp
        exact hK _ _ rfl hG (fun _ _ _ _ h => h)
       ·intro done a w1 K hd qd qe qf qb hG hK
        have e102 : a.tmps[102]?.getD undef = .pointer (some ⟨mb, mo + n * 7, none⟩) := qe 8 102 rfl (qb 8 rfl)
        refine if_wanted rfl ?_
        refine wp_loadAgg agg26 rfl (by simpa [Act.eval] using e102) (((HLB.out.chg HC2.out id).chg HCR.out id).chg hG id) HVB.out.length ?_
        exact hK _ _ rfl hG (fun _ _ _ _ h => h)
       ·intro done a w1 K hd qd qe qf qb hG hK
        have e98 : a.tmps[98]?.getD undef = .agg ra.toArray := qe 4 98 rfl (qb 4 rfl)
        have e103 : a.tmps[103]?.getD undef = .agg rb.toArray := qe 9 103 rfl (qb 9 rfl)
        refine if_wanted rfl ?_
        have hcall := IH.out (okB ok w) x ra rb w1 (HVA.out.bel.chg ((HC2.out.trans' HCR.out).trans' hG) (fun _ _ e => e)) (HVB.out.bel.chg ((HC2.out.trans' HCR.out).trans' hG) (fun _ _ e => e)) (WX.out x (List.mem_of_getElem? HX.out))
        refine wp_callV Tryz.call19 rfl (by simpa [Act.eval] using e98) (by simpa [Act.eval] using e103) hcall ?_
        rintro e w2 ⟨rfl, hc2⟩
        exact ⟨_, rfl, hK _ _ rfl (hG.trans' hc2) (fun _ _ _ _ h => h.keepNo hc2)⟩
       ·intro done a w1 K hd qd qe qf qb hG hK
        have e104 : a.tmps[104]?.getD undef = .bool true := qe 10 104 rfl (qb 10 rfl)
        clear qd qe qf qb
        go_simp
        exact hK _ _ rfl hG (fun _ _ _ _ h => h)
      ·intro vs w2 hvs _ hG
       have e105 : vs 11 = .bool false := hvs 11 _ rfl (by decide)
       have HCW := Hd (HCR.out.trans' hG)
       clear hG hvs
       simp only [putAll, Act.put, List.setIfInBounds_toArray, List.set_cons_succ, List.set_cons_zero, e105]
       go_wp2_with fail
       go_roundw
       case rel => exact ⟨n + 1, by omega, by go_num, HCW.out⟩
       case measure => simp [intOf]; omega
     ·have h64 : ¬ (n : Int) < (xs.length : Int) := by omega
      go_wp2
      go_ret
      exact ⟨rfl, HC2.out.trans' HCR.out⟩
  | @table b i f t kv lv rows kvs hk hl hn hr =>
   cases hb with
   | @table b' i' f' t' kv' lv' rows' _ hk' hl' hn' hr' =>
    have HRA := Hd hl
    have HRB := Hd hl'
    have HKA := Hd hk
    have HKB := Hd hk'
    have hl1 := hl.1
    have hk1 := hk.1
    obtain ⟨-, -, la, lc, rfl, -, -⟩ := hl
    obtain ⟨-, -, ma, mc, rfl, -, -⟩ := hl'
    obtain ⟨-, -, ka, kc, rfl, -, -⟩ := hk
    obtain ⟨-, -, ja, jc, rfl, -, -⟩ := hk'
    obtain ⟨xs, hxs⟩ : ∃ xs : List J, xs = kvs.map (·.2) := ⟨_, rfl⟩
    have hxl : kvs.length = xs.length := by simp [hxs]
    rw [hn, hxl] at HRA hl1
    rw [hn', hxl] at HRB
    rw [hn, hn', hxl]
    simp only [List.length_map] at HKA HKB hk1 ⊢
    unfold maxLen at hl1 hk1
    have HF := Hd (facts 7 b i f t (.slice ka kvs.length kc) (.slice la xs.length lc) b' i' f' t' (.slice ja kvs.length jc) (.slice ma xs.length mc))
    have hmem : ∀ (n : Nat) (x : J), xs[n]? = some x -> ∃ p, kvs[n]? = some p /\ p.2 = x := fun n x h => by
     rw [hxs, List.getElem?_map] at h
     cases hp : kvs[n]? with
     | none => rw [hp] at h; cases h
     | some p => rw [hp] at h; exact ⟨p, rfl, Option.some.inj h⟩
    have HNA := Hd (hn.trans hxl)
    have HNB := Hd (hn'.trans hxl)
    have HEA := Hd (show ∀ (n : Nat) (r : List Value) (x : J), rows[n]? = some r -> xs[n]? = some x -> ValJ ok w r x from fun n r x h1 h2 => by
     obtain ⟨p, hp, rfl⟩ := hmem n x h2
     exact hr n r p h1 hp)
    have HEB := Hd (show ∀ (n : Nat) (r : List Value) (x : J), rows'[n]? = some r -> xs[n]? = some x -> ValJ ok w r x from fun n r x h1 h2 => by
     obtain ⟨p, hp, rfl⟩ := hmem n x h2
     exact hr' n r p h1 hp)
    have WX := Hd (show ∀ x ∈ xs, Wf N d x from fun x hx => by
     rw [hxs] at hx
     obtain ⟨p, hp, rfl⟩ := List.mem_map.1 hx
     exact (WF.out.2.2 p hp).2)
    clear facts hn hn' hr hr' hmem hxs hxl
    go_enter Tryz.func19, Tryz.ntmps19
    unfold cells7
    go_upto_region 1 with fail
    generalize hgw : World.alloc _ _ = W
    obtain ⟨b0, b1, c2⟩ := HF.out W hgw
    clear hgw HF
    have HB0 := Hd b0
    have HB1 := Hd b1
    have HC2 := Hd c2
    have k0 : W.cell? ⟨w.heap.size, 0, none⟩ = some (.int .i64 7) := b0.cell 0
    have k6 : W.cell? ⟨w.heap.size, 6, none⟩ = some (.slice la xs.length lc) := b0.cell 6
    have q0 : W.cell? ⟨w.heap.size + 1, 0, none⟩ = some (.int .i64 7) := b1.cell 0
    have q6 : W.cell? ⟨w.heap.size + 1, 6, none⟩ = some (.slice ma xs.length mc) := b1.cell 6
    have k5 := b0.cell 5
    have q5 := b1.cell 5
    simp only [cells7, List.getElem?_cons_succ, List.getElem?_cons_zero] at k5 q5
    clear b0 b1 c2
    go_wp2_with fail
    clear k0 k6 q0 q6 k5 q5
    go_loopw [69] (fun ct wr => ∃ n : Nat, n ≤ kvs.length /\ ct = .int .i64 n /\ Chg No W wr) (fun ct _ => kvs.length - (intOf ct).toNat)
    case atStart => exact ⟨0, Nat.zero_le _, rfl, Chg.refl _ _⟩
    case round =>
     obtain ⟨n, hn, rfl, hcr⟩ := hrel
     have HCR := Hd hcr
     have q5 := (HB1.out.chg hcr id).cell 5
     simp only [cells7, List.getElem?_cons_succ, List.getElem?_cons_zero] at q5
     by_cases hlt : n < kvs.length
     ·obtain ⟨p, hp⟩ : ∃ p, kvs[n]? = some p := ⟨_, List.getElem?_eq_getElem hlt⟩
      obtain ⟨kb, ko, rfl, -, hka⟩ := HKA.out.at (i := n) (r := [.string p.1]) (by simp [hp])
      obtain ⟨jb, jo, rfl, -, hkb⟩ := HKB.out.at (i := n) (r := [.string p.1]) (by simp [hp])
      have hka := ((hka.chg HC2.out id).chg hcr id).one
      have hkb := ((hkb.chg HC2.out id).chg hcr id).one
      simp only [Nat.mul_one] at hka hkb
      have h64 : (n : Int) < (kvs.length : Int) := Int.ofNat_lt.2 hlt
      clear hp hcr
      go_wp2_with fail
      go_roundw
      case rel => exact ⟨n + 1, by omega, by go_num, HCR.out⟩
      case measure => simp [intOf]; omega
     ·have h64 : ¬ (n : Int) < (kvs.length : Int) := fun h => hlt (Int.ofNat_lt.1 h)
      have k0 := (HB0.out.chg hcr id).cell 0
      simp only [cells7, List.getElem?_cons_succ, List.getElem?_cons_zero] at k0
      clear hcr
      go_wp2_with fail
      clear k0 q5
      go_loopw [7] (fun ct wr => ∃ n : Nat, n ≤ xs.length /\ ct = .int .i64 n /\ Chg No W wr) (fun ct _ => xs.length - (intOf ct).toNat)
      case atStart => exact ⟨0, Nat.zero_le _, rfl, HCR.out⟩
      case round =>
       obtain ⟨n, hn, rfl, hcr⟩ := hrel
       have HCR := Hd hcr
       have k0 := (HB0.out.chg hcr id).cell 0
       have k6 := (HB0.out.chg hcr id).cell 6
       simp only [cells7, List.getElem?_cons_succ, List.getElem?_cons_zero] at k0 k6
       clear hcr
       by_cases hlt : n < xs.length
       ·obtain ⟨x, hx⟩ : ∃ x, xs[n]? = some x := ⟨_, List.getElem?_eq_getElem hlt⟩
        obtain ⟨ra, hra⟩ : ∃ r, rows[n]? = some r := ⟨_, List.getElem?_eq_getElem (by rw [HNA.out]; exact hlt)⟩
        obtain ⟨rb, hrb⟩ : ∃ r, rows'[n]? = some r := ⟨_, List.getElem?_eq_getElem (by rw [HNB.out]; exact hlt)⟩
        obtain ⟨lb, lo, rfl, -, hla⟩ := HRA.out.at (i := n) (r := ra) hra
        obtain ⟨mb, mo, rfl, -, hlb⟩ := HRB.out.at (i := n) (r := rb) hrb
        have HLA := Hd hla
        have HLB := Hd hlb
        have HVA := Hd (HEA.out n ra x hra hx)
        have HVB := Hd (HEB.out n rb x hrb hx)
        have HX := Hd hx
        have h64 : (n : Int) < (xs.length : Int) := by omega
        clear hla hlb hra hrb hx
        go_upto_region 24 with fail
        clear k0 k6
        refine wp_region_inv (FI [.eq (.pointer (some ⟨w.heap.size, 6, none⟩)), .eq (.slice (some ⟨lb, lo, none⟩) xs.length lc), .eq (.int .i64 n), .eq (.pointer (some ⟨lb, lo + n * 7, none⟩)), .eq (.agg ra.toArray), .eq (.pointer (some ⟨w.heap.size + 1, 6, none⟩)), .eq (.slice (some ⟨mb, mo, none⟩) xs.length mc), .eq (.int .i64 n), .eq (.pointer (some ⟨mb, mo + n * 7, none⟩)), .eq (.agg rb.toArray), .eq (.bool true), .eq (.bool false)])
         (fun _ w' => Chg No wr w') (by kernel_rfl) (by kernel_rfl) ((Chg.refl No wr).drew) ?_ ?_
        ·refine ⟨?_, ?_, ?_, ?_, ?_, ?_, ?_, ?_, ?_, ?_, ?_, ?_, trivial⟩
         ·intro done a w1 K hd qd qe qf qb hG hK
          have e2 : a.tmps[2]?.getD undef = .pointer (some ⟨w.heap.size, 0, none⟩) := qf 2 rfl
          clear qd qe qf qb
          go_simp
          exact hK _ _ rfl hG (fun _ _ _ _ h => h)
         ·intro done a w1 K hd qd qe qf qb hG hK
          have e94 : a.tmps[94]?.getD undef = .pointer (some ⟨w.heap.size, 6, none⟩) := qe 0 94 rfl (qb 0 rfl)
          have c6 : w1.cell? ⟨w.heap.size, 6, none⟩ = some (.slice (some ⟨lb, lo, none⟩) xs.length lc) := ((HB0.out.chg HCR.out id).chg hG id).cell 6
          clear qd qe qf qb
          go_simp
          exact hK _ _ rfl hG (fun _ _ _ _ h => h)
         ·intro done a w1 K hd qd qe qf qb hG hK
          have e7 : a.tmps[7]?.getD undef = .int .i64 (n : Int) := qf 7 rfl
          clear qd qe qf qb
          go_simp
          exact hK _ _ rfl hG (fun _ _ _ _ h => h)
         ·intro done a w1 K hd qd qe qf qb hG hK
          have e95 : a.tmps[95]?.getD undef = .slice (some ⟨lb, lo, none⟩) xs.length lc := qe 1 95 rfl (qb 1 rfl)
          have e96 : a.tmps[96]?.getD undef = .int .i64 (n : Int) := qe 2 96 rfl (qb 2 rfl)
          clear qd qe qf qb
          go_simp
          exact hK _ _ rfl hG (fun _ _ _ _ h => h)
         ·intro done a w1 K hd qd qe qf qb hG hK
          have e97 : a.tmps[97]?.getD undef = .pointer (some ⟨lb, lo + n * 7, none⟩) := qe 3 97 rfl (qb 3 rfl)
          refine if_wanted rfl ?_
          refine wp_loadAgg agg26 rfl (by simpa [Act.eval] using e97) (((HLA.out.chg HC2.out id).chg HCR.out id).chg hG id) HVA.out.length ?_
          exact hK _ _ rfl hG (fun _ _ _ _ h => h)
         ·intro done a w1 K hd qd qe qf qb hG hK
          have e3 : a.tmps[3]?.getD undef = .pointer (some ⟨w.heap.size + 1, 0, none⟩) := qf 3 rfl
          clear qd qe qf qb
          go_simp
          exact hK _ _ rfl hG (fun _ _ _ _ h => h)
         ·intro done a w1 K hd qd qe qf qb hG hK
          have e99 : a.tmps[99]?.getD undef = .pointer (some ⟨w.heap.size + 1, 6, none⟩) := qe 5 99 rfl (qb 5 rfl)
          have c6 : w1.cell? ⟨w.heap.size + 1, 6, none⟩ = some (.slice (some ⟨mb, mo, none⟩) xs.length mc) := ((HB1.out.chg HCR.out id).chg hG id).cell 6
          clear qd qe qf qb
          go_simp
          exact hK _ _ rfl hG (fun _ _ _ _ h => h)
         ·intro done a w1 K hd qd qe qf qb hG hK
          have e7 : a.tmps[7]?.getD undef = .int .i64 (n : Int) := qf 7 rfl
          clear qd qe qf qb
          go_simp
          exact hK _ _ rfl hG (fun _ _ _ _ h => h)
         ·intro done a w1 K hd qd qe qf qb hG hK
          have e100 : a.tmps[100]?.getD undef = .slice (some ⟨mb, mo, none⟩) xs.length mc := qe 6 100 rfl (qb 6 rfl)
          have e101 : a.tmps[101]?.getD undef = .int .i64 (n : Int) := qe 7 101 rfl (qb 7 rfl)
          clear qd qe qf qb
          go_simp
          exact hK _ _ rfl hG (fun _ _ _ _ h => h)
         ·intro done a w1 K hd qd qe qf qb hG hK
          have e102 : a.tmps[102]?.getD undef = .pointer (some ⟨mb, mo + n * 7, none⟩) := qe 8 102 rfl (qb 8 rfl)
          refine if_wanted rfl ?_
          refine wp_loadAgg agg26 rfl (by simpa [Act.eval] using e102) (((HLB.out.chg HC2.out id).chg HCR.out id).chg hG id) HVB.out.length ?_
          exact hK _ _ rfl hG (fun _ _ _ _ h => h)
         ·intro done a w1 K hd qd qe qf qb hG hK
          have e98 : a.tmps[98]?.getD undef = .agg ra.toArray := qe 4 98 rfl (qb 4 rfl)
          have e103 : a.tmps[103]?.getD undef = .agg rb.toArray := qe 9 103 rfl (qb 9 rfl)
          refine if_wanted rfl ?_
          have hcall := IH.out (okB ok w) x ra rb w1 (HVA.out.bel.chg ((HC2.out.trans' HCR.out).trans' hG) (fun _ _ e => e)) (HVB.out.bel.chg ((HC2.out.trans' HCR.out).trans' hG) (fun _ _ e => e)) (WX.out x (List.mem_of_getElem? HX.out))
          refine wp_callV Tryz.call19 rfl (by simpa [Act.eval] using e98) (by simpa [Act.eval] using e103) hcall ?_
          rintro e w2 ⟨rfl, hc2⟩
          exact ⟨_, rfl, hK _ _ rfl (hG.trans' hc2) (fun _ _ _ _ h => h.keepNo hc2)⟩
         ·intro done a w1 K hd qd qe qf qb hG hK
          have e104 : a.tmps[104]?.getD undef = .bool true := qe 10 104 rfl (qb 10 rfl)
          clear qd qe qf qb
          go_simp
          exact hK _ _ rfl hG (fun _ _ _ _ h => h)
        ·intro vs w2 hvs _ hG
         have e105 : vs 11 = .bool false := hvs 11 _ rfl (by decide)
         have HCW := Hd (HCR.out.trans' hG)
         clear hG hvs
         simp only [putAll, Act.put, List.setIfInBounds_toArray, List.set_cons_succ, List.set_cons_zero, e105]
         go_wp2_with fail
         go_roundw
         case rel => exact ⟨n + 1, by omega, by go_num, HCW.out⟩
         case measure => simp [intOf]; omega
       ·have h64 : ¬ (n : Int) < (xs.length : Int) := by omega
        go_wp2
        go_ret
        exact ⟨rfl, HC2.out.trans' HCR.out⟩
structure VC (w : World) (xs : List J) (wr : World) (n : Nat) (v : Value) (rows : List (List Value)) : Prop where
 le : n ≤ xs.length
 own : OwnR wr w.heap.size 26 7 v rows
 len : rows.length = n
 val : ∀ (i : Nat) (r : List Value) (x : J), rows[i]? = some r -> xs[i]? = some x -> ValJ (okF w.heap.size v) wr r x
 chg : Chg No w wr
theorem VC.step {w : World} {xs : List J} {wr : World} {n : Nat} {v : Value} {rows : List (List Value)} (h : VC w xs wr n v rows) {x : J} (hx : xs[n]? = some x) {w3 w4 w6 : World} {cs : List Value} {v' : Value}
  (h3 : Chg No wr w3) (h4 : Chg No w3 w4) (hau : ValJ (fun y => w3.heap.size ≤ y) w4 cs x) (h6 : Chg (fun b => v.ownBlock = some b) (w4.alloc (.cells cs.toArray 26)) w6) (hown : OwnR w6 w.heap.size 26 7 v' (rows ++ [cs]))
  (hv : v'.ownBlock = v.ownBlock ∨ ∀ k, v'.ownBlock = some k -> (w4.alloc (.cells cs.toArray 26)).heap.size ≤ k) : VC w xs w6 (n + 1) v' (rows ++ [cs]) := by
 have hlt : n < xs.length := (List.getElem?_eq_some_iff.1 hx).1
 have hel : ∀ k, v.ownBlock = some k -> w.heap.size ≤ k /\ k < wr.heap.size := fun k hk => ⟨(h.own.elem hk).1, (h.own.elem hk).2.1⟩
 have c2 : Chg (fun b => v.ownBlock = some b) wr w6 := (((h3.trans' h4).mono (fun i _ e => e.elim)).alloc _).trans h6 (fun i _ e => e)
 have hs3 := h3.size
 have hs4 := h4.size
 refine ⟨hlt, hown, by simp [h.len], fun i r y hr hy => ?_, h.chg.trans c2 (fun i hi e => absurd (hel i e).1 (by omega))⟩
 have hmono : ∀ b, b < w4.heap.size -> v.ownBlock ≠ some b -> v'.ownBlock ≠ some b := fun b hb hne e => by
  rcases hv with hv | hv
  ·exact hne (hv ▸ e)
  ·have := hv b e; simp at this; omega
 by_cases hi : i < rows.length
 ·rw [List.getElem?_append_left hi] at hr
  have hk2 := (h.val i r y hr hy).mono (ok' := fun b => okF w.heap.size v b /\ b < wr.heap.size) (fun b hb hb2 => ⟨hb2, hb⟩)
  have hk3 := hk2.chg c2 (fun b hb e => hb.1.2 e)
  exact hk3.mono (fun b _ hb => ⟨hb.1.1, hmono b (by have := hb.2; omega) hb.1.2⟩)
 ·have hi2 : i = rows.length := by
   have := (List.getElem?_eq_some_iff.1 hr).1
   simp at this
   omega
  subst hi2
  rw [List.getElem?_append_right (Nat.le_refl _), Nat.sub_self] at hr
  cases hr
  rw [h.len, hx] at hy
  cases hy
  have hk2 := hau.mono (ok' := fun b => w3.heap.size ≤ b /\ b < w4.heap.size) (fun b hb hb2 => ⟨hb2, hb⟩)
  have hk3 := hk2.chg ((Chg.refl No w4).alloc (.cells cs.toArray 26)) (fun b hb e => e)
  have hk4 := hk3.chg h6 (fun b hb e => by have := (hel b e).2; have := hb.1; omega)
  refine hk4.mono (fun b _ hb => ⟨by have := h.chg.size; have := hb.1; omega, hmono b hb.2 (fun e => ?_)⟩)
  have := (hel b e).2
  have := hb.1
  omega
def CopyPost (w : World) (j : J) (e : Ending) (w' : World) : Prop :=
 ∃ cs : List Value, e = .returned (.agg cs.toArray) /\ ValJ (fun x => w.heap.size ≤ x) w' cs j /\ Chg No w w'
theorem moCopies_of (N d : Nat) (hN : N < 1099511627776) (IH0 : ∀ (ok : Nat -> Prop) (j : J) (cs : List Value) (w : World), ValJ ok w cs j -> Wf N d j -> Calls Tryz.prog 15 #[.agg cs.toArray] w (CopyPost w j))
  (ok : Nat -> Prop) (xs : List J) (lv : Value) (rows0 : List (List Value)) (w : World) (hl : RowAt ok w lv 7 rows0) (hn : rows0.length = xs.length) (hr : ∀ (n : Nat) (r : List Value) (x : J), rows0[n]? = some r -> xs[n]? = some x -> ValJ ok w r x)
  (hw : ∀ x ∈ xs, Wf N d x) (hx : xs.length ≤ N) : Calls Tryz.prog 25 #[lv] w fun e w' => ∃ v' rows', e = .returned v' /\ VC w xs w' xs.length v' rows' := by
 have HL := Hd hl
 have HN := Hd hn
 have HR := Hd hr
 have WX := Hd hw
 have IH := Hd IH0
 have HXN := Hd hx
 have hl1 := hl.1
 obtain ⟨-, -, la, lc, rfl, -, -⟩ := hl
 unfold maxLen at hl1
 rw [hn] at hl1 HL ⊢
 clear hn hr hw IH0 hx
 go_enter Tryz.func25, Tryz.ntmps25
 go_wp2_with fail
 go_loopw [3, 8] (fun v ct wr => ∃ (n : Nat) (rows : List (List Value)), ct = .int .i64 n /\ VC w xs wr n v rows) (fun _ ct _ => xs.length - (intOf ct).toNat)
 case atStart => exact ⟨0, [], rfl, Nat.zero_le _, OwnR.nil _ _ _ _, rfl, fun i r x h => by simp at h, Chg.refl _ _⟩
 case round =>
  obtain ⟨n, rows, rfl, hvc⟩ := hrel
  have HVC := Hd hvc
  clear hvc
  by_cases hlt : n < xs.length
  ·obtain ⟨x, hx⟩ : ∃ x, xs[n]? = some x := ⟨_, List.getElem?_eq_getElem hlt⟩
   obtain ⟨r, hr0⟩ : ∃ r, rows0[n]? = some r := ⟨_, List.getElem?_eq_getElem (by rw [HN.out]; exact hlt)⟩
   obtain ⟨lb, lo, rfl, -, hlc⟩ := HL.out.at (i := n) (r := r) hr0
   have HLC := hlc.chg HVC.out.chg id
   have HV2 := Hd (HR.out n r x hr0 hx)
   obtain ⟨rk, rb, ri, rf, rt, rkv, rlv, rfl⟩ := HV2.out.seven
   have h64 : (n : Int) < (xs.length : Int) := by omega
   have ho1 : (cells7 rk rb ri rf rt rkv rlv).all (·.oneCell') = true := HV2.out.one
   have HX := Hd hx
   clear hr0 hlc hx
   go_wp2_with (first | (with_reducible refine wpList_loadAgg rfl agg26 rfl rfl HLC rfl ?_) | (with_reducible refine wpList_storeNew rfl agg26 rfl rfl rfl rfl rfl ho1 ?_) | (with_reducible refine wpList_loadAgg rfl agg26 rfl rfl (Blk.new wr (cells7 rk rb ri rf rt rkv rlv) 26).cells rfl ?_))
   refine (IH.out (okB ok w) x (cells7 rk rb ri rf rt rkv rlv) (wr.alloc (.cells (cells7 rk rb ri rf rt rkv rlv).toArray 26)) (HV2.out.bel.chg (HVC.out.chg.alloc _) (fun _ _ e => e)) (WX.out x (List.mem_of_getElem? HX.out))).mono ?_
   rintro e w4 ⟨cs, rfl, hau, hc4⟩
   have HSTEP := Hd (fun w6 v' => HVC.out.step (w6 := w6) (v' := v') HX.out ((Chg.refl No wr).alloc _) hc4 hau)
   have hown := (HVC.out.own.alloc (.cells (cells7 rk rb ri rf rt rkv rlv).toArray 26)).chg hc4 (fun _ _ e => e)
   have qd := hau.length
   have hou := hau.one
   have hnb : rows.length + 1 ≤ 1099511627776 := by
    rw [HVC.out.len]
    have := HXN.out
    omega
   have hbs : w.heap.size ≤ w4.heap.size + 1 := by have h1 := HVC.out.chg.size; have h2 := hc4.size; simp at h2; omega
   clear hau hc4 HLC
   go_wp2_with (first | (refine wpList_build24 rfl rfl rfl qd ?_) | (at_builtin; refine wpList_appendRows rfl elem24 rfl rfl (hown.alloc _) rfl (RowAt.one1 w4 cs 26 7 qd) (by intro r hr; obtain rfl := List.mem_singleton.1 hr; exact hou) hnb (by decide) (by simpa using hbs) ?_; intro v' w6 hown' hc6 hv' hold; go_frame))
   have HA6 := Hd (HSTEP.out w6 v' hc6 hown' hv')
   clear hown' hc6 hv' hold hown
   go_roundw
   case rel => exact ⟨n + 1, _, by go_num, HA6.out⟩
   case measure => simp [intOf]; omega
  ·have hnl : n = xs.length := Nat.le_antisymm HVC.out.le (Nat.not_lt.1 hlt)
   subst hnl
   have hlen : ¬ ((xs.length : Nat) : Int) < (xs.length : Int) := by omega
   go_wp2_with fail
   go_ret
   exact ⟨_, rfl, rows, HVC.out⟩
def jks : J -> List K
 | .table kvs => kvs.map (·.1)
 | _ => []
def jxs : J -> List J
 | .table kvs => kvs.map (·.2)
 | .list xs => xs
 | _ => []
theorem ValJ.parts {ok : Nat -> Prop} {w : World} {k b i f t kv lv} {j : J} (h : ValJ ok w (cells7 k b i f t kv lv) j) : RowAt ok w kv 1 (kRows (jks j)) /\ ∃ rows, RowAt ok w lv 7 rows /\ rows.length = (jxs j).length /\ ∀ (n : Nat) (r : List Value) (x : J), rows[n]? = some r -> (jxs j)[n]? = some x -> ValJ ok w r x := by
 cases h with
 | null hk hl => exact ⟨hk, [], hl, rfl, fun n r x h => by simp at h⟩
 | bool hk hl => exact ⟨hk, [], hl, rfl, fun n r x h => by simp at h⟩
 | int hk hl => exact ⟨hk, [], hl, rfl, fun n r x h => by simp at h⟩
 | float hk hl => exact ⟨hk, [], hl, rfl, fun n r x h => by simp at h⟩
 | text hk hl => exact ⟨hk, [], hl, rfl, fun n r x h => by simp at h⟩
 | list hk hl hn hr => exact ⟨hk, _, hl, hn, hr⟩
 | @table _ _ _ _ _ _ rows kvs hk hl hn hr =>
  refine ⟨by simpa [kRows, jks, List.map_map, Function.comp_def] using hk, rows, hl, by simpa [jxs] using hn, fun n r x h1 h2 => ?_⟩
  simp only [jxs, List.getElem?_map] at h2
  cases hp : kvs[n]? with
  | none => rw [hp] at h2; cases h2
  | some p => rw [hp] at h2; cases h2; exact hr n r p h1 hp
theorem ValJ.build {ok ok' : Nat -> Prop} {w w' : World} {k b i f t kv lv kv' lv'} {j : J} {rows' : List (List Value)} (h : ValJ ok w (cells7 k b i f t kv lv) j) (hk' : RowAt ok' w' kv' 1 (kRows (jks j))) (hl' : RowAt ok' w' lv' 7 rows')
  (hn' : rows'.length = (jxs j).length) (hr' : ∀ (n : Nat) (r : List Value) (x : J), rows'[n]? = some r -> (jxs j)[n]? = some x -> ValJ ok' w' r x) : ValJ ok' w' (cells7 k b i f t kv' lv') j := by
 have hnil : jxs j = [] -> rows' = [] := fun e => by rw [e] at hn'; exact List.eq_nil_of_length_eq_zero hn'
 cases h with
 | null hk hl => rw [hnil rfl] at hl'; exact .null hk' hl'
 | bool hk hl => rw [hnil rfl] at hl'; exact .bool hk' hl'
 | int hk hl => rw [hnil rfl] at hl'; exact .int hk' hl'
 | float hk hl => rw [hnil rfl] at hl'; exact .float hk' hl'
 | text hk hl => rw [hnil rfl] at hl'; exact .text hk' hl'
 | list hk hl hn hr => exact .list hk' hl' hn' hr'
 | @table _ _ _ _ _ _ rows kvs hk hl hn hr =>
  refine .table (by simpa [kRows, jks, List.map_map, Function.comp_def] using hk') hl' (by simpa [jxs] using hn') (fun n r p h1 h2 => hr' n r p.2 h1 (by simp [jxs, h2]))
theorem Wf.jks {N d : Nat} {j : J} (h : Wf N (d + 1) j) : (jks j).length ≤ N := by
 cases j with
 | table kvs => have := h.2.1; simpa [Go.Proofs.YtljaoopfomcaoaaGreatDoor.jks] using this
 | _ => simp [Go.Proofs.YtljaoopfomcaoaaGreatDoor.jks]
theorem Wf.jxs {N d : Nat} {j : J} (h : Wf N (d + 1) j) : (jxs j).length ≤ N /\ ∀ x ∈ jxs j, Wf N d x := by
 cases j with
 | table kvs =>
  refine ⟨by have := h.2.1; simpa [Go.Proofs.YtljaoopfomcaoaaGreatDoor.jxs] using this, fun x hx => ?_⟩
  obtain ⟨p, hp, rfl⟩ := List.mem_map.1 hx
  exact (h.2.2 p hp).2
 | list xs => exact h
 | _ => exact ⟨Nat.zero_le _, fun x hx => by simp [Go.Proofs.YtljaoopfomcaoaaGreatDoor.jxs] at hx⟩
theorem OwnR.lower {w : World} {base base' e size : Nat} {v : Value} {rows : List (List Value)} (h : OwnR w base e size v rows) (hb : base' ≤ base) : OwnR w base' e size v rows := by
 obtain ⟨h0, h1, h2⟩ := h
 refine ⟨h0, h1, ?_⟩
 rcases h2 with h2 | ⟨g, cap, cur, hv, hg, r⟩
 ·exact .inl h2
 ·exact .inr ⟨g, cap, cur, hv, Nat.le_trans hb hg, r⟩
def ListV (B : Nat) (xs : List J) (v : Value) (w : World) : Prop :=
 ∃ rows', OwnR w B 26 7 v rows' /\ rows'.length = xs.length /\ ∀ (i : Nat) (r : List Value) (x : J), rows'[i]? = some r -> xs[i]? = some x -> ValJ (fun b => B ≤ b) w r x
theorem ListV.chg {B : Nat} {xs : List J} {v : Value} {S : Nat -> Prop} {w w' : World} (h : ListV B xs v w) (hc : Chg S w w') (hs : ∀ k, S k -> k < B) : ListV B xs v w' := by
 obtain ⟨rows', h1, h2, h3⟩ := h
 exact ⟨rows', h1.chg hc (fun k hk e => by have := (h1.elem hk).1; have := hs k e; omega), h2, fun i r x a b => (h3 i r x a b).chg hc (fun k hk e => by have := hs k e; omega)⟩
def Fact.listV (B : Nat) (xs : List J) : Fact :=
 ⟨fun v w => ListV B xs v w, fun S _ => ∀ k, S k -> k < B, fun S v w w' h hc hs => h.chg hc hs, fun _ _ e => e.elim⟩
structure MC (g : Nat) (mk : Value -> Value -> List Value) (kv lv : Value) (B : Nat) (ks : List K) (xs : List J) (wr w : World) (dk dl : Bool) : Prop where
 chg : Chg (· = g) wr w
 hB : g < B
 size : B ≤ w.heap.size
 box : ∃ k' l', Blk w g (mk k' l') 26 /\ (dk = false -> k' = kv) /\ (dk = true -> OwnR w B 9 1 k' (kRows ks)) /\ (dl = false -> l' = lv) /\ (dl = true -> ListV B xs l' w)
theorem MC.chgNo {g : Nat} {mk : Value -> Value -> List Value} {kv lv : Value} {B : Nat} {ks : List K} {xs : List J} {wr w w' : World} {dk dl : Bool} (h : MC g mk kv lv B ks xs wr w dk dl) (hc : Chg No w w') : MC g mk kv lv B ks xs wr w' dk dl := by
 obtain ⟨k', l', h1, h2, h3, h4, h5⟩ := h.box
 exact ⟨h.chg.trans' hc, h.hB, Nat.le_trans h.size hc.size, k', l', h1.chg hc id, h2, fun e => (h3 e).chg hc (fun _ _ e => e), h4, fun e => (h5 e).chg hc (fun _ e => e.elim)⟩
theorem MC.storeK {g : Nat} {k : Int} {b : Bool} {i : Int} {f : Nat} {t : K} {kv lv : Value} {B : Nat} {ks : List K} {xs : List J} {wr w : World} {dl : Bool} (h : MC g (fun k' l' => cells7 k b i f t k' l') kv lv B ks xs wr w false dl) {v : Value} (hv : OwnR w B 9 1 v (kRows ks)) :
  MC g (fun k' l' => cells7 k b i f t k' l') kv lv B ks xs wr (w.setCell ⟨g, 5, none⟩ v) true dl /\ Chg (· = g) w (w.setCell ⟨g, 5, none⟩ v) := by
 obtain ⟨k', l', h1, h2, h3, h4, h5⟩ := h.box
 obtain ⟨hb, hc, hs⟩ := h1.setCell 5 v
 have hB := h.hB
 exact ⟨⟨h.chg.trans hc (fun _ _ e => e), hB, by rw [hs]; exact h.size, v, l', hb, (fun e => by cases e), fun _ => hv.chg hc (fun q hq e => by have := (hv.elem hq).1; omega), h4, fun e => (h5 e).chg hc (fun q e => by omega)⟩, hc⟩
theorem MC.storeL {g : Nat} {k : Int} {b : Bool} {i : Int} {f : Nat} {t : K} {kv lv : Value} {B : Nat} {ks : List K} {xs : List J} {wr w : World} {dk : Bool} (h : MC g (fun k' l' => cells7 k b i f t k' l') kv lv B ks xs wr w dk false) {v : Value} (hv : ListV B xs v w) :
  MC g (fun k' l' => cells7 k b i f t k' l') kv lv B ks xs wr (w.setCell ⟨g, 6, none⟩ v) dk true /\ Chg (· = g) w (w.setCell ⟨g, 6, none⟩ v) := by
 obtain ⟨k', l', h1, h2, h3, h4, h5⟩ := h.box
 obtain ⟨hb, hc, hs⟩ := h1.setCell 6 v
 have hB := h.hB
 exact ⟨⟨h.chg.trans hc (fun _ _ e => e), hB, by rw [hs]; exact h.size, k', v, hb, h2, fun e => (h3 e).chg hc (fun q hq e2 => by have := ((h3 e).elem hq).1; omega), (fun e => by cases e), fun _ => hv.chg hc (fun q e => by omega)⟩, hc⟩
theorem wp_callV1 {P : Program} {f : FuncId} (hcall : ∀ (args : Array Value) (w : World), (callFunc f args).run P w = .ok (.enter f args) w) {o : Oper} {a : Act} {w : World} {K : Act -> World -> Prop} {Q : Exit -> Act -> World -> Prop} {x : Operand} {ts : Array TypeId} (ho : o.op = .call { callee := .value (.func f), args := #[x], argTypes := ts })
  {u : Value} (hx : a.eval x = u) {R : Ending -> World -> Prop} (hc : Calls P f #[u] w R) (h : ∀ e w', R e w' -> ∃ v, e = .returned v /\ K (a.put o.dst v) w') : o.wp P a w K Q := by
 unfold Oper.wp
 have hrun : (execOp a.eval o).run P w = .ok (.enter f #[u]) w := by
  simp only [execOp, ho, List.map_toArray, List.map_cons, List.map_nil, hx]
  simp [resolve, Act.eval, go_sem, hcall]
  (rw [← hx]; cases x <;> simp [Act.eval])
 rw [hrun, Oper.upon_enter]
 refine hc.mono fun e w' hr => ?_
 obtain ⟨v, rfl, hk⟩ := h e w' hr
 exact hk
theorem moCopy_any (N : Nat) (hN : N < 1099511627776) (d : Nat) : ∀ (ok : Nat -> Prop) (j : J) (cs : List Value) (w : World), ValJ ok w cs j -> Wf N d j -> Calls Tryz.prog 15 #[.agg cs.toArray] w (CopyPost w j) := by
 induction d with
 | zero => intro ok j cs w _ h; exact h.elim
 | succ d ih =>
  intro ok j cs w hv wf
  obtain ⟨k, b, i, f, t, kv, lv, rfl⟩ := hv.seven
  have HV := Hd hv
  have IH := Hd ih
  obtain ⟨hkr, rows0, hlr, hn0, hr0⟩ := hv.parts
  have hkn := wf.jks
  have WX := Hd wf.jxs
  have hk1 := hkr.1
  have hl1 := hlr.1
  replace hkr := hkr.mono (ok' := okB ok w) (fun x hx h => ⟨h, hx⟩) (by decide)
  replace hlr := hlr.mono (ok' := okB ok w) (fun x hx h => ⟨h, hx⟩) (by decide)
  have HKR := Hd hkr
  have HLR := Hd hlr
  obtain ⟨-, -, ka, kc, rfl, -, -⟩ := hkr
  obtain ⟨-, -, la, lc, rfl, -, -⟩ := hlr
  simp only [kRows, List.length_map] at HKR HV hk1 ⊢
  rw [hn0] at HLR HV hl1 ⊢
  unfold maxLen at hk1 hl1
  have HKN := Hd (show ([] : List (List Value)).length + (kRows (jks j)).length ≤ 1099511627776 by simp [kRows]; omega)
  have HN0 := Hd hn0
  have HR0 := Hd hr0
  have hfacts : ∀ W, ((w.alloc (.cells (cells7 k b i f t (.slice ka (jks j).length kc) (.slice la (jxs j).length lc)).toArray 26)).alloc (.cells zero7.toArray 26)) = W ->
    Blk W w.heap.size (cells7 k b i f t (.slice ka (jks j).length kc) (.slice la (jxs j).length lc)) 26 /\ Blk W (w.heap.size + 1) zero7 26 /\ Chg No w W /\ W.heap.size = w.heap.size + 2 := by
   rintro W rfl
   exact ⟨(Blk.new _ _ _).alloc _, Blk.newAt (by simp) _ _, ((Chg.refl No w).alloc _).alloc _, by simp⟩
  have HF := Hd hfacts
  clear hfacts hv wf ih hn0 hr0
  go_enter Tryz.func15, Tryz.ntmps15
  unfold cells7
  go_upto_region 1 with fail
  generalize hgw : World.alloc _ _ = W
  obtain ⟨b0, b1, c2, hws⟩ := HF.out W hgw
  clear hgw HF
  obtain ⟨g, hg⟩ : ∃ g, g = w.heap.size := ⟨_, rfl⟩
  obtain ⟨B, hB⟩ : ∃ B, B = w.heap.size + 2 := ⟨_, rfl⟩
  have HGW := Hd (show g = w.heap.size from hg)
  have HBB := Hd (show g < B /\ B ≤ W.heap.size by omega)
  have HBE := Hd hB
  rw [← hg] at b0 b1 ⊢
  have HB0 := Hd b0
  have HB1 := Hd b1
  have HCW := Hd c2
  clear b0 b1 c2 hws hg hB
  refine wp_region_inv (FI [.eq (.pointer (some ⟨g, 5, none⟩)), .eq (.slice ka (jks j).length kc), .own B 9 1 (kRows (jks j)), .eq (.pointer (some ⟨g, 6, none⟩)), .eq (.slice la (jxs j).length lc), .listV B (jxs j), .eq (.pointer (some ⟨g, 5, none⟩)), .any, .eq (.pointer (some ⟨g, 6, none⟩)), .any])
   (fun done w' => MC g (fun k' l' => cells7 k b i f t k' l') (.slice ka (jks j).length kc) (.slice la (jxs j).length lc) B (jks j) (jxs j) W w' (done 7) (done 9)) (by kernel_rfl) (by kernel_rfl)
   ⟨(Chg.refl _ W).drew, HBB.out.1, HBB.out.2, _, _, HB0.out.drew, fun _ => rfl, (fun e => by cases e), fun _ => rfl, (fun e => by cases e)⟩ ?_ ?_
  ·refine ⟨?_, ?_, ?_, ?_, ?_, ?_, ?_, ?_, ?_, ?_, trivial⟩
   ·intro done a w1 K hd qd qe qf qb hG hK
    have e1 : a.tmps[1]?.getD undef = .pointer (some ⟨g, 0, none⟩) := qf 1 rfl
    clear qd qe qf qb
    go_simp
    exact hK _ _ rfl (by simpa [dn] using hG) (fun _ _ _ _ h => h)
   ·intro done a w1 K hd qd qe qf qb hG hK
    have e3 : a.tmps[3]?.getD undef = .pointer (some ⟨g, 5, none⟩) := qe 0 3 rfl (qb 0 rfl)
    have n7 : done 7 = false := by
     cases hh0 : done 7 with
     | false => rfl
     | true =>
      have hh1 := qd 7 2 rfl hh0
      have hh2 := qd 2 1 rfl hh1
      rw [hd] at hh2; cases hh2
    obtain ⟨k', l', hb, h1, -⟩ := hG.box
    obtain rfl : k' = .slice ka (jks j).length kc := h1 n7
    have c6 : w1.cell? ⟨g, 5, none⟩ = some (.slice ka (jks j).length kc) := hb.cell 5
    clear qd qe qf qb
    clear hb h1
    go_simp
    exact hK _ _ rfl (by simpa [dn] using hG) (fun _ _ _ _ h => h)
   ·intro done a w1 K hd qd qe qf qb hG hK
    have e4 : a.tmps[4]?.getD undef = .slice ka (jks j).length kc := qe 1 4 rfl (qb 1 rfl)
    have hgB := hG.hB
    refine if_wanted rfl ?_
    refine wp_appendRows elem23 rfl rfl (OwnR.nil w1 B 9 1) (by simpa [Act.eval] using e4) ((HKR.out.chg HCW.out (fun _ _ e => e)).chg hG.chg (fun x hx e => by have := hx.2; have := HGW.out; omega)) (by intro r hr; obtain ⟨q, -, rfl⟩ := List.mem_map.1 hr; rfl) HKN.out (by decide) hG.size fun v' w' hO hC hB hOld => ?_
    have hC' : Chg No w1 w' := hC.mono (fun i _ e => by cases e)
    exact hK v' w' (by simpa [FI, Fact.own] using hO) (by simpa [dn] using hG.chgNo hC') (fun _ _ _ _ h => h.keepNo hC')
   ·intro done a w1 K hd qd qe qf qb hG hK
    have e1 : a.tmps[1]?.getD undef = .pointer (some ⟨g, 0, none⟩) := qf 1 rfl
    clear qd qe qf qb
    go_simp
    exact hK _ _ rfl (by simpa [dn] using hG) (fun _ _ _ _ h => h)
   ·intro done a w1 K hd qd qe qf qb hG hK
    have e6 : a.tmps[6]?.getD undef = .pointer (some ⟨g, 6, none⟩) := qe 3 6 rfl (qb 3 rfl)
    have n9 : done 9 = false := by
     cases hh0 : done 9 with
     | false => rfl
     | true =>
      have hh1 := qd 9 5 rfl hh0
      have hh2 := qd 5 4 rfl hh1
      rw [hd] at hh2; cases hh2
    obtain ⟨k', l', hb, -, -, h1, -⟩ := hG.box
    obtain rfl : l' = .slice la (jxs j).length lc := h1 n9
    have c6 : w1.cell? ⟨g, 6, none⟩ = some (.slice la (jxs j).length lc) := hb.cell 6
    clear qd qe qf qb
    clear hb h1
    go_simp
    exact hK _ _ rfl (by simpa [dn] using hG) (fun _ _ _ _ h => h)
   ·intro done a w1 K hd qd qe qf qb hG hK
    have e7 : a.tmps[7]?.getD undef = .slice la (jxs j).length lc := qe 4 7 rfl (qb 4 rfl)
    have hgB := hG.hB
    have hsz := hG.size
    refine if_wanted rfl ?_
    have hcall := moCopies_of N d hN IH.out (okB ok w) (jxs j) (.slice la (jxs j).length lc) rows0 w1 ((HLR.out.chg HCW.out (fun _ _ e => e)).chg hG.chg (fun x hx e => by have := hx.2; have := HGW.out; omega)) HN0.out (fun n r x h1 h2 => ((HR0.out n r x h1 h2).bel.chg HCW.out (fun _ _ e => e)).chg hG.chg (fun x hx e => by have := hx.2; have := HGW.out; omega)) WX.out.2 WX.out.1
    refine wp_callV1 Tryz.call25 rfl (by simpa [Act.eval] using e7) hcall ?_
    rintro e w2 ⟨v', rows', rfl, hvc⟩
    exact ⟨_, rfl, hK v' w2 ⟨rows', hvc.own.lower hsz, hvc.len, fun i r x h1 h2 => (hvc.val i r x h1 h2).mono (fun b _ hb => Nat.le_trans hsz hb.1)⟩ (by simpa [dn] using hG.chgNo hvc.chg) (fun _ _ _ _ h => h.keepNo hvc.chg)⟩
   ·intro done a w1 K hd qd qe qf qb hG hK
    have e1 : a.tmps[1]?.getD undef = .pointer (some ⟨g, 0, none⟩) := qf 1 rfl
    clear qd qe qf qb
    go_simp
    exact hK _ _ rfl (by simpa [dn] using hG) (fun _ _ _ _ h => h)
   ·intro done a w1 K hd qd qe qf qb hG hK
    have e9 : a.tmps[9]?.getD undef = .pointer (some ⟨g, 5, none⟩) := qe 6 9 rfl (qb 6 rfl)
    have hO := qe 2 5 rfl (qb 2 rfl)
    change OwnR _ _ _ _ _ _ at hO
    obtain ⟨sa, sn, sc, hv⟩ := hO.slice
    rw [hv] at hO
    have e5 := hv
    have hgB := hG.hB
    have hG1 := hG
    rw [hd] at hG1
    obtain ⟨k', l', hb, -⟩ := hG1.box
    have c6 : w1.cell? ⟨g, 5, none⟩ = some k' := hb.cell 5
    have f6 : w1.frozen? ⟨g, 5, none⟩ = false := hb.frozen 5
    obtain ⟨h2, h3⟩ := hG1.storeK hO
    have HG2 := Hd h2
    have HC2 := Hd h3
    clear qd qe qf qb
    clear hv hG hG1 hO hb h2 h3
    go_simp
    refine hK undef _ trivial (by have h' := HG2.out; simpa [dn] using h') ?_
    have hC := HC2.out
    refine fun j' hj _ u' hu => hu.keep hC (safe_of (i := 7) (fun j' hl hj => ?_) j' hj)
    match j', hj with
    | 0, _ => exact trivial
    | 1, _ => exact trivial
    | 2, _ => exact fun q hq hb => by omega
    | 3, _ => exact trivial
    | 4, _ => exact trivial
    | 5, _ => exact fun q hq => by omega
    | 6, _ => exact trivial
    | 7, hj => exact absurd rfl hj
    | 8, _ => exact trivial
    | 9, _ => exact trivial
    | j' + 10, _ => exact absurd hl (by simp)
   ·intro done a w1 K hd qd qe qf qb hG hK
    have e1 : a.tmps[1]?.getD undef = .pointer (some ⟨g, 0, none⟩) := qf 1 rfl
    clear qd qe qf qb
    go_simp
    exact hK _ _ rfl (by simpa [dn] using hG) (fun _ _ _ _ h => h)
   ·intro done a w1 K hd qd qe qf qb hG hK
    have e10 : a.tmps[10]?.getD undef = .pointer (some ⟨g, 6, none⟩) := qe 8 10 rfl (qb 8 rfl)
    have hO := qe 5 8 rfl (qb 5 rfl)
    change ListV _ _ _ _ at hO
    obtain ⟨sa, sn, sc, hv⟩ := hO.choose_spec.1.slice
    rw [hv] at hO
    have e8 := hv
    have hgB := hG.hB
    have hG1 := hG
    rw [hd] at hG1
    obtain ⟨k', l', hb, -⟩ := hG1.box
    have c6 : w1.cell? ⟨g, 6, none⟩ = some l' := hb.cell 6
    have f6 : w1.frozen? ⟨g, 6, none⟩ = false := hb.frozen 6
    obtain ⟨h2, h3⟩ := hG1.storeL hO
    have HG2 := Hd h2
    have HC2 := Hd h3
    clear qd qe qf qb
    clear hv hG hG1 hO hb h2 h3
    go_simp
    refine hK undef _ trivial (by have h' := HG2.out; simpa [dn] using h') ?_
    have hC := HC2.out
    refine fun j' hj _ u' hu => hu.keep hC (safe_of (i := 9) (fun j' hl hj => ?_) j' hj)
    match j', hj with
    | 0, _ => exact trivial
    | 1, _ => exact trivial
    | 2, _ => exact fun q hq hb => by omega
    | 3, _ => exact trivial
    | 4, _ => exact trivial
    | 5, _ => exact fun q hq => by omega
    | 6, _ => exact trivial
    | 7, _ => exact trivial
    | 8, _ => exact trivial
    | 9, hj => exact absurd rfl hj
    | j' + 10, _ => exact absurd hl (by simp)
  ·intro vs w2 hvs _ hG
   obtain ⟨k', l', hbx, -, hk, -, hl⟩ := hG.box
   have hk := hk rfl
   obtain ⟨rows', hown', hlen', hval'⟩ := hl rfl
   have hres := HB1.out.chg hG.chg (by have := HGW.out; omega)
   have hfin : ValJ (fun x => B ≤ x) w2 (cells7 k b i f t k' l') j := HV.out.build (hk.rowAt.mono (fun x _ hx => (hk.elem hx).1) (by decide)) (hown'.rowAt.mono (fun x _ hx => (hown'.elem hx).1) (by decide)) hlen' hval'
   have ho1 := hfin.one
   have HFIN := Hd hfin
   have HCG := Hd hG.chg
   have HGS := Hd hG.size
   clear hG hvs hk hl hown' hlen' hval' hfin
   simp only [putAll, Act.put, List.setIfInBounds_toArray, List.set_cons_succ, List.set_cons_zero]
   go_wp2_with (first | (with_reducible refine wpList_loadAgg rfl agg26 rfl rfl hbx.cells rfl ?_) | (with_reducible refine wpList_storeBlk rfl agg26 rfl rfl rfl hres rfl rfl ho1 ?_; intro w6 hb6 hc6 hs6))
   have hgw := HGW.out
   have hbb := HBB.out
   have hbe := HBE.out
   refine bodyPost_ret (results_blk rfl agg26 rfl hb6 rfl) rfl ⟨_, rfl, (HFIN.out.chg hc6 (fun x hx e => by omega)).mono (fun x _ hx => by omega), ((HCW.out.trans HCG.out (fun x hx e => absurd e (by omega)))).trans hc6 (fun x hx e => absurd e (by omega))⟩
theorem reading_nil (w : World) : Calls Tryz.prog 96 #[.slice none 0 0] w fun e w' => (∃ fn a b, e = .returned (.func fn a b)) /\ Chg No w w' := by
 have hmf : ∀ (fn : Fn) (first cap : Array Value) (w : World), (Instr.makeFunc fn first cap).run Tryz.prog w = .ok (.func fn first cap) w := fun _ _ _ _ => rfl
 go_enter Tryz.func96, Tryz.ntmps96
 go_wp2
 go_ret
 exact ⟨⟨_, _, _, rfl⟩, (Chg.refl _ _).alloc _⟩
theorem elem138 : ElemTy Tryz.prog 138 67 1 8 := by
 refine ⟨Tryz.underlying138, ?_, by decide⟩
 have h : (Tryz.prog.info? 67).map (fun i => (i.zero, i.size, i.bytes)) = some (some (.map none), 1, 8) := by kernel_rfl
 obtain ⟨i, h1, h2, h3, h4⟩ := info_parts h
 exact ⟨i, _, h1, h2, h3, h4, rfl⟩
def MapFor (ok : Nat -> Prop) (w : World) (m : Value) (x : J) : Prop := (x = .null /\ m = .map none) ∨ ∃ t b, x = .table t /\ m = .map (some b) /\ AnyJ ok w (.iface 67 m) (.table t)
theorem MapFor.chg {ok S : Nat -> Prop} {w w' : World} {m : Value} {x : J} (h : MapFor ok w m x) (hc : Chg S w w') (hs : ∀ b, ok b -> ¬ S b) : MapFor ok w' m x := by
 rcases h with h | ⟨t, b, h1, h2, h3⟩
 ·exact .inl h
 ·exact .inr ⟨t, b, h1, h2, h3.chg hc hs⟩
theorem MapFor.mono {ok ok' : Nat -> Prop} {w : World} {m : Value} {x : J} (h : MapFor ok w m x) (hs : ∀ b, b < w.heap.size -> ok b -> ok' b) : MapFor ok' w m x := by
 rcases h with h | ⟨t, b, h1, h2, h3⟩
 ·exact .inl h
 ·exact .inr ⟨t, b, h1, h2, h3.mono hs⟩
abbrev opt7 (vf fn : Value) : List Value := [vf, .slice none 0 0, .slice none 0 0, .slice none 0 0, .slice none 0 0, .slice none 0 0, fn]
structure OP (w : World) (g : Nat) (fn : Value) (xs : List J) (wr : World) (n : Nat) (vf : Value) (ms : List Value) : Prop where
 le : n ≤ xs.length
 own : OwnR wr (g + 1) 67 1 vf (ms.map fun m => [m])
 len : ms.length = n
 val : ∀ (i : Nat) (m : Value) (x : J), ms[i]? = some m -> xs[i]? = some x -> MapFor (okH g vf) wr m x
 chg : Chg No w wr
 box : Blk wr g (opt7 vf fn) 140
 hw : w.heap.size ≤ g
theorem OP.step {w : World} {g : Nat} {fn : Value} {xs : List J} {wr : World} {n : Nat} {vf : Value} {ms : List Value} (h : OP w g fn xs wr n vf ms) {x : J} (hx : xs[n]? = some x) {w4 w6 : World} {m : Value} {vf' : Value}
  (h4 : Chg No wr w4) (hau : MapFor (fun y => wr.heap.size ≤ y) w4 m x) (h6 : Chg (fun b => vf.ownBlock = some b) (w4.alloc (.cells #[m] 67)) w6) (hown : OwnR w6 (g + 1) 67 1 vf' (ms.map (fun m => [m]) ++ [[m]]))
  (hv : vf'.ownBlock = vf.ownBlock ∨ ∀ k, vf'.ownBlock = some k -> (w4.alloc (.cells #[m] 67)).heap.size ≤ k) :
  Blk w6 g (opt7 vf fn) 140 /\ ∀ w7, Blk w7 g (opt7 vf' fn) 140 -> Chg (· = g) w6 w7 -> OP w g fn xs w7 (n + 1) vf' (ms ++ [m]) := by
 have hlt : n < xs.length := (List.getElem?_eq_some_iff.1 hx).1
 have hel : ∀ k, vf.ownBlock = some k -> g + 1 ≤ k /\ k < wr.heap.size := fun k hk => ⟨(h.own.elem hk).1, (h.own.elem hk).2.1⟩
 have c2 : Chg (fun b => vf.ownBlock = some b) wr w6 := ((h4.mono (fun i _ e => e.elim)).alloc _).trans h6 (fun i _ e => e)
 have hs4 := h4.size
 have hgl := h.box.lt
 have hw := h.hw
 refine ⟨h.box.chg c2 (fun e => by have := (hel g e).1; omega), fun w7 hb7 h7 => ⟨hlt, ?_, by simp [h.len], fun i m' y hr hy => ?_, (h.chg.trans c2 (fun i hi e => absurd (hel i e).1 (by omega))).trans h7 (fun i hi e => absurd e (by omega)), hb7, hw⟩⟩
 ·have h2 := hown.chg h7 (fun i hi e => by have := (hown.elem hi).1; omega)
  simpa using h2
 ·have hmono : ∀ b, b < w4.heap.size -> vf.ownBlock ≠ some b -> vf'.ownBlock ≠ some b := fun b hb hne e => by
   rcases hv with hv | hv
   ·exact hne (hv ▸ e)
   ·have := hv b e; simp at this; omega
  by_cases hi : i < ms.length
  ·rw [List.getElem?_append_left hi] at hr
   have hk2 := (h.val i m' y hr hy).mono (ok' := fun b => okH g vf b /\ b < wr.heap.size) (fun b hb hb2 => ⟨hb2, hb⟩)
   have hk3 := (hk2.chg c2 (fun b hb e => hb.1.2 e)).chg h7 (fun b hb e => by have := hb.1.1; omega)
   exact hk3.mono (fun b _ hb => ⟨hb.1.1, hmono b (by have := hb.2; omega) hb.1.2⟩)
  ·have hi2 : i = ms.length := by
    have := (List.getElem?_eq_some_iff.1 hr).1
    simp at this
    omega
   subst hi2
   rw [List.getElem?_append_right (Nat.le_refl _), Nat.sub_self] at hr
   cases hr
   rw [h.len, hx] at hy
   cases hy
   have hk2 := hau.mono (ok' := fun b => wr.heap.size ≤ b /\ b < w4.heap.size) (fun b hb hb2 => ⟨hb2, hb⟩)
   have hk3 := hk2.chg ((Chg.refl No w4).alloc (.cells #[m] 67)) (fun b hb e => e)
   have hk4 := (hk3.chg h6 (fun b hb e => by have := (hel b e).2; have := hb.1; omega)).chg h7 (fun b hb e => by have := hb.1; omega)
   refine hk4.mono (fun b _ hb => ⟨by have := hb.1; omega, hmono b hb.2 (fun e => ?_)⟩)
   have := (hel b e).2
   have := hb.1
   omega
theorem table_any {ok : Nat -> Prop} {w : World} {x : J} {cs : List Value} {N d : Nat} (hN : N < 1099511627776) (hv : ValJ ok w cs x) (wf : Wf N d x) (hx : x = .null ∨ isT x = true) (hsz : sz x ≤ 2000) (hd : d ≤ 61) :
  Calls Tryz.prog 45 #[.agg cs.toArray] w fun e w' => ∃ m, e = .returned (.tuple #[m, .bool true]) /\ MapFor (fun y => w.heap.size ≤ y) w' m x /\ Chg No w w' := by
 rcases hx with rfl | hx
 ·refine (table_null hN hv wf hsz hd).mono ?_
  rintro e w' ⟨rfl, hc⟩
  exact ⟨_, rfl, .inl ⟨rfl, rfl⟩, hc⟩
 ·obtain ⟨t, rfl⟩ := isT_table hx
  refine (table_table hN hv wf hsz hd).mono ?_
  rintro e w' ⟨b, rfl, ha, hc⟩
  exact ⟨_, rfl, .inr ⟨t, b, rfl, rfl, ha⟩, hc⟩
theorem MapFor.slice {ok : Nat -> Prop} {w : World} {m : Value} {x : J} (h : MapFor ok w m x) : ∃ p, m = .map p := by
 rcases h with ⟨-, h⟩ | ⟨t, b, -, h, -⟩
 ·exact ⟨_, h⟩
 ·exact ⟨_, h⟩
def mergeStep (acc : T) (j : J) : T :=
 match j with
 | .table t => merged acc t
 | _ => acc
def mergeAll (xs : List J) : T := xs.foldl mergeStep []
theorem mergeAll_succ {xs : List J} {n : Nat} {x : J} (h : xs[n]? = some x) : mergeAll (xs.take (n + 1)) = mergeStep (mergeAll (xs.take n)) x := by
 rw [List.take_add_one, h]
 simp [mergeAll, List.foldl_append]
theorem Wf.mergeStep {n m d : Nat} {acc : T} {x : J} (ha : Wf n d (.table acc)) (hx : Wf m d x) : Wf (n + m) d (.table (mergeStep acc x)) := by
 cases x with
 | table t => exact ha.merged hx
 | _ => exact ha.mono (by omega) (Nat.le_refl _)
theorem Wf.mergeAll {N d : Nat} {xs : List J} (hd : 1 ≤ d) (h : ∀ x ∈ xs, Wf N d x) (n : Nat) (hn : n ≤ xs.length) : Wf (N * n) d (.table (mergeAll (xs.take n))) := by
 induction n with
 | zero =>
  obtain ⟨d, rfl⟩ : ∃ d', d = d' + 1 := ⟨d - 1, by omega⟩
  exact ⟨List.Pairwise.nil, Nat.zero_le _, fun p hp => by cases hp⟩
 | succ n ih =>
  have hx : xs[n]? = some (xs[n]) := List.getElem?_eq_getElem (by omega)
  rw [mergeAll_succ hx, Nat.mul_add, Nat.mul_one]
  exact (ih (by omega)).mergeStep (h _ (List.getElem_mem (by omega)))
theorem nan_order (t : Nat) : FloatKind.f64.format.order ((t % 2) * 2 ^ 63 + 0x7ff0000000000000 + 1 + (t / 2) % (2 ^ 52 - 1)) 0 = none := by
 have hx : (t / 2) % (2 ^ 52 - 1) < 2 ^ 52 - 1 := Nat.mod_lt _ (by decide)
 generalize (t / 2) % (2 ^ 52 - 1) = x at hx
 have hs : t % 2 = 0 ∨ t % 2 = 1 := by omega
 have hr : ∃ s fr, FloatKind.f64.format.read ((t % 2) * 2 ^ 63 + 0x7ff0000000000000 + 1 + x) = .nan s fr := by
  unfold Ieee.Format.read
  have h1 : FloatKind.f64.format.signWeight = 2 ^ 63 := by decide
  have h2 : FloatKind.f64.format.infRung = 0x7ff0000000000000 := by decide
  have h3 : FloatKind.f64.format.binade = 2 ^ 52 := by decide
  rw [h1, h2, h3]
  have h4 : ((t % 2) * 2 ^ 63 + 0x7ff0000000000000 + 1 + x) % 2 ^ 63 = 0x7ff0000000000000 + 1 + x := by omega
  simp only [h4]
  rw [if_neg (by omega), if_neg (by omega), if_neg (by omega)]
  exact ⟨_, _, rfl⟩
 obtain ⟨s, fr, h⟩ := hr
 unfold Ieee.Format.order
 rw [h]
 rfl
theorem sub_fin {f r : Nat} (h : FloatKind.f64.format.sub f f = some r) : FinBits f := by
 unfold FinBits Ieee.Format.order
 unfold Ieee.Format.sub at h
 cases hd : FloatKind.f64.format.read f with
 | number s m p => simp [Ieee.Datum.order]
 | infinity s => simp [Ieee.Datum.order]
 | nan s m => rw [hd] at h; simp [Ieee.Datum.sum, Ieee.Datum.opposite] at h
theorem float_self (f : Nat) (w : World) : ∃ r w1, (Go.binOp BinOp.sub 22 (.float .f64 f) (.float .f64 f)).run Tryz.prog w = .ok (.float .f64 r) w1 /\ (w1 = w ∨ w1 = w.drew) /\ ((FloatKind.f64.format.order r 0 == some .eq) = true -> FinBits f) := by
 have hb : (Go.binOp BinOp.sub 22 (.float .f64 f) (.float .f64 f)).run Tryz.prog w = (Go.Op.floatArith .sub .f64 f f).run Tryz.prog w := by kernel_rfl
 rw [hb]
 unfold Go.Op.floatArith
 cases hs : FloatKind.f64.format.sub f f with
 | some r => exact ⟨r, w, by simp [Sem.run_bind, Result.andThen, hs], .inl rfl, fun _ => sub_fin hs⟩
 | none =>
  refine ⟨(Question.nanBits .f64 f f).cut (w.tape w.drawn (Question.nanBits .f64 f f)), w.drew, ?_, .inr rfl, fun h => ?_⟩
  ·simp [Sem.run_bind, Result.andThen, hs, Question.forced]
  ·exfalso
   generalize w.tape w.drawn (Question.nanBits .f64 f f) = t at h
   have h2 : FloatKind.f64.format.order ((Question.nanBits .f64 f f).cut t) 0 = none := nan_order t
   rw [h2] at h
   cases h
inductive RawV (ok : Nat -> Prop) (w : World) : List Value -> Prop where
 | mk {k : Int} {b : Bool} {i : Int} {f : Nat} {t : K} {kv lv : Value} {ks : List K} {rows : List (List Value)} (hk : RowAt ok w kv 1 (kRows ks)) (hks : ∀ x ∈ ks, kOk x) (hl : RowAt ok w lv 7 rows) (hr : ∀ r ∈ rows, RawV ok w r) : RawV ok w (cells7 k b i f t kv lv)
theorem RawV.chg {ok S : Nat -> Prop} {w w' : World} {cs : List Value} (h : RawV ok w cs) (hc : Chg S w w') (hs : ∀ b, ok b -> ¬ S b) : RawV ok w' cs := by
 induction h with
 | mk hk hks hl _ ih => exact .mk (hk.chg hc hs) hks (hl.chg hc hs) ih
theorem RawV.mono {ok ok' : Nat -> Prop} {w : World} {cs : List Value} (h : RawV ok w cs) (hs : ∀ b, b < w.heap.size -> ok b -> ok' b) : RawV ok' w cs := by
 induction h with
 | mk hk hks hl _ ih => exact .mk (hk.mono hs (by decide)) hks (hl.mono hs (by decide)) ih
theorem RawV.seven {ok : Nat -> Prop} {w : World} {cs : List Value} (h : RawV ok w cs) : cs.length = 7 /\ cs.all (·.oneCell') = true := by
 cases h with
 | mk hk hks hl _ => exact ⟨rfl, cells7_one hk.one hl.one⟩
def RightPost (ok : Nat -> Prop) (cs : List Value) (w : World) (p c L : Nat) (e : Ending) (w' : World) : Prop :=
 ∃ r : Bool, e = .returned (.bool r) /\ Chg (· = p) w w' /\ (r = true -> ∃ j, ValJ ok w' cs j /\ Wf (sz j) L j /\ sz j ≤ c /\ Blk w' p [.int .i64 ((c - sz j : Nat) : Int)] 3)
structure RL (ok : Nat -> Prop) (w : World) (p c L : Nat) (rows : List (List Value)) (W wr : World) (n : Nat) (js : List J) : Prop where
 le : n ≤ rows.length
 len : js.length = n
 val : ∀ (i : Nat) (r : List Value) (x : J), rows[i]? = some r -> js[i]? = some x -> ValJ (okB ok w) wr r x
 wf : ∀ x ∈ js, Wf (sz x) L x
 sz : 1 + szL js ≤ c
 chg : Chg (· = p) W wr
 cnt : Blk wr p [.int .i64 ((c - (1 + szL js) : Nat) : Int)] 3
theorem szL_append (a b : List J) : szL (a ++ b) = szL a + szL b := by
 induction a with
 | nil => simp [szL]
 | cons x r ih => simp [szL, ih]; omega
theorem szL_mem {xs : List J} {x : J} (h : x ∈ xs) : Go.Proofs.YtljaoopfomcaoaaGreatDoor.sz x ≤ szL xs := by
 induction xs with
 | nil => cases h
 | cons y r ih =>
  rcases List.mem_cons.1 h with rfl | h
  ·simp [szL]
  ·have := ih h; simp [szL]; omega
theorem szT_zip (ks : List K) (js : List J) (h : ks.length = js.length) : szT (ks.zip js) = szL js := by
 induction ks generalizing js with
 | nil => cases js with | nil => rfl | cons _ _ => cases h
 | cons k r ih => cases js with
  | nil => cases h
  | cons x s => simp [szT, szP, szL]; exact ih s (by simpa using h)
theorem drewN_chg {S : Nat -> Prop} {a w : World} (h : Chg S a w) (n : Nat) : Chg S a (w.drewN n) := ⟨h.os, h.tape, h.output, h.size, h.block⟩
theorem pw_succ {ks : List K} {m : Nat} {x y : K} (h : (ks.take (m + 1)).Pairwise klt) (hx : ks[m]? = some x) (hy : ks[m + 1]? = some y) (hk : klt x y) : (ks.take (m + 1 + 1)).Pairwise klt := by
 rw [List.take_add_one, hy]
 refine List.pairwise_append.2 ⟨h, by simp, fun a ha b hb => ?_⟩
 have hb : b = y := by simpa using hb
 subst hb
 rw [List.take_add_one, hx] at h ha
 rcases List.mem_append.1 ha with ha | ha
 ·exact klt_trans ((List.pairwise_append.1 h).2.2 a ha x (by simp)) hk
 ·have ha : a = x := by simpa using ha
  subst ha
  exact hk
theorem RL.step {ok : Nat -> Prop} {w : World} {p c L : Nat} {rows : List (List Value)} {W wr : World} {n : Nat} {js : List J} (h : RL ok w p c L rows W wr n js) {r : List Value} (hr : rows[n]? = some r) {j : J} (hnp : ¬ ok p) {w' : World} (hv : ValJ (okB ok w) w' r j) (hw : Wf (Go.Proofs.YtljaoopfomcaoaaGreatDoor.sz j) L j)
  (hs : Go.Proofs.YtljaoopfomcaoaaGreatDoor.sz j ≤ c - (1 + szL js)) (hc : Chg (· = p) wr w') (hb : Blk w' p [.int .i64 ((c - (1 + szL js) - Go.Proofs.YtljaoopfomcaoaaGreatDoor.sz j : Nat) : Int)] 3) : RL ok w p c L rows W w' (n + 1) (js ++ [j]) := by
 have hlt : n < rows.length := (List.getElem?_eq_some_iff.1 hr).1
 have h1 := h.sz
 have hsa : szL (js ++ [j]) = szL js + Go.Proofs.YtljaoopfomcaoaaGreatDoor.sz j := by rw [szL_append]; simp [szL]
 refine ⟨hlt, by simp [h.len], fun i r' x hi hx => ?_, fun x hx => ?_, by rw [hsa]; omega, h.chg.trans hc (fun i _ e => e), by rw [hsa, show c - (1 + (szL js + Go.Proofs.YtljaoopfomcaoaaGreatDoor.sz j)) = c - (1 + szL js) - Go.Proofs.YtljaoopfomcaoaaGreatDoor.sz j by omega]; exact hb⟩
 ·by_cases hi2 : i < js.length
  ·rw [List.getElem?_append_left hi2] at hx
   exact (h.val i r' x hi hx).chg hc (fun b hb e => hnp (e ▸ hb.1))
  ·have : i = js.length := by
    have := (List.getElem?_eq_some_iff.1 hx).1
    simp at this
    omega
   subst this
   rw [List.getElem?_append_right (Nat.le_refl _), Nat.sub_self] at hx
   cases hx
   rw [h.len, hr] at hi
   cases hi
   exact hv
 ·rcases List.mem_append.1 hx with hx | hx
  ·exact h.wf x hx
  ·rw [List.mem_singleton.1 hx]; exact hw
theorem tbRight_any (L : Nat) : ∀ (ok : Nat -> Prop) (cs : List Value) (w : World) (p c : Nat), RawV ok w cs -> Blk w p [.int .i64 (c : Int)] 3 -> ¬ ok p -> c ≤ 1099511627776 -> L ≤ 4000 ->
  Calls Tryz.prog 56 #[.agg cs.toArray, .int .i64 (L : Int), .pointer (some ⟨p, 0, none⟩)] w (RightPost ok cs w p c L) := by
 induction L with
 | zero =>
  intro ok cs w p c h hp hnp hc hL
  have HRAW := Hd h
  cases h with
  | @mk k b i f t kv lv ks rows hk hks hl hr =>
   have HKR := Hd hk
   have hk1 := hk.1
   have hl1 := hl.1
   have hc0 : (c : Int) ≤ 1099511627776 := by omega
   clear hr
   obtain ⟨-, -, ka, kc, rfl, -, -⟩ := hk
   obtain ⟨-, -, la, lc, rfl, -, -⟩ := hl
   simp only [kRows, List.length_map] at HKR hk1 HRAW
   unfold maxLen at hk1 hl1
   have hpc : w.cell? ⟨p, 0, none⟩ = some (.int .i64 (c : Int)) := hp.cell 0
   have hpf := hp.frozen 0
   have hpl := hp.lt
   have HP := Hd hp
   have hfacts : ∀ W, ((w.setCell ⟨p, 0, none⟩ (.int .i64 ((c : Int) - 1))).alloc (.cells (cells7 k b i f t (.slice ka ks.length kc) (.slice la rows.length lc)).toArray 26)) = W ->
     Blk W p [.int .i64 ((c : Int) - 1)] 3 /\ Chg (· = p) w W /\ Blk W w.heap.size (cells7 k b i f t (.slice ka ks.length kc) (.slice la rows.length lc)) 26 := by
    rintro W rfl
    obtain ⟨h1, h2, h3⟩ := HP.out.setCell 0 (.int .i64 ((c : Int) - 1))
    refine ⟨h1.alloc _, h2.alloc _, ?_⟩
    have h4 := Blk.new (w.setCell ⟨p, 0, none⟩ (.int .i64 ((c : Int) - 1))) (cells7 k b i f t (.slice ka ks.length kc) (.slice la rows.length lc)) 26
    rwa [h3] at h4
   have HF := Hd hfacts
   clear hfacts hp
   go_enter Tryz.func56, Tryz.ntmps56
   unfold cells7
   go_upto_region 2 with fail
   generalize hgw : World.alloc _ _ = W
   obtain ⟨b1, c1, bx⟩ := HF.out W hgw
   clear hgw HF
   have HB1 := Hd b1
   have HCS := Hd c1
   have HBX := Hd bx
   have q0 : W.cell? ⟨p, 0, none⟩ = some (.int .i64 ((c : Int) - 1)) := b1.cell 0
   have k0 : W.cell? ⟨w.heap.size, 0, none⟩ = some (.int .i64 k) := bx.cell 0
   have k3 : W.cell? ⟨w.heap.size, 3, none⟩ = some (.float .f64 f) := bx.cell 3
   have k5 : W.cell? ⟨w.heap.size, 5, none⟩ = some (.slice ka ks.length kc) := bx.cell 5
   have k6 : W.cell? ⟨w.heap.size, 6, none⟩ = some (.slice la rows.length lc) := bx.cell 6
   clear b1 c1 bx hpc hpf
   by_cases h0 : (c : Int) - 1 < 0
   ·go_wp2
    go_ret
    exact ⟨false, rfl, HCS.out, fun h => by cases h⟩
   ·go_wp2
    go_ret
    exact ⟨false, rfl, HCS.out, fun h => by cases h⟩
 | succ L ih =>
  intro ok cs w p c h hp hnp hc hL
  have HRAW := Hd h
  have IH := Hd ih
  cases h with
  | @mk k b i f t kv lv ks rows hk hks hl hr =>
   have HKR := Hd hk
   have HLR := Hd hl
   have HRR := Hd hr
   have HKS := Hd hks
   have HNP := Hd hnp
   have HC := Hd hc
   have HL := Hd hL
   have hk1 := hk.1
   have hl1 := hl.1
   have hc0 : (c : Int) ≤ 1099511627776 := by omega
   have hL1 : ¬ (((L + 1 : Nat) : Int)) < 1 := by omega
   clear hr hks hnp ih hL hc
   obtain ⟨-, -, ka, kc, rfl, -, -⟩ := hk
   obtain ⟨-, -, la, lc, rfl, -, -⟩ := hl
   simp only [kRows, List.length_map] at HKR hk1 HRAW
   unfold maxLen at hk1 hl1
   have hpc : w.cell? ⟨p, 0, none⟩ = some (.int .i64 (c : Int)) := hp.cell 0
   have hpf := hp.frozen 0
   have hpl := hp.lt
   have HP := Hd hp
   have hfacts : ∀ W, ((w.setCell ⟨p, 0, none⟩ (.int .i64 ((c : Int) - 1))).alloc (.cells (cells7 k b i f t (.slice ka ks.length kc) (.slice la rows.length lc)).toArray 26)) = W ->
     Blk W p [.int .i64 ((c : Int) - 1)] 3 /\ Chg (· = p) w W /\ Blk W w.heap.size (cells7 k b i f t (.slice ka ks.length kc) (.slice la rows.length lc)) 26 := by
    rintro W rfl
    obtain ⟨h1, h2, h3⟩ := HP.out.setCell 0 (.int .i64 ((c : Int) - 1))
    refine ⟨h1.alloc _, h2.alloc _, ?_⟩
    have h4 := Blk.new (w.setCell ⟨p, 0, none⟩ (.int .i64 ((c : Int) - 1))) (cells7 k b i f t (.slice ka ks.length kc) (.slice la rows.length lc)) 26
    rwa [h3] at h4
   have HF := Hd hfacts
   clear hfacts hp
   go_enter Tryz.func56, Tryz.ntmps56
   unfold cells7
   go_upto_region 2 with fail
   generalize hgw : World.alloc _ _ = W
   obtain ⟨b1, c1, bx⟩ := HF.out W hgw
   clear hgw HF
   have HB1 := Hd b1
   have HCS := Hd c1
   have HBX := Hd bx
   have q0 : W.cell? ⟨p, 0, none⟩ = some (.int .i64 ((c : Int) - 1)) := b1.cell 0
   have k0 : W.cell? ⟨w.heap.size, 0, none⟩ = some (.int .i64 k) := bx.cell 0
   have k3 : W.cell? ⟨w.heap.size, 3, none⟩ = some (.float .f64 f) := bx.cell 3
   have k5 : W.cell? ⟨w.heap.size, 5, none⟩ = some (.slice ka ks.length kc) := bx.cell 5
   have k6 : W.cell? ⟨w.heap.size, 6, none⟩ = some (.slice la rows.length lc) := bx.cell 6
   clear b1 c1 bx hpc hpf
   by_cases h0 : (c : Int) - 1 < 0
   ·go_wp2
    go_ret
    exact ⟨false, rfl, HCS.out, fun h => by cases h⟩
   have HC1 := Hd (show 1 ≤ c by omega)
   have HBN := Hd (show Blk W p [.int .i64 ((c - 1 : Nat) : Int)] 3 by rw [Int.natCast_sub HC1.out]; exact HB1.out)
   by_cases k7 : k = 7
   ·subst k7
    have s7 : (6 : Int) < 7 := by decide
    go_wp2_with fail
    clear q0 k0 k3 k5 k6 s7
    go_loopw [7] (fun ct wr => ∃ m : Nat, ct = .int .i64 ((m + 1 : Nat) : Int) /\ (m + 1 ≤ ks.length ∨ m = 0) /\ Chg No W wr /\ (ks.take (m + 1)).Pairwise klt) (fun ct _ => ks.length - (intOf ct).toNat)
    case atStart => exact ⟨0, rfl, .inr rfl, Chg.refl _ _, by cases ks <;> simp⟩
    case round =>
     obtain ⟨m, rfl, hm, hcr, hpw⟩ := hrel
     have HCR := Hd hcr
     have HPW := Hd hpw
     have q5 : wr.cell? ⟨w.heap.size, 5, none⟩ = some (.slice ka ks.length kc) := (HBX.out.chg hcr id).cell 5
     clear hcr hpw
     by_cases hlt : m + 1 < ks.length
     ·obtain ⟨x, hx⟩ : ∃ x, ks[m]? = some x := ⟨_, List.getElem?_eq_getElem (by omega)⟩
      obtain ⟨y, hy⟩ : ∃ y, ks[m + 1]? = some y := ⟨_, List.getElem?_eq_getElem hlt⟩
      obtain ⟨kb, ko, rfl, hkok, hka⟩ := HKR.out.at (i := m) (r := [.string x]) (by simp [kRows, hx])
      obtain ⟨kb', ko', he, -, hkb⟩ := HKR.out.at (i := m + 1) (r := [.string y]) (by simp [kRows, hy])
      cases he
      have hka := ((hka.chg HCS.out (fun e => HNP.out (e ▸ hkok))).chg HCR.out id).one
      have hkb := ((hkb.chg HCS.out (fun e => HNP.out (e ▸ hkok))).chg HCR.out id).one
      simp only [Nat.mul_one] at hka hkb
      have h64 : (m : Int) + 1 < (ks.length : Int) := by omega
      have HXY := Hd (And.intro hx hy)
      clear hx hy hm
      by_cases hk : klt x y
      ·have hbl : Op.bytesLess x.toList y.toList = true := by rw [bytesLess_klt]; simpa using hk
       have HK := Hd hk
       clear hk
       go_upto_region 17 with fail
       go_quiet (fail)
       go_wp2_with fail
       go_roundw
       case rel => exact ⟨m + 1, by go_num, .inl (by omega), drewN_chg HCR.out _, pw_succ HPW.out HXY.out.1 HXY.out.2 HK.out⟩
       case measure => simp [intOf]; omega
      ·have hbl : Op.bytesLess x.toList y.toList = false := by rw [bytesLess_klt]; simpa using hk
       clear hk
       go_upto_region 17 with fail
       go_quiet (fail)
       go_wp2
       go_ret
       exact ⟨false, rfl, drewN_chg (HCS.out.trans' HCR.out) _, fun h => by cases h⟩
     ·have h64 : ¬ (m : Int) + 1 < (ks.length : Int) := by omega
      have q6 : wr.cell? ⟨w.heap.size, 6, none⟩ = some (.slice la rows.length lc) := (HBX.out.chg HCR.out id).cell 6
      have HPK := Hd (show ks.Pairwise klt by have h := HPW.out; rwa [List.take_of_length_le (by omega)] at h)
      have HCV := Hd (HCS.out.trans' HCR.out)
      have HBV := Hd (show Blk wr p [.int .i64 ((c - (1 + szL []) : Nat) : Int)] 3 from HBN.out.chg HCR.out id)
      by_cases hkl : ks.length = rows.length
      ·have HKL := Hd hkl
       rw [hkl] at q5
       obtain ⟨V, hV⟩ : ∃ V, V = wr := ⟨_, rfl⟩
       rw [hkl] at h64
       clear hkl hm
       go_wp2_with fail
       rw [← hV] at HCV HBV
       clear q5 q6 HPW HCR
       rw [← hV]
       clear hV
       go_loopw [93] (fun ct wr => ∃ (n : Nat) (js : List J), ct = .int .i64 n /\ RL ok w p c L rows V wr n js) (fun ct _ => rows.length - (intOf ct).toNat)
       case atStart =>
        exact ⟨0, [], rfl, Nat.zero_le _, rfl, fun i r x _ h => (by simp at h), fun x h => (by cases h), HC1.out, Chg.refl _ _, HBV.out⟩
       case round =>
        obtain ⟨n, js, rfl, hrl⟩ := hrel
        have HRL := Hd hrl
        clear hrl
        by_cases hlt : n < rows.length
        ·obtain ⟨r, hr0⟩ : ∃ r, rows[n]? = some r := ⟨_, List.getElem?_eq_getElem hlt⟩
         obtain ⟨lb, lo, rfl, hlok, hlc⟩ := HLR.out.at (i := n) (r := r) hr0
         have HLC := (hlc.chg HCV.out (fun e => HNP.out (e ▸ hlok))).chg HRL.out.chg (fun e => HNP.out (e ▸ hlok))
         have hraw := HRR.out r (List.mem_of_getElem? hr0)
         obtain ⟨hrl7, hro1⟩ := hraw.seven
         have HRAWr := Hd (((hraw.mono (ok' := okB ok w) (fun b hb h => ⟨h, hb⟩)).chg HCV.out (fun b hb e => HNP.out (e ▸ hb.1))).chg HRL.out.chg (fun b hb e => HNP.out (e ▸ hb.1)))
         have h64 : (n : Int) < (rows.length : Int) := by omega
         have hLb : (L : Int) ≤ 4000 := by have := HL.out; omega
         have HR0 := Hd hr0
         clear hlc hraw hr0
         go_wp2_with (first | (with_reducible refine wpList_loadAgg rfl agg26 rfl rfl HLC hrl7 ?_) | (with_reducible refine wpList_storeNew rfl agg26 rfl rfl rfl rfl hrl7 hro1 ?_) | (with_reducible refine wpList_loadAgg rfl agg26 rfl rfl (Blk.new wr r 26).cells hrl7 ?_))
         refine (IH.out (okB ok w) r (wr.alloc (.cells r.toArray 26)) p (c - (1 + szL js)) (HRAWr.out.chg ((Chg.refl No wr).alloc _) (fun _ _ e => e)) (HRL.out.cnt.alloc _) (fun h => HNP.out h.1) (by have := HC.out; omega) (by have := HL.out; omega)).mono ?_
         rintro e w4 ⟨rr, rfl, hc4, hpost⟩
         have HC4 := Hd (((Chg.refl (· = p) wr).alloc (.cells r.toArray 26)).trans hc4 (fun _ _ e => e))
         have HPOST := Hd hpost
         clear hc4 hpost HLC hrl7 hro1
         cases rr with
         | false =>
          go_wp2
          go_ret
          exact ⟨false, rfl, (HCV.out.trans HRL.out.chg (fun _ _ e => e)).trans HC4.out (fun _ _ e => e), fun h => by cases h⟩
         | true =>
          obtain ⟨j, hj1, hj2, hj3, hj4⟩ := HPOST.out rfl
          have HSTEP := Hd (HRL.out.step HR0.out HNP.out hj1 hj2 hj3 HC4.out hj4)
          clear hj1 hj2 hj3 hj4
          go_wp2_with fail
          go_roundw
          case rel => exact ⟨n + 1, _, by go_num, HSTEP.out⟩
          case measure => simp [intOf]; omega
        ·have hnl : n = rows.length := Nat.le_antisymm HRL.out.le (Nat.not_lt.1 hlt)
         subst hnl
         have hlen : ¬ ((rows.length : Nat) : Int) < (rows.length : Int) := by omega
         go_wp2
         go_ret
         have hrl := HRL.out
         have hLR := (HLR.out.chg HCV.out (fun b hb e => HNP.out (e ▸ hb))).chg hrl.chg (fun b hb e => HNP.out (e ▸ hb))
         have hKR := (HKR.out.chg HCV.out (fun b hb e => HNP.out (e ▸ hb))).chg hrl.chg (fun b hb e => HNP.out (e ▸ hb))
         have hzl : (ks.zip js).length = rows.length := by rw [List.length_zip, HKL.out, hrl.len]; exact Nat.min_self _
         have hkj : ks.length = js.length := by rw [HKL.out, hrl.len]
         have hmf : (ks.zip js).map (·.1) = ks := List.map_fst_zip (by omega)
         have hsz : Go.Proofs.YtljaoopfomcaoaaGreatDoor.sz (.table (ks.zip js)) = 1 + szL js := by simp only [Go.Proofs.YtljaoopfomcaoaaGreatDoor.sz]; rw [szT_zip ks js hkj]
         refine ⟨true, rfl, HCV.out.trans hrl.chg (fun _ _ e => e), fun _ => ⟨.table (ks.zip js), .table ?_ hLR hzl.symm (fun n r q h1 h2 => ?_), ⟨?_, ?_, fun q hq => ⟨?_, ?_⟩⟩, ?_, ?_⟩⟩
         ·have h1 := hKR
          rw [← hmf] at h1
          simpa [kRows, List.map_map, Function.comp_def, hzl, HKL.out] using h1
         ·obtain ⟨q1, q2⟩ := q
          have h3 := (List.getElem?_zip_eq_some.1 h2).2
          exact (hrl.val n r q2 h1 h3).mono (fun b _ hb => hb.1)
         ·have h1 := HPK.out
          rw [← hmf] at h1
          exact List.pairwise_map.1 h1
         ·rw [hzl, hsz, ← hrl.len]; have := szL_length js; omega
         ·exact HKS.out q.1 (by rw [← hmf]; exact List.mem_map_of_mem hq)
         ·have hq2 : q.2 ∈ js := by
           have h1 := List.mem_map_of_mem (f := (·.2)) hq
           rwa [List.map_snd_zip (by omega)] at h1
          exact (hrl.wf q.2 hq2).mono (by have := szL_mem hq2; rw [hsz]; omega) (Nat.le_refl _)
         ·rw [hsz]; exact hrl.sz
         ·rw [hsz]; exact hrl.cnt
      ·have hklb : ¬ (ks.length : Int) = (rows.length : Int) := by omega
       go_wp2
       go_ret
       exact ⟨false, rfl, HCV.out.mono (fun _ _ e => e), fun h => by cases h⟩
   ·have k7b : (k != 7) = true := by simpa using k7
    by_cases s0 : ks.length = 0
    ·have hks0 : ks = [] := List.eq_nil_of_length_eq_zero s0
     subst hks0
     have HK0 := Hd ((show RowAt ok w (.slice ka 0 kc) 1 [] from HKR.out).chg HCS.out (fun b hb e => HNP.out (e ▸ hb)))
     simp only [List.length_nil] at k5 HBX HRAW
     by_cases e6 : k = 6
     ·subst e6
      obtain ⟨V, hV⟩ : ∃ V, V = W := ⟨_, rfl⟩
      have HCV := Hd (show Chg (· = p) w V by rw [hV]; exact HCS.out)
      have HBV := Hd (show Blk V p [.int .i64 ((c - (1 + szL []) : Nat) : Int)] 3 by rw [hV]; exact HBN.out)
      clear s0
      go_wp2_with fail
      clear q0 k0 k3 k5 k6
      rw [← hV]
      clear hV
      go_loopw [93] (fun ct wr => ∃ (n : Nat) (js : List J), ct = .int .i64 n /\ RL ok w p c L rows V wr n js) (fun ct _ => rows.length - (intOf ct).toNat)
      case atStart =>
       exact ⟨0, [], rfl, Nat.zero_le _, rfl, fun i r x _ h => (by simp at h), fun x h => (by cases h), HC1.out, Chg.refl _ _, HBV.out⟩
      case round =>
       obtain ⟨n, js, rfl, hrl⟩ := hrel
       have HRL := Hd hrl
       clear hrl
       by_cases hlt : n < rows.length
       ·obtain ⟨r, hr0⟩ : ∃ r, rows[n]? = some r := ⟨_, List.getElem?_eq_getElem hlt⟩
        obtain ⟨lb, lo, rfl, hlok, hlc⟩ := HLR.out.at (i := n) (r := r) hr0
        have HLC := (hlc.chg HCV.out (fun e => HNP.out (e ▸ hlok))).chg HRL.out.chg (fun e => HNP.out (e ▸ hlok))
        have hraw := HRR.out r (List.mem_of_getElem? hr0)
        obtain ⟨hrl7, hro1⟩ := hraw.seven
        have HRAWr := Hd (((hraw.mono (ok' := okB ok w) (fun b hb h => ⟨h, hb⟩)).chg HCV.out (fun b hb e => HNP.out (e ▸ hb.1))).chg HRL.out.chg (fun b hb e => HNP.out (e ▸ hb.1)))
        have h64 : (n : Int) < (rows.length : Int) := by omega
        have hLb : (L : Int) ≤ 4000 := by have := HL.out; omega
        have HR0 := Hd hr0
        clear hlc hraw hr0
        go_wp2_with (first | (with_reducible refine wpList_loadAgg rfl agg26 rfl rfl HLC hrl7 ?_) | (with_reducible refine wpList_storeNew rfl agg26 rfl rfl rfl rfl hrl7 hro1 ?_) | (with_reducible refine wpList_loadAgg rfl agg26 rfl rfl (Blk.new wr r 26).cells hrl7 ?_))
        refine (IH.out (okB ok w) r (wr.alloc (.cells r.toArray 26)) p (c - (1 + szL js)) (HRAWr.out.chg ((Chg.refl No wr).alloc _) (fun _ _ e => e)) (HRL.out.cnt.alloc _) (fun h => HNP.out h.1) (by have := HC.out; omega) (by have := HL.out; omega)).mono ?_
        rintro e w4 ⟨rr, rfl, hc4, hpost⟩
        have HC4 := Hd (((Chg.refl (· = p) wr).alloc (.cells r.toArray 26)).trans hc4 (fun _ _ e => e))
        have HPOST := Hd hpost
        clear hc4 hpost HLC hrl7 hro1
        cases rr with
        | false =>
         go_wp2
         go_ret
         exact ⟨false, rfl, (HCV.out.trans HRL.out.chg (fun _ _ e => e)).trans HC4.out (fun _ _ e => e), fun h => by cases h⟩
        | true =>
         obtain ⟨j, hj1, hj2, hj3, hj4⟩ := HPOST.out rfl
         have HSTEP := Hd (HRL.out.step HR0.out HNP.out hj1 hj2 hj3 HC4.out hj4)
         clear hj1 hj2 hj3 hj4
         go_wp2_with fail
         go_roundw
         case rel => exact ⟨n + 1, _, by go_num, HSTEP.out⟩
         case measure => simp [intOf]; omega
       ·have hnl : n = rows.length := Nat.le_antisymm HRL.out.le (Nat.not_lt.1 hlt)
        subst hnl
        have hlen : ¬ ((rows.length : Nat) : Int) < (rows.length : Int) := by omega
        go_wp2
        go_ret
        have hrl := HRL.out
        have hLR := (HLR.out.chg HCV.out (fun b hb e => HNP.out (e ▸ hb))).chg hrl.chg (fun b hb e => HNP.out (e ▸ hb))
        have hKR := (HKR.out.chg HCV.out (fun b hb e => HNP.out (e ▸ hb))).chg hrl.chg (fun b hb e => HNP.out (e ▸ hb))
        exact ⟨true, rfl, HCV.out.trans hrl.chg (fun _ _ e => e), fun _ => ⟨.list js, .list hKR hLR hrl.len.symm (fun n r x h1 h2 => (hrl.val n r x h1 h2).mono (fun b _ hb => hb.1)), ⟨by have := szL_length js; simp only [Go.Proofs.YtljaoopfomcaoaaGreatDoor.sz]; omega, fun x hx => (hrl.wf x hx).mono (by have := szL_mem hx; simp only [Go.Proofs.YtljaoopfomcaoaaGreatDoor.sz]; omega) (Nat.le_refl _)⟩, hrl.sz, hrl.cnt⟩⟩
     have e6b : (k == 6) = false := by simpa using e6
     by_cases r0 : rows.length = 0
     ·have hr0 : rows = [] := List.eq_nil_of_length_eq_zero r0
      subst hr0
      have HL0 := Hd ((show RowAt ok w (.slice la 0 lc) 7 [] from HLR.out).chg HCS.out (fun b hb e => HNP.out (e ▸ hb)))
      simp only [List.length_nil] at k6 HBX HRAW
      clear r0 s0
      by_cases k6' : k < 6
      ·by_cases e0 : k = 0
       ·subst e0
        go_wp2
        go_ret
        exact ⟨true, rfl, HCS.out, fun _ => ⟨.null, .null HK0.out HL0.out, trivial, HC1.out, HBN.out⟩⟩
       have e0b : (k == 0) = false := by simpa using e0
       by_cases e1 : k = 1
       ·subst e1
        go_wp2
        go_ret
        exact ⟨true, rfl, HCS.out, fun _ => ⟨.bool b, .bool HK0.out HL0.out, trivial, HC1.out, HBN.out⟩⟩
       have e1b : (k == 1) = false := by simpa using e1
       by_cases e2 : k = 2
       ·subst e2
        go_wp2
        go_ret
        exact ⟨true, rfl, HCS.out, fun _ => ⟨.int i, .int HK0.out HL0.out, trivial, HC1.out, HBN.out⟩⟩
       have e2b : (k == 2) = false := by simpa using e2
       by_cases e5 : k = 5
       ·subst e5
        go_wp2
        go_ret
        exact ⟨true, rfl, HCS.out, fun _ => ⟨.text t, .text HK0.out HL0.out, trivial, HC1.out, HBN.out⟩⟩
       have e5b : (k == 5) = false := by simpa using e5
       by_cases e4 : k = 4
       ·subst e4
        obtain ⟨r, w1, hrun, hw1, himp⟩ := float_self f W
        have HIMP := Hd himp
        clear himp
        rcases hw1 with rfl | rfl
        ·go_wp2
         go_ret
         exact ⟨_, rfl, HCS.out, fun h => ⟨.float f, .float HK0.out HL0.out, HIMP.out h, HC1.out, HBN.out⟩⟩
        ·go_wp2
         go_ret
         exact ⟨_, rfl, HCS.out.drew, fun h => ⟨.float f, .float (HK0.out.chg ((Chg.refl No W).drew) (fun _ _ e => e)) (HL0.out.chg ((Chg.refl No W).drew) (fun _ _ e => e)), HIMP.out h, HC1.out, HBN.out.drew⟩⟩
       have e4b : (k == 4) = false := by simpa using e4
       have k7c : (k == 7) = false := by simpa using k7
       go_wp2
       go_ret
       exact ⟨false, rfl, HCS.out, fun h => by cases h⟩
      ·go_wp2
       go_ret
       exact ⟨false, rfl, HCS.out, fun h => by cases h⟩
     ·have r1 : (0 : Int) < (rows.length : Int) := by omega
      have r1n : 0 < rows.length := by omega
      have r1l : ¬ rows = [] := fun e => by rw [e] at r1n; exact absurd r1n (by decide)
      clear r0 s0
      by_cases k6' : k < 6
      ·go_wp2
       go_ret
       exact ⟨false, rfl, HCS.out, fun h => by cases h⟩
      ·go_wp2
       go_ret
       exact ⟨false, rfl, HCS.out, fun h => by cases h⟩
    ·have s1 : (0 : Int) < (ks.length : Int) := by omega
     have s1n : 0 < ks.length := by omega
     have s1l : ¬ ks = [] := fun e => by rw [e] at s1n; exact absurd s1n (by decide)
     clear s0
     by_cases k6' : k < 6
     ·by_cases r0 : rows.length = 0
      ·have r1l : rows = [] := List.eq_nil_of_length_eq_zero r0
       clear r0
       go_wp2
       go_ret
       exact ⟨false, rfl, HCS.out, fun h => by cases h⟩
      ·have r1 : (0 : Int) < (rows.length : Int) := by omega
       have r1n : 0 < rows.length := by omega
       have r1l : ¬ rows = [] := fun e => by rw [e] at r1n; exact absurd r1n (by decide)
       clear r0
       go_wp2
       go_ret
       exact ⟨false, rfl, HCS.out, fun h => by cases h⟩
     ·go_wp2
      go_ret
      exact ⟨false, rfl, HCS.out, fun h => by cases h⟩
theorem RawV.cells {ok : Nat -> Prop} {w : World} {cs : List Value} (h : RawV ok w cs) : ∃ k b i f t kv lv, cs = cells7 k b i f t kv lv := by
 cases h; exact ⟨_, _, _, _, _, _, _, rfl⟩
theorem ValJ.kindN {ok : Nat -> Prop} {w : World} {k b i f t kv lv} {j : J} (h : ValJ ok w (cells7 k b i f t kv lv) j) : (k = 0 -> j = .null) /\ (k = 7 -> isT j = true) /\ (j = .null -> k = 0) /\ (isT j = true -> k = 7) := by
 cases h <;> simp [isT]
def BoolPost (w : World) (R : Bool -> World -> Prop) (e : Ending) (w' : World) : Prop := ∃ r : Bool, e = .returned (.bool r) /\ Chg No w w' /\ R r w'
theorem right_any {ok : Nat -> Prop} {cs : List Value} {w : World} (h : RawV ok w cs) (n : Nat) (hn : n ≤ 1099511627776) :
  Calls Tryz.prog 17 #[.agg cs.toArray, .int .i64 (n : Int)] w (BoolPost w fun r w' => r = true -> ∃ j, ValJ ok w' cs j /\ Wf (sz j) 50 j /\ sz j ≤ n) := by
 have H := Hd h
 have HN := Hd hn
 obtain ⟨k, b, i, f, t, kv, lv, rfl⟩ := h.cells
 have hfacts : ∀ W, (w.alloc (.cells (cells7 k b i f t kv lv).toArray 26)).alloc (.cells [.int .i64 (n : Int)].toArray 3) = W ->
   Blk W w.heap.size (cells7 k b i f t kv lv) 26 /\ Blk W (w.heap.size + 1) [.int .i64 (n : Int)] 3 /\ Chg No w W := by
  rintro W rfl
  exact ⟨(Blk.new _ _ _).alloc _, Blk.newAt (by simp) _ _, ((Chg.refl No w).alloc _).alloc _⟩
 have HF := Hd hfacts
 clear h hn hfacts
 go_enter Tryz.func17, Tryz.ntmps17
 unfold cells7
 go_upto_region 2 with fail
 generalize hgw : World.alloc _ _ = W
 obtain ⟨b0, b1, c1⟩ := HF.out W hgw
 clear hgw HF
 have HB1 := Hd b1
 have HC1 := Hd c1
 clear b1 c1
 go_wp2_with (first | (with_reducible refine wpList_loadAgg rfl agg26 rfl rfl b0.cells rfl ?_))
 have hcall := tbRight_any 50 (okB ok w) (cells7 k b i f t kv lv) W (w.heap.size + 1) n ((H.out.mono (ok' := okB ok w) (fun b hb h => ⟨h, hb⟩)).chg HC1.out (fun _ _ e => e)) HB1.out (fun h => by have := h.2; omega) HN.out (by decide)
 refine Calls.mono hcall ?_
 rintro e w5 ⟨r, rfl, hc5, hp5⟩
 have HC5 := Hd hc5
 have HP5 := Hd hp5
 clear hcall hc5 hp5
 go_wp2_with fail
 go_ret
 refine ⟨r, rfl, HC1.out.trans HC5.out (fun i hi e => by omega), fun h => ?_⟩
 obtain ⟨j, h1, h2, h3, -⟩ := HP5.out h
 exact ⟨j, h1.mono (fun b _ hb => hb.1), h2, h3⟩
theorem zzFits3_any {ok : Nat -> Prop} {ks : List K} {v : Value} {w : World} (h : RowAt ok w v 1 (kRows ks)) : Calls Tryz.prog 33 #[v] w (BoolPost w fun _ _ => True) := by
 have H := Hd h
 have h1 := h.1
 obtain ⟨-, -, a, c, rfl, -, -⟩ := h
 simp only [kRows, List.length_map] at H h1
 unfold maxLen at h1
 by_cases hb : (2147483647 : Int) < (ks.length : Int)
 ·go_enter Tryz.func33, Tryz.ntmps33
  simp only [kRows, List.length_map]
  go_wp2
  go_ret
  exact ⟨false, rfl, Chg.refl _ _, trivial⟩
 ·go_enter Tryz.func33, Tryz.ntmps33
  simp only [kRows, List.length_map]
  go_wp2_with fail
  go_loopw [10] (fun ct wr => ∃ n : Nat, ct = .int .i64 n /\ n ≤ ks.length /\ Chg No w wr) (fun ct _ => ks.length - (intOf ct).toNat)
  case atStart => exact ⟨0, rfl, Nat.zero_le _, Chg.refl _ _⟩
  case round =>
   obtain ⟨n, rfl, hn, hc⟩ := hrel
   have HC := Hd hc
   by_cases hlt : n < ks.length
   ·obtain ⟨x, hx⟩ : ∃ x, ks[n]? = some x := ⟨_, List.getElem?_eq_getElem hlt⟩
    obtain ⟨kb, ko, rfl, -, hka⟩ := H.out.at (i := n) (r := [.string x]) (by simp [hx])
    have hka := (hka.chg hc id).one
    simp only [Nat.mul_one] at hka
    have h64 : (n : Int) < (ks.length : Int) := by omega
    clear hx hc
    by_cases hs : (2147483647 : Int) < (x.size : Int)
    ·go_wp2
     go_ret
     exact ⟨false, rfl, HC.out, trivial⟩
    ·go_wp2_with fail
     go_roundw
     case rel => exact ⟨n + 1, by go_num, by omega, HC.out⟩
     case measure => simp [intOf]; omega
   ·have h64 : ¬ (n : Int) < (ks.length : Int) := by omega
    go_wp2
    go_ret
    exact ⟨true, rfl, HC.out, trivial⟩
theorem zzFits2_any {ok : Nat -> Prop} {cs : List Value} {w : World} (h : RawV ok w cs) : Calls Tryz.prog 7 #[.agg cs.toArray] w (BoolPost w fun _ _ => True) := by
 cases h with
 | @mk k b i f t kv lv ks rows hk hks hl hr =>
  have HK := Hd hk
  have hl1 := hl.1
  obtain ⟨-, -, la, lc, rfl, -, -⟩ := hl
  unfold maxLen at hl1
  clear hk hks hr
  have hfacts : ∀ W, (w.alloc (.cells (cells7 k b i f t kv (.slice la rows.length lc)).toArray 26)) = W ->
    Blk W w.heap.size (cells7 k b i f t kv (.slice la rows.length lc)) 26 /\ Chg No w W := by
   rintro W rfl
   exact ⟨Blk.new _ _ _, (Chg.refl No w).alloc _⟩
  have HF := Hd hfacts
  clear hfacts
  go_enter Tryz.func7, Tryz.ntmps7
  unfold cells7
  go_upto_region 1 with fail
  generalize hgw : World.alloc _ _ = W
  obtain ⟨b0, c1⟩ := HF.out W hgw
  clear hgw HF
  have HB0 := Hd b0
  have HC1 := Hd c1
  have k4 : W.cell? ⟨w.heap.size, 4, none⟩ = some (.string t) := b0.cell 4
  have k5 : W.cell? ⟨w.heap.size, 5, none⟩ = some kv := b0.cell 5
  clear b0 c1
  by_cases ht : (2147483647 : Int) < (t.size : Int)
  ·go_wp2
   go_ret
   exact ⟨false, rfl, HC1.out, trivial⟩
  ·go_wp2_with fail
   refine (zzFits3_any ((HK.out.mono (ok' := okB ok w) (fun b hb h => ⟨h, hb⟩) (by decide)).chg HC1.out (fun _ _ e => e))).mono ?_
   rintro e w5 ⟨r, rfl, hc5, -⟩
   have HC5 := Hd hc5
   have k6 : w5.cell? ⟨w.heap.size, 6, none⟩ = some (.slice la rows.length lc) := (HB0.out.chg hc5 id).cell 6
   clear hc5 k4 k5
   cases r with
   | false =>
    go_wp2
    go_ret
    exact ⟨false, rfl, HC1.out.trans' HC5.out, trivial⟩
   | true =>
    by_cases hr : (2147483647 : Int) < (rows.length : Int)
    ·go_wp2
     go_ret
     exact ⟨false, rfl, HC1.out.trans' HC5.out, trivial⟩
    ·go_wp2
     go_ret
     exact ⟨true, rfl, HC1.out.trans' HC5.out, trivial⟩
structure TL (ok : Nat -> Prop) (rows : List (List Value)) (w wr : World) (n : Nat) (js : List J) : Prop where
 le : n ≤ rows.length
 len : js.length = n
 val : ∀ (i : Nat) (r : List Value) (x : J), rows[i]? = some r -> js[i]? = some x -> ValJ (okB ok w) wr r x
 good : ∀ x ∈ js, Wf 300 50 x /\ (x = .null ∨ isT x = true) /\ sz x ≤ 300
 chg : Chg No w wr
theorem TL.step {ok : Nat -> Prop} {rows : List (List Value)} {w wr w' : World} {n : Nat} {js : List J} (h : TL ok rows w wr n js) {r : List Value} (hr : rows[n]? = some r) {j : J} (hv : ValJ (okB ok w) w' r j)
  (hw : Wf (sz j) 50 j) (hs : sz j ≤ 300) (hk : j = .null ∨ isT j = true) (hc : Chg No wr w') : TL ok rows w w' (n + 1) (js ++ [j]) := by
 have hlt : n < rows.length := (List.getElem?_eq_some_iff.1 hr).1
 refine ⟨hlt, by simp [h.len], fun i r' x hi hx => ?_, fun x hx => ?_, h.chg.trans' hc⟩
 ·by_cases hi2 : i < js.length
  ·rw [List.getElem?_append_left hi2] at hx
   exact (h.val i r' x hi hx).chg hc (fun _ _ e => e)
  ·have : i = js.length := by
    have := (List.getElem?_eq_some_iff.1 hx).1
    simp at this
    omega
   subst this
   rw [List.getElem?_append_right (Nat.le_refl _), Nat.sub_self] at hx
   cases hx
   rw [h.len, hr] at hi
   cases hi
   exact hv
 ·rcases List.mem_append.1 hx with hx | hx
  ·exact h.good x hx
  ·rw [List.mem_singleton.1 hx]; exact ⟨hw.mono hs (Nat.le_refl _), hk, hs⟩
theorem lit_beq (a : K) (l : List UInt8) : (a.toList == l) = decide (a = ⟨l.toArray⟩) := by
 have h : (⟨l.toArray⟩ : K).toList = l := by rw [ByteArray.toList_eq]
 rw [← h, toList_beq, h]
theorem lit0_beq (a : K) : (a.toList == []) = decide (a = ByteArray.empty) := lit_beq a []
def BoolSame (w : World) (R : Bool -> Prop) (e : Ending) (w' : World) : Prop := ∃ r : Bool, e = .returned (.bool r) /\ w' = w /\ R r
theorem chPlain_any (s : K) (hs : kOk s) (w : World) : Calls Tryz.prog 108 #[.string s] w (BoolSame w fun r => r = true -> PlainS s) := by
 have hs1 : (s.size : Int) < 140737488355329 := by unfold kOk at hs; omega
 clear hs
 go_enter Tryz.func108, Tryz.ntmps108
 go_wp2_with fail
 go_loopw [6] (fun ct wr => ∃ n : Nat, ct = .int .i64 n /\ n ≤ s.size /\ (∀ (i : Nat) (h : i < s.size), i < n -> 97 ≤ s[i].toNat /\ s[i].toNat ≤ 122) /\ wr = w) (fun ct _ => s.size - (intOf ct).toNat)
 case atStart => exact ⟨0, rfl, Nat.zero_le _, fun i h h2 => absurd h2 (Nat.not_lt_zero _), rfl⟩
 case round =>
  obtain ⟨n, rfl, hn, hlow, rfl⟩ := hrel
  have HLOW := Hd hlow
  clear hlow
  by_cases hlt : n < s.size
  ·have h64 : (n : Int) < (s.size : Int) := by omega
   by_cases h1 : (s[n].toNat : Int) < 97
   ·go_wp2
    go_ret
    exact ⟨false, rfl, rfl, fun h => by cases h⟩
   ·by_cases h2 : (122 : Int) < (s[n].toNat : Int)
    ·go_wp2
     go_ret
     exact ⟨false, rfl, rfl, fun h => by cases h⟩
    ·have HB := Hd (show 97 ≤ s[n].toNat /\ s[n].toNat ≤ 122 by omega)
     go_wp2_with fail
     go_roundw
     case rel =>
      refine ⟨n + 1, by go_num, by omega, fun i h hi => ?_, trivial⟩
      by_cases e : i = n
      ·subst e; exact HB.out
      ·exact HLOW.out i h (by omega)
     case measure => simp [intOf]; omega
  ·have h64 : ¬ (n : Int) < (s.size : Int) := by omega
   have HL2 := Hd (show ∀ (i : Nat) (h : i < s.size), 97 ≤ s[i].toNat /\ s[i].toNat ≤ 122 from fun i h => HLOW.out i h (by omega))
   clear HLOW
   have e1 : (s.toList == []) = decide (s = ByteArray.empty) := lit_beq s []
   have e2 : (s.toList == [103, 108, 111, 98, 97, 108]) = decide (s = gK) := by rw [gK_lit]; exact lit_beq s _
   have e3 : (s.toList == [116, 97, 103, 115]) = decide (s = tK) := lit_beq s _
   by_cases k1 : s = ByteArray.empty
   ·have b1 : (s.toList == []) = true := by rw [e1]; simpa using k1
    clear e1 e2 e3 k1
    go_wp2
    go_ret
    exact ⟨false, rfl, rfl, fun h => by cases h⟩
   have b1 : (s.toList == []) = false := by rw [e1]; simpa using k1
   have K1 := Hd k1
   clear k1 e1
   by_cases k2 : (s.size : Int) ≤ 12
   ·by_cases k3 : s = gK
    ·have b2 : (s.toList == [103, 108, 111, 98, 97, 108]) = true := by rw [e2]; simpa using k3
     clear e2 e3 k3
     go_wp2
     go_ret
     exact ⟨false, rfl, rfl, fun h => by cases h⟩
    have b2 : (s.toList == [103, 108, 111, 98, 97, 108]) = false := by rw [e2]; simpa using k3
    have K3 := Hd k3
    clear k3 e2
    by_cases k4 : s = tK
    ·have b3 : (s.toList == [116, 97, 103, 115]) = true := by rw [e3]; simpa using k4
     clear e3 k4
     go_wp2
     go_ret
     exact ⟨false, rfl, rfl, fun h => by cases h⟩
    ·have b3 : (s.toList == [116, 97, 103, 115]) = false := by rw [e3]; simpa using k4
     have K4 := Hd k4
     clear k4 e3
     go_wp2
     go_ret
     exact ⟨true, rfl, rfl, fun _ => ⟨K1.out, by omega, K3.out, K4.out, HL2.out⟩⟩
   ·clear e2 e3
    go_wp2
    go_ret
    exact ⟨false, rfl, rfl, fun h => by cases h⟩
theorem partsGo_size {s : K} {c : Nat} : ∀ {k i b : Nat} {x : K}, x ∈ partsGo s c k i b -> x.size ≤ s.size
 | 0, _, _, x, h => by unfold partsGo at h; cases h
 | k + 1, i, b, x, h => by
  unfold partsGo at h
  split at h
  ·rcases List.mem_cons.1 h with rfl | h
   ·rw [ByteArray.size_extract]; omega
   ·exact partsGo_size h
  ·exact partsGo_size h
theorem parts_size {s : K} {c : Nat} {x : K} (h : x ∈ parts s c) : x.size ≤ s.size := partsGo_size h
theorem version_any (s : K) (hs : s.size < 1099511627776) (w : World) : Calls Tryz.prog 73 #[.string s] w (BoolPost w fun r _ => r = true -> Ver s) := by
 have HSZ := Hd hs
 go_enter Tryz.func73, Tryz.ntmps73
 go_wp2_with fail
 refine (names_any s HSZ.out w).mono ?_
 rintro e w1 ⟨v, rfl, hown, hc⟩
 have hrow := hown.rowAt
 obtain ⟨va, vc, rfl⟩ := hown.slice1
 simp only [kRows, List.length_map] at hrow ⊢
 have hpl : (parts s 46).length < 1099511627777 := by have := parts_length s 46; omega
 have hpl2 : ((parts s 46).length : Int) < 1099511627777 := by omega
 have HROW := Hd hrow
 have HC := Hd hc
 clear hown hrow hc hpl hs
 go_wp2_with fail
 go_loopw [11] (fun ct wr => ∃ n : Nat, ct = .int .i64 n /\ n ≤ (parts s 46).length /\ (∀ x ∈ (parts s 46).take n, OkPart x) /\ wr = w1) (fun ct _ => (parts s 46).length - (intOf ct).toNat)
 case atStart => exact ⟨0, rfl, Nat.zero_le _, by simp, rfl⟩
 case round =>
  obtain ⟨n, rfl, hn, hall, hwr⟩ := hrel
  obtain rfl := hwr.symm
  have HALL := Hd hall
  clear hall
  by_cases hlt : n < (parts s 46).length
  ·obtain ⟨x, hx⟩ : ∃ x, (parts s 46)[n]? = some x := ⟨_, List.getElem?_eq_getElem hlt⟩
   obtain ⟨lb, lo, rfl, -, hlc⟩ := HROW.out.at (i := n) (r := [.string x]) (by simp [hx])
   have hlc := hlc.one
   simp only [Nat.mul_one] at hlc
   have hxs : x.size ≤ s.size := parts_size (List.mem_of_getElem? hx)
   have hxs2 : (x.size : Int) < 1099511627776 := by have := HSZ.out; omega
   have h64 : (n : Int) < ((parts s 46).length : Int) := by omega
   have HX := Hd hx
   clear hx hxs
   go_wp2_with fail
   go_loopw [17] (fun ct wr => ∃ m : Nat, ct = .int .i64 m /\ m ≤ x.size /\ (∀ (i : Nat) (h : i < x.size), i < m -> 48 ≤ x[i].toNat /\ x[i].toNat ≤ 57) /\ wr = w1) (fun ct _ => x.size - (intOf ct).toNat)
   case atStart => exact ⟨0, rfl, Nat.zero_le _, fun i h h2 => absurd h2 (Nat.not_lt_zero _), rfl⟩
   case round =>
    obtain ⟨m, rfl, hm, hdig, hwr⟩ := hrel
    obtain rfl := hwr.symm
    have HDIG := Hd hdig
    clear hdig
    by_cases hlm : m < x.size
    ·have h65 : (m : Int) < (x.size : Int) := by omega
     by_cases h1 : (x[m].toNat : Int) < 48
     ·go_wp2
      go_ret
      exact ⟨false, rfl, HC.out, fun h => by cases h⟩
     ·by_cases h2 : (57 : Int) < (x[m].toNat : Int)
      ·go_wp2
       go_ret
       exact ⟨false, rfl, HC.out, fun h => by cases h⟩
      ·have HB := Hd (show 48 ≤ x[m].toNat /\ x[m].toNat ≤ 57 by omega)
       go_wp2_with fail
       go_roundw
       case rel =>
        refine ⟨m + 1, by go_num, by omega, fun i h hi => ?_, trivial⟩
        by_cases e : i = m
        ·subst e; exact HB.out
        ·exact HDIG.out i h (by omega)
       case measure => simp [intOf]; omega
    ·have h65 : ¬ (m : Int) < (x.size : Int) := by omega
     have HD2 := Hd (show ∀ (i : Nat) (h : i < x.size), 48 ≤ x[i].toNat /\ x[i].toNat ≤ 57 from fun i h => HDIG.out i h (by omega))
     clear HDIG
     by_cases k1 : x = ByteArray.empty
     ·have b1 : (x.toList == []) = true := by rw [lit0_beq]; simpa using k1
      clear k1
      go_wp2
      go_ret
      exact ⟨false, rfl, HC.out, fun h => by cases h⟩
     have b1 : (x.toList == []) = false := by rw [lit0_beq]; simpa using k1
     have hpos : 0 < x.size := Nat.pos_of_ne_zero (fun e => k1 (ByteArray.size_eq_zero_iff.1 e))
     clear k1
     by_cases k2 : (9 : Int) < (x.size : Int)
     ·go_wp2
      go_ret
      exact ⟨false, rfl, HC.out, fun h => by cases h⟩
     have hrnd : OkPart x -> ∀ y ∈ (parts s 46).take (n + 1), OkPart y := fun h y hy => by
      rw [List.take_add_one, HX.out] at hy
      rcases List.mem_append.1 hy with hy | hy
      ·exact HALL.out y hy
      ·obtain rfl : y = x := by simpa using hy
       exact h
     have HRND := Hd hrnd
     clear hrnd
     by_cases k3 : (1 : Int) < (x.size : Int)
     ·have h0 : 0 < x.size := hpos
      by_cases k4 : (x[0].toNat : Int) = 48
      ·have k5 : ((x[0].toNat : Int) == 48) = true := by simpa using k4
       clear k4
       go_wp2
       go_ret
       exact ⟨false, rfl, HC.out, fun h => by cases h⟩
      ·have k5 : ((x[0].toNat : Int) == 48) = false := by simpa using k4
       have HP := Hd (show OkPart x from ⟨HD2.out, hpos, by omega, fun _ => by omega⟩)
       clear k4
       go_wp2_with fail
       go_roundw
       case rel => exact ⟨n + 1, by go_num, by omega, HRND.out HP.out, trivial⟩
       case measure => simp [intOf]; omega
     ·have HP := Hd (show OkPart x from ⟨HD2.out, hpos, by omega, fun h => absurd h (by omega)⟩)
      go_wp2_with fail
      go_roundw
      case rel => exact ⟨n + 1, by go_num, by omega, HRND.out HP.out, trivial⟩
      case measure => simp [intOf]; omega
  ·have h64 : ¬ (n : Int) < ((parts s 46).length : Int) := by omega
   have HA2 := Hd (show ∀ x ∈ parts s 46, OkPart x by have h := HALL.out; rwa [List.take_of_length_le (by omega)] at h)
   clear HALL
   by_cases k1 : ((parts s 46).length : Int) = 3
   ·have k2 : (((parts s 46).length : Int) == 3) = true := by simpa using k1
    have HK1 := Hd k1
    clear k1
    go_wp2
    go_ret
    exact ⟨true, rfl, HC.out, fun _ => ⟨by have := HK1.out; omega, HA2.out⟩⟩
   ·have k2 : (((parts s 46).length : Int) == 3) = false := by simpa using k1
    clear k1
    go_wp2
    go_ret
    exact ⟨false, rfl, HC.out, fun h => by cases h⟩
theorem plain_any (s : K) (hs : kOk s) (hv : Ver s) (w : World) : Calls Tryz.prog 84 #[.string s] w fun e w' => e = .returned (.bool true) /\ w' = w := by
 have hs1 : (s.size : Int) < 140737488355329 := by unfold kOk at hs; omega
 have HV := Hd hv
 clear hs hv
 go_enter Tryz.func84, Tryz.ntmps84
 go_wp2_with fail
 go_loopw [3, 4, 5] (fun nt dt ct wr => ∃ n b d i : Nat, nt = .int .i64 n /\ dt = .int .i64 d /\ ct = .int .i64 i /\ b + d = i /\ PV s i n b /\ wr = w) (fun _ _ ct _ => s.size - (intOf ct).toNat)
 case atStart => exact ⟨0, 0, 0, 0, rfl, rfl, rfl, rfl, PV.start s, rfl⟩
 case round =>
  obtain ⟨n, b, d, i, rfl, rfl, rfl, hi, hpv, hwr⟩ := hrel
  obtain rfl := hwr.symm
  clear hwr
  have HPV := Hd hpv
  have HLE := Hd hpv.le
  have HI := Hd hi
  have hsub : (i : Int) - (d : Int) = (b : Int) := by omega
  have hnb : n ≤ 3 := by
   obtain ⟨acc, ha, hp⟩ := hpv.acc
   have := HV.out.1
   rw [← hp] at this
   simp at this
   omega
  clear hpv hi
  by_cases hlt : i < s.size
  ·have h64 : (i : Int) < (s.size : Int) := by omega
   have hbs : b < s.size := by have := HI.out; omega
   go_upto_region 7 with fail
   obtain ⟨c, hc⟩ : ∃ c, c = s[i].toNat := ⟨_, rfl⟩
   rw [← hc]
   by_cases hpt : s[i].toNat = 46
   ·obtain ⟨hd, hnx⟩ := HPV.out.point HV.out hlt hpt
    have HNX := Hd hnx
    have h1 : ¬ (48 : Int) ≤ (c : Int) := by omega
    have h2 : ((c : Int) == 46) = true := by simp; omega
    have h3 : 0 < d := by have := HI.out; omega
    clear hpt hnx hd hsub hc h64
    go_wp2_with fail
    go_roundw
    case rel => exact ⟨n + 1, i + 1, 0, i + 1, by go_num, rfl, by go_num, rfl, HNX.out, trivial⟩
    case measure => simp [intOf]; omega
   ·obtain ⟨hdg, h8, hz, hnx⟩ := HPV.out.digit HV.out hlt hpt
    have HNX := Hd hnx
    have h1 : (48 : Int) ≤ (c : Int) := by omega
    have h2 : (c : Int) ≤ 57 := by omega
    have h3 : ¬ (8 : Int) < (d : Int) := by have := HI.out; omega
    clear hpt hnx hdg h8
    by_cases hd : 0 < d
    ·have hz2 := hz (by have := HI.out; omega) hbs
     have hz3 : ((s[b].toNat : Int) == 48) = false := by simp; omega
     clear hz hz2 hc h64
     go_wp2_with fail
     go_roundw
     case rel => exact ⟨n, b, d + 1, i + 1, by go_num, by go_num, by go_num, by have := HI.out; omega, HNX.out, trivial⟩
     case measure => simp [intOf]; omega
    ·clear hz hc h64
     go_wp2_with fail
     go_roundw
     case rel => exact ⟨n, b, d + 1, i + 1, by go_num, by go_num, by go_num, by have := HI.out; omega, HNX.out, trivial⟩
     case measure => simp [intOf]; omega
  ·have h64 : ¬ (i : Int) < (s.size : Int) := by omega
   have he : i = s.size := by have := HLE.out; omega
   have hdn := HPV.out
   rw [he] at hdn
   obtain ⟨h2, h3⟩ := hdn.done HV.out
   subst h2
   have h5 : (0 : Int) < (d : Int) := by have := HI.out; omega
   have h6 : decide ((0 : Int) < (d : Int)) = true := by simpa using h5
   clear hdn h3 he hsub
   go_wp2
   go_ret
   have h7 : 0 < d := by omega
   exact ⟨by simp [h7], rfl⟩
def NoN : Nat -> J -> Prop
 | 0, _ => True
 | d + 1, j => j ≠ .null /\ ∀ x ∈ jxs j, NoN d x
theorem mtNull_any (N d : Nat) : ∀ (ok : Nat -> Prop) (j : J) (cs : List Value) (w : World), ValJ ok w cs j -> Wf N d j -> Calls Tryz.prog 38 #[.agg cs.toArray] w (BoolPost w fun r _ => r = false -> ∀ e, NoN e j) := by
 induction d with
 | zero => intro ok j cs w _ h; exact h.elim
 | succ d ih =>
  intro ok j cs w hv wf
  obtain ⟨k, b, i, f, t, kv, lv, rfl⟩ := hv.seven
  have HKN := Hd hv.kindN
  obtain ⟨-, rows, hl, hn, hr⟩ := hv.bel.parts
  have HL := Hd hl
  have HR := Hd hr
  have HN := Hd hn
  have WX := Hd wf.jxs.2
  have IH := Hd ih
  have hl1 := hl.1
  obtain ⟨-, -, la, lc, rfl, -, -⟩ := hl
  unfold maxLen at hl1
  have hfacts : ∀ W, (w.alloc (.cells (cells7 k b i f t kv (.slice la rows.length lc)).toArray 26)) = W -> Blk W w.heap.size (cells7 k b i f t kv (.slice la rows.length lc)) 26 /\ Chg No w W := by
   rintro W rfl
   exact ⟨Blk.new _ _ _, (Chg.refl No w).alloc _⟩
  have HF := Hd hfacts
  clear hfacts hv wf hn hr ih
  go_enter Tryz.func38, Tryz.ntmps38
  unfold cells7
  go_upto_region 1 with fail
  generalize hgw : World.alloc _ _ = W
  obtain ⟨b0, c1⟩ := HF.out W hgw
  clear hgw HF
  have k6 : W.cell? ⟨w.heap.size, 6, none⟩ = some (.slice la rows.length lc) := b0.cell 6
  have HB0 := Hd b0
  have HC1 := Hd c1
  clear b0 c1
  go_wp2_with fail
  clear k6
  go_loopw [8] (fun ct wr => ∃ n : Nat, ct = .int .i64 n /\ n ≤ rows.length /\ (∀ x ∈ (jxs j).take n, ∀ e, NoN e x) /\ Chg No W wr) (fun ct _ => rows.length - (intOf ct).toNat)
  case atStart => exact ⟨0, rfl, Nat.zero_le _, by simp, Chg.refl _ _⟩
  case round =>
   obtain ⟨n, rfl, hnl, hall, hc⟩ := hrel
   have HALL := Hd hall
   have HC := Hd hc
   clear hall hc
   by_cases hlt : n < rows.length
   ·obtain ⟨r, hr0⟩ : ∃ r, rows[n]? = some r := ⟨_, List.getElem?_eq_getElem hlt⟩
    obtain ⟨x, hx⟩ : ∃ x, (jxs j)[n]? = some x := ⟨_, List.getElem?_eq_getElem (by rw [← HN.out]; exact hlt)⟩
    obtain ⟨lb, lo, rfl, -, hlc⟩ := HL.out.at (i := n) (r := r) hr0
    have hlc := (hlc.chg HC1.out id).chg HC.out id
    have hvr := (((HR.out n r x hr0 hx).chg HC1.out (fun _ _ e => e)).chg HC.out (fun _ _ e => e))
    have hrl := hvr.length
    have hro := hvr.one
    have HVR := Hd (hvr.chg ((Chg.refl No wr).alloc (.cells r.toArray 26)) (fun _ _ e => e))
    have HX := Hd hx
    have h64 : (n : Int) < (rows.length : Int) := by omega
    clear hvr hx hr0
    go_wp2_with (first | (with_reducible refine wpList_loadAgg rfl agg26 rfl rfl hlc hrl ?_) | (with_reducible refine wpList_storeNew rfl agg26 rfl rfl rfl rfl hrl hro ?_) | (with_reducible refine wpList_loadAgg rfl agg26 rfl rfl (Blk.new wr r 26).cells hrl ?_))
    refine (IH.out (okB ok w) x r (wr.alloc (.cells r.toArray 26)) HVR.out (WX.out x (List.mem_of_getElem? HX.out))).mono ?_
    rintro e w3 ⟨rr, rfl, hc3, hp3⟩
    have HC3 := Hd (HC.out.trans' (((Chg.refl No wr).alloc (.cells r.toArray 26)).trans' hc3))
    have HP3 := Hd hp3
    clear hc3 hp3
    cases rr with
    | true =>
     go_wp2
     go_ret
     exact ⟨true, rfl, HC1.out.trans' HC3.out, fun h => by cases h⟩
    | false =>
     go_wp2_with fail
     go_roundw
     case rel =>
      refine ⟨n + 1, by go_num, by omega, fun y hy => ?_, HC3.out⟩
      rw [List.take_add_one, HX.out] at hy
      rcases List.mem_append.1 hy with hy | hy
      ·exact HALL.out y hy
      ·obtain rfl : y = x := by simpa using hy
       exact HP3.out trivial
     case measure => simp [intOf]; omega
   ·have h64 : ¬ (n : Int) < (rows.length : Int) := by omega
    have hall : ∀ x ∈ jxs j, ∀ e, NoN e x := by
     have h := HALL.out
     rwa [List.take_of_length_le (by rw [← HN.out]; omega)] at h
    have HALL2 := Hd hall
    have k0 : wr.cell? ⟨w.heap.size, 0, none⟩ = some (.int .i64 k) := (HB0.out.chg HC.out id).cell 0
    clear hall HALL
    by_cases hk : k = 0
    ·subst hk
     go_wp2
     go_ret
     exact ⟨true, rfl, HC1.out.trans' HC.out, fun h => by cases h⟩
    ·have hkb : (k == 0) = false := by simpa using hk
     have HNK := Hd hk
     clear hk
     go_wp2
     go_ret
     refine ⟨false, rfl, HC1.out.trans' HC.out, fun _ e => ?_⟩
     cases e with
     | zero => trivial
     | succ e => exact ⟨fun h => HNK.out (HKN.out.2.2.1 h), fun x hx => HALL2.out x hx e⟩
def ShX (j : J) (i : Nat) : Prop := ∀ x, (jxs j)[i]? = some x -> ShalA x /\ (isT j = true -> (jks j)[i]? = some gK -> ∀ y ∈ jxs x, ∀ z ∈ jxs y, isT z = false)
theorem shalA_of {j : J} (h : ∀ i, ShX j i) : ShalA j := by
 intro d
 cases d with
 | zero => trivial
 | succ d =>
  intro t e k x hx
  subst e
  obtain ⟨i, hi⟩ := List.getElem?_of_mem (get_mem hx)
  obtain ⟨h1, h2⟩ := h i x (by simp [jxs, hi])
  refine ⟨h1 d, fun hk s es k' y hy => ?_⟩
  subst es
  intro u eu k'' z hz
  subst eu
  refine h2 rfl (by simp [jks, hi, hk]) (.table u) ?_ z ?_
  ·exact List.mem_map.2 ⟨_, get_mem hy, rfl⟩
  ·exact List.mem_map.2 ⟨_, get_mem hz, rfl⟩
theorem mtShallow_any (N d : Nat) : ∀ (ok : Nat -> Prop) (j : J) (cs : List Value) (w : World), ValJ ok w cs j -> Wf N d j -> Calls Tryz.prog 35 #[.agg cs.toArray] w (BoolPost w fun r _ => r = true -> ShalA j) := by
 induction d with
 | zero => intro ok j cs w _ h; exact h.elim
 | succ d ih =>
  intro ok j cs w hv wf
  obtain ⟨k, b, i, f, t, kv, lv, rfl⟩ := hv.seven
  have HKN := Hd hv.kindN
  obtain ⟨hk, rows, hl, hn, hr⟩ := hv.bel.parts
  have hkn : isT j = true -> (jks j).length = rows.length := fun h => by
   rw [hn]
   cases j with
   | table kvs => simp [jks, jxs]
   | _ => cases h
  have HKEY := Hd hkn
  have HK := Hd hk
  have HL := Hd hl
  have HR := Hd hr
  have HN := Hd hn
  have WX := Hd wf.jxs.2
  have IH := Hd ih
  have hl1 := hl.1
  have hk1 := hk.1
  obtain ⟨-, -, la, lc, rfl, -, -⟩ := hl
  obtain ⟨-, -, ka, kc, rfl, -, -⟩ := hk
  unfold maxLen at hl1 hk1
  simp only [kRows, List.length_map] at hk1 HK ⊢
  have hfacts : ∀ W, (w.alloc (.cells (cells7 k b i f t (.slice ka (jks j).length kc) (.slice la rows.length lc)).toArray 26)) = W -> Blk W w.heap.size (cells7 k b i f t (.slice ka (jks j).length kc) (.slice la rows.length lc)) 26 /\ Chg No w W := by
   rintro W rfl
   exact ⟨Blk.new _ _ _, (Chg.refl No w).alloc _⟩
  have HF := Hd hfacts
  clear hfacts hv wf hn hr ih hkn
  go_enter Tryz.func35, Tryz.ntmps35
  unfold cells7
  go_upto_region 1 with fail
  generalize hgw : World.alloc _ _ = W
  obtain ⟨b0, c1⟩ := HF.out W hgw
  clear hgw HF
  have k6 : W.cell? ⟨w.heap.size, 6, none⟩ = some (.slice la rows.length lc) := b0.cell 6
  have HB0 := Hd b0
  have HC1 := Hd c1
  clear b0 c1
  go_wp2_with fail
  clear k6
  go_loopw [12] (fun ct wr => ∃ n : Nat, ct = .int .i64 n /\ n ≤ rows.length /\ (∀ i, i < n -> ShX j i) /\ Chg No W wr) (fun ct _ => rows.length - (intOf ct).toNat)
  case atStart => exact ⟨0, rfl, Nat.zero_le _, fun i h => absurd h (Nat.not_lt_zero _), Chg.refl _ _⟩
  case round =>
   obtain ⟨n, rfl, hnl, hall, hc⟩ := hrel
   have HALL := Hd hall
   have HC := Hd hc
   clear hall hc
   by_cases hlt : n < rows.length
   ·obtain ⟨r, hr0⟩ : ∃ r, rows[n]? = some r := ⟨_, List.getElem?_eq_getElem hlt⟩
    obtain ⟨x, hx⟩ : ∃ x, (jxs j)[n]? = some x := ⟨_, List.getElem?_eq_getElem (by rw [← HN.out]; exact hlt)⟩
    obtain ⟨lb, lo, rfl, -, hlc⟩ := HL.out.at (i := n) (r := r) hr0
    have hlc := (hlc.chg HC1.out id).chg HC.out id
    have hvr := (((HR.out n r x hr0 hx).chg HC1.out (fun _ _ e => e)).chg HC.out (fun _ _ e => e))
    have hrl := hvr.length
    have hro := hvr.one
    have HVR := Hd (hvr.chg ((Chg.refl No wr).alloc (.cells r.toArray 26)) (fun _ _ e => e))
    have HX := Hd hx
    have h64 : (n : Int) < (rows.length : Int) := by omega
    clear hvr hx hr0
    go_wp2_with (first | (with_reducible refine wpList_loadAgg rfl agg26 rfl rfl hlc hrl ?_) | (with_reducible refine wpList_storeNew rfl agg26 rfl rfl rfl rfl hrl hro ?_) | (with_reducible refine wpList_loadAgg rfl agg26 rfl rfl (Blk.new wr r 26).cells hrl ?_))
    refine (IH.out (okB ok w) x r (wr.alloc (.cells r.toArray 26)) HVR.out (WX.out x (List.mem_of_getElem? HX.out))).mono ?_
    rintro e w3 ⟨rr, rfl, hc3, hp3⟩
    obtain ⟨g, hg⟩ : ∃ g, g = wr.heap.size := ⟨_, rfl⟩
    have hbx := (Blk.newAt hg r 26).chg hc3 id
    rw [← hg]
    have HBX := Hd hbx
    have HVR := Hd (HVR.out.chg hc3 (fun _ _ e => e))
    have HC3 := Hd (HC.out.trans' (((Chg.refl No wr).alloc (.cells r.toArray 26)).trans' hc3))
    have HP3 := Hd hp3
    clear hc3 hp3 hbx hg hlc hrl hro
    cases rr with
    | false =>
     go_wp2
     go_ret
     exact ⟨false, rfl, HC1.out.trans' HC3.out, fun h => by cases h⟩
    | true =>
     have b3 := (HB0.out.chg HC3.out id).cells
     go_wp2_with (first | (with_reducible refine wpList_loadAgg rfl agg26 rfl rfl b3 rfl ?_) | (with_reducible refine wpList_loadAggG rfl agg26 rfl rfl b3 rfl ?_))
     refine (isTable_any k i b f t (.slice ka (jks j).length kc) (.slice (some ⟨lb, lo, none⟩) rows.length lc) w3).mono ?_
     rintro e w4 ⟨rfl, hc4⟩
     have HC4 := Hd (HC3.out.trans' hc4)
     have HBX := Hd (HBX.out.chg hc4 id)
     have HVR := Hd (HVR.out.chg hc4 (fun _ _ e => e))
     clear hc4 b3
     have hstep : (isT j = true -> (jks j)[n]? = some gK -> ∀ y ∈ jxs x, ∀ z ∈ jxs y, isT z = false) -> ∀ i, i < n + 1 -> ShX j i := fun h i hi => by
      by_cases e : i = n
      ·subst e
       intro x' hx'
       rw [HX.out] at hx'
       cases hx'
       exact ⟨HP3.out trivial, h⟩
      ·exact HALL.out i (by omega)
     have HSTEP := Hd hstep
     clear hstep
     by_cases h7 : k = 7
     ·subst h7
      have hjt := HKN.out.2.1 rfl
      have hkl := HKEY.out hjt
      obtain ⟨kk, hkk⟩ : ∃ kk, (jks j)[n]? = some kk := ⟨_, List.getElem?_eq_getElem (by rw [hkl]; exact hlt)⟩
      obtain ⟨kb, ko, rfl, -, hkc⟩ := HK.out.at (i := n) (r := [.string kk]) (by simp [hkk])
      have hkc := ((hkc.chg HC1.out id).chg HC4.out id).one
      simp only [Nat.mul_one] at hkc
      have k5 : w4.cell? ⟨w.heap.size, 5, none⟩ = some (.slice (some ⟨kb, ko, none⟩) (jks j).length kc) := (HB0.out.chg HC4.out id).cell 5
      have h65 : (n : Int) < ((jks j).length : Int) := by omega
      have HKK := Hd hkk
      have HJT := Hd hjt
      clear hjt hkl hkk
      by_cases hg : kk = gK
      ·have hgb : (kk.toList == [103, 108, 111, 98, 97, 108]) = true := by rw [lit_beq, ← gK_lit]; simpa using hg
       have hgb2 : (kk.toList != [103, 108, 111, 98, 97, 108]) = false := by rw [bne, hgb]; rfl
       clear hg
       obtain ⟨xk, xb, xi, xf, xt, xkv, xlv, rfl⟩ := HVR.out.seven
       obtain ⟨-, xrows, xl, xn, xr⟩ := HVR.out.bel.parts
       have HXL := Hd xl
       have HXR := Hd xr
       have HXN := Hd xn
       have xl1 := xl.1
       obtain ⟨-, -, xla, xlc, rfl, -, -⟩ := xl
       unfold maxLen at xl1
       have q6 : w4.cell? ⟨g, 6, none⟩ = some (.slice xla xrows.length xlc) := HBX.out.cell 6
       clear xn xr
       go_wp2_with fail
       clear k5 hkc q6
       go_loopw [34] (fun ct wr => ∃ m : Nat, ct = .int .i64 m /\ m ≤ xrows.length /\ (∀ y ∈ (jxs x).take m, ∀ z ∈ jxs y, isT z = false) /\ Chg No w4 wr) (fun ct _ => xrows.length - (intOf ct).toNat)
       case atStart => exact ⟨0, rfl, Nat.zero_le _, by simp, Chg.refl _ _⟩
       case round =>
        obtain ⟨m, rfl, hm, hal2, hc2⟩ := hrel
        have HAL2 := Hd hal2
        have HC2 := Hd hc2
        clear hal2 hc2
        by_cases hlm : m < xrows.length
        ·obtain ⟨r2, hr2⟩ : ∃ r, xrows[m]? = some r := ⟨_, List.getElem?_eq_getElem hlm⟩
         obtain ⟨y, hy⟩ : ∃ x', (jxs x)[m]? = some x' := ⟨_, List.getElem?_eq_getElem (by rw [← HXN.out]; exact hlm)⟩
         obtain ⟨lb2, lo2, rfl, -, hlc2⟩ := HXL.out.at (i := m) (r := r2) hr2
         have hlc2 := hlc2.chg HC2.out id
         have hvr2 := ((HXR.out m r2 y hr2 hy).chg HC2.out (fun _ _ e => e)).chg ((Chg.refl No _).alloc (.cells r2.toArray 26)) (fun _ _ e => e)
         have hrl2 := hvr2.length
         have hro2 := hvr2.one
         have HY := Hd hy
         have h66 : (m : Int) < (xrows.length : Int) := by omega
         clear hy hr2
         obtain ⟨yk, yb, yi, yf, yt, ykv, ylv, rfl⟩ := hvr2.seven
         obtain ⟨-, yrows, yl, yn, yr⟩ := hvr2.bel.parts
         have HYL := Hd yl
         have HYR := Hd yr
         have HYN := Hd yn
         have yl1 := yl.1
         obtain ⟨-, -, yla, ylc, rfl, -, -⟩ := yl
         unfold maxLen at yl1
         clear yn yr hvr2
         obtain ⟨g2, hg2⟩ : ∃ g, g = wr.heap.size := ⟨_, rfl⟩
         go_upto_region 10 with (first | (with_reducible refine wpList_loadAgg rfl agg26 rfl rfl hlc2 hrl2 ?_) | (with_reducible refine wpList_storeNew rfl agg26 rfl rfl rfl rfl hrl2 hro2 ?_))
         have hby := Blk.newAt hg2 (cells7 yk yb yi yf yt ykv (.slice yla yrows.length ylc)) 26
         rw [← hg2]
         obtain ⟨w5, hw5⟩ : ∃ w5, w5 = wr.alloc (.cells (cells7 yk yb yi yf yt ykv (.slice yla yrows.length ylc)).toArray 26) := ⟨_, rfl⟩
         rw [← hw5] at hby HYL HYR ⊢
         have HC5 := Hd (show Chg No w4 w5 by rw [hw5]; exact HC2.out.alloc _)
         have y6 : w5.cell? ⟨g2, 6, none⟩ = some (.slice yla yrows.length ylc) := hby.cell 6
         clear hby hw5 hg2 hrl2 hro2 hlc2
         go_wp2_with fail
         clear y6
         go_loopw [41] (fun ct wr => ∃ q : Nat, ct = .int .i64 q /\ q ≤ yrows.length /\ (∀ z ∈ (jxs y).take q, isT z = false) /\ Chg No w5 wr) (fun ct _ => yrows.length - (intOf ct).toNat)
         case atStart => exact ⟨0, rfl, Nat.zero_le _, by simp, Chg.refl _ _⟩
         case round =>
          obtain ⟨q, rfl, hq, hal4, hc6⟩ := hrel
          have HAL4 := Hd hal4
          have HC6 := Hd hc6
          clear hal4 hc6
          by_cases hlq : q < yrows.length
          ·obtain ⟨r3, hr3⟩ : ∃ r, yrows[q]? = some r := ⟨_, List.getElem?_eq_getElem hlq⟩
           obtain ⟨z, hz⟩ : ∃ x', (jxs y)[q]? = some x' := ⟨_, List.getElem?_eq_getElem (by rw [← HYN.out]; exact hlq)⟩
           obtain ⟨lb3, lo3, rfl, -, hlc3⟩ := HYL.out.at (i := q) (r := r3) hr3
           have hlc3 := hlc3.chg HC6.out id
           have hvr3 := (HYR.out q r3 z hr3 hz).chg HC6.out (fun _ _ e => e)
           have hrl3 := hvr3.length
           have hro3 := hvr3.one
           have HZ := Hd hz
           have h67 : (q : Int) < (yrows.length : Int) := by omega
           clear hz hr3
           obtain ⟨zk, zb, zi, zf, zt, zkv, zlv, rfl⟩ := hvr3.seven
           have HZK := Hd hvr3.kindN
           clear hvr3
           have hbz := (Blk.new wr (cells7 zk zb zi zf zt zkv zlv) 26).cells
           go_wp2_with (first | (with_reducible refine wpList_loadAgg rfl agg26 rfl rfl hlc3 hrl3 ?_) | (with_reducible refine wpList_storeNew rfl agg26 rfl rfl rfl rfl hrl3 hro3 ?_) | (with_reducible refine wpList_loadAgg rfl agg26 rfl rfl hbz hrl3 ?_))
           refine (isTable_any zk zi zb zf zt zkv zlv _).mono ?_
           rintro e w7 ⟨rfl, hc7⟩
           have HC7 := Hd (HC6.out.trans' (((Chg.refl No wr).alloc _).trans' hc7))
           clear hc7 hbz hlc3 hrl3 hro3
           by_cases h7 : zk = 7
           ·subst h7
            go_wp2
            go_ret
            exact ⟨false, rfl, HC1.out.trans' (HC4.out.trans' (HC5.out.trans' HC7.out)), fun h => by cases h⟩
           ·have h7b : (zk == 7) = false := by simpa using h7
            have HNT := Hd (show isT z = false by
             cases hzt : isT z with
             | false => rfl
             | true => exact absurd (HZK.out.2.2.2 hzt) h7)
            clear h7
            go_wp2_with fail
            go_roundw
            case rel =>
             refine ⟨q + 1, by go_num, by omega, fun u hu => ?_, HC7.out⟩
             rw [List.take_add_one, HZ.out] at hu
             rcases List.mem_append.1 hu with hu | hu
             ·exact HAL4.out u hu
             ·obtain rfl : u = z := by simpa using hu
              exact HNT.out
            case measure => simp [intOf]; omega
          ·have h67 : ¬ (q : Int) < (yrows.length : Int) := by omega
           have HAL5 := Hd (show ∀ z ∈ jxs y, isT z = false by
            have h := HAL4.out
            rwa [List.take_of_length_le (by rw [← HYN.out]; omega)] at h)
           clear HAL4
           go_wp2_with fail
           go_roundw
           case rel =>
            refine ⟨m + 1, by go_num, by omega, fun u hu => ?_, HC5.out.trans' HC6.out⟩
            rw [List.take_add_one, HY.out] at hu
            rcases List.mem_append.1 hu with hu | hu
            ·exact HAL2.out u hu
            ·obtain rfl : u = y := by simpa using hu
             exact HAL5.out
           case measure => simp [intOf]; omega
        ·have h66 : ¬ (m : Int) < (xrows.length : Int) := by omega
         have hal3 : ∀ y ∈ jxs x, ∀ z ∈ jxs y, isT z = false := by
          have h := HAL2.out
          rwa [List.take_of_length_le (by rw [← HXN.out]; omega)] at h
         have HAL3 := Hd hal3
         clear hal3 HAL2
         go_wp2_with fail
         go_roundw
         case rel => exact ⟨n + 1, by go_num, by omega, HSTEP.out (fun _ _ => HAL3.out), HC4.out.trans' HC2.out⟩
         case measure => simp [intOf]; omega
      ·have hgb : (kk.toList == [103, 108, 111, 98, 97, 108]) = false := by rw [lit_beq, ← gK_lit]; simpa using hg
       have HG := Hd hg
       clear hg
       go_wp2_with fail
       go_roundw
       case rel => exact ⟨n + 1, by go_num, by omega, HSTEP.out (fun _ h => absurd (Option.some.inj (HKK.out.symm.trans h)) HG.out), HC4.out⟩
       case measure => simp [intOf]; omega
     ·have h7b : (k == 7) = false := by simpa using h7
      have H7 := Hd h7
      clear h7
      go_wp2_with fail
      go_roundw
      case rel => exact ⟨n + 1, by go_num, by omega, HSTEP.out (fun h => absurd (HKN.out.2.2.2 h) H7.out), HC4.out⟩
      case measure => simp [intOf]; omega
   ·have h64 : ¬ (n : Int) < (rows.length : Int) := by omega
    have hall : ∀ i, ShX j i := fun i => by
     by_cases hi : i < n
     ·exact HALL.out i hi
     ·intro x hx
      have := (List.getElem?_eq_some_iff.1 hx).1
      rw [← HN.out] at this
      omega
    have HALL2 := Hd hall
    clear hall HALL
    go_wp2
    go_ret
    exact ⟨true, rfl, HC1.out.trans' HC.out, fun _ => shalA_of HALL2.out⟩
def ShC : Nat -> Ch -> Prop
 | 0, _ => True
 | L + 1, c => ShalA c.vals /\ ∀ d ∈ c.deps, ShC L d
def OffN : Nat -> Ch -> Prop
 | 0, _ => True
 | L + 1, c => (∀ x ∈ c.wants, x.condition = ByteArray.empty /\ x.tags = []) /\ ∀ d ∈ c.deps, OffN L d
theorem Blk.vals11 {w : World} {g : Nat} {name ver : K} {k : Int} {b : Bool} {i : Int} {f : Nat} {t : K} {kv lv dv wv : Value} {ty : TypeId} (h : Blk w g (cells11 name ver k b i f t kv lv dv wv) ty) : CellsAt w g 2 (cells7 k b i f t kv lv) := by
 intro j u hu
 have h2 := h.cells (2 + j) u
 rw [Nat.zero_add] at h2
 refine h2 ?_
 rw [Nat.add_comm]
 show (cells7 k b i f t kv lv ++ [dv, wv])[j]? = some u
 rw [List.getElem?_append_left (List.getElem?_eq_some_iff.1 hu).1]
 exact hu
theorem ChJ.cells {ok : Nat -> Prop} {w : World} {cs : List Value} {c : Ch} (h : ChJ ok w cs c) : ∃ name ver k b i f t kv lv dv wv, cs = cells11 name ver k b i f t kv lv dv wv /\ c.name = name /\ c.version = ver /\ ValJ ok w (cells7 k b i f t kv lv) c.vals /\
  (∃ rows, RowAt ok w dv 11 rows /\ rows.length = c.deps.length /\ ∀ (n : Nat) (r : List Value) (d : Ch), rows[n]? = some r -> c.deps[n]? = some d -> ChJ ok w r d) /\
  (∃ rows, RowAt ok w wv 7 rows /\ rows.length = c.wants.length /\ ∀ (n : Nat) (r : List Value) (x : Want), rows[n]? = some r -> c.wants[n]? = some x -> WantJ ok w r x) := by
 cases h with
 | mk hv hd hn h hw hm hx => exact ⟨_, _, _, _, _, _, _, _, _, _, _, rfl, rfl, rfl, hv, ⟨_, hd, hn, h⟩, ⟨_, hw, hm, hx⟩⟩
theorem WantJ.len {ok : Nat -> Prop} {w : World} {cs : List Value} {x : Want} (h : WantJ ok w cs x) : cs.length = 7 /\ cs.all (·.oneCell') = true := by
 obtain ⟨tv, iv, rfl, h2, h3⟩ := h
 have h4 := h2.one
 have h5 := h3.one
 refine ⟨rfl, ?_⟩
 simp only [cellsW, List.all_cons, List.all_nil, Bool.and_true, Bool.and_eq_true]
 simp_all [Value.oneCell']
theorem mem_take_succ {α : Type} {l : List α} {n : Nat} {x : α} (hx : l[n]? = some x) {P : α -> Prop} (h : ∀ y ∈ l.take n, P y) (hp : P x) : ∀ y ∈ l.take (n + 1), P y := by
 intro y hy
 rw [List.take_add_one, hx] at hy
 rcases List.mem_append.1 hy with hy | hy
 ·exact h y hy
 ·obtain rfl : y = x := by simpa using hy
  exact hp
theorem mem_take_all {α : Type} {l : List α} {n : Nat} (hn : l.length ≤ n) {P : α -> Prop} (h : ∀ y ∈ l.take n, P y) : ∀ y ∈ l, P y := by
 rwa [List.take_of_length_le hn] at h
theorem mtCharts_any (L : Nat) : ∀ (ok : Nat -> Prop) (c : Ch) (cs : List Value) (w : World), ChJ ok w cs c -> ChR L c -> Calls Tryz.prog 36 #[.agg cs.toArray] w (BoolPost w fun r _ => r = true -> ∀ e, ShC e c) := by
 induction L with
 | zero => intro ok c cs w _ h; exact h.elim
 | succ L ih =>
  intro ok c cs w hc hr
  obtain ⟨name, ver, k, b, i, f, t, kv, lv, dv, wv, rfl, -, -, hv, ⟨rows, hd, hn, hdr⟩, -⟩ := hc.bel.cells
  have HV := Hd hv
  have HD := Hd hd
  have HN := Hd hn
  have HDR := Hd hdr
  have IH := Hd ih
  have HR := Hd hr
  have hd1 := hd.1
  obtain ⟨-, -, da, dc, rfl, -, -⟩ := hd
  unfold maxLen at hd1
  have hfacts : ∀ W, (w.alloc (.cells (cells11 name ver k b i f t kv lv (.slice da rows.length dc) wv).toArray 30)) = W -> Blk W w.heap.size (cells11 name ver k b i f t kv lv (.slice da rows.length dc) wv) 30 /\ Chg No w W := by
   rintro W rfl
   exact ⟨Blk.new _ _ _, (Chg.refl No w).alloc _⟩
  have HF := Hd hfacts
  clear hfacts hv hn hdr ih hr hc
  go_enter Tryz.func36, Tryz.ntmps36
  unfold cells11
  go_upto_region 1 with fail
  generalize hgw : World.alloc _ _ = W
  obtain ⟨b0, c1⟩ := HF.out W hgw
  clear hgw HF
  have k9 : W.cell? ⟨w.heap.size, 9, none⟩ = some (.slice da rows.length dc) := b0.cell 9
  have HB0 := Hd b0
  have HC1 := Hd c1
  clear b0 c1
  go_wp2_with fail
  clear k9
  go_loopw [8] (fun ct wr => ∃ n : Nat, ct = .int .i64 n /\ n ≤ rows.length /\ (∀ d ∈ c.deps.take n, ∀ e, ShC e d) /\ Chg No W wr) (fun ct _ => rows.length - (intOf ct).toNat)
  case atStart => exact ⟨0, rfl, Nat.zero_le _, by simp, Chg.refl _ _⟩
  case round =>
   obtain ⟨n, rfl, hnl, hall, hc⟩ := hrel
   have HALL := Hd hall
   have HC := Hd hc
   clear hall hc
   by_cases hlt : n < rows.length
   ·obtain ⟨r, hr0⟩ : ∃ r, rows[n]? = some r := ⟨_, List.getElem?_eq_getElem hlt⟩
    obtain ⟨x, hx⟩ : ∃ x, c.deps[n]? = some x := ⟨_, List.getElem?_eq_getElem (by rw [← HN.out]; exact hlt)⟩
    obtain ⟨lb, lo, rfl, -, hlc⟩ := HD.out.at (i := n) (r := r) hr0
    have hlc := (hlc.chg HC1.out id).chg HC.out id
    have hvr := (((HDR.out n r x hr0 hx).chg HC1.out (fun _ _ e => e)).chg HC.out (fun _ _ e => e))
    have hrl := hvr.one.1
    have hro := hvr.one.2
    have HVR := Hd (hvr.chg ((Chg.refl No wr).alloc (.cells r.toArray 30)) (fun _ _ e => e))
    have HX := Hd hx
    have h64 : (n : Int) < (rows.length : Int) := by omega
    clear hvr hx hr0
    go_wp2_with (first | (with_reducible refine wpList_loadAgg rfl agg30 rfl rfl hlc hrl ?_) | (with_reducible refine wpList_storeNew rfl agg30 rfl rfl rfl rfl hrl hro ?_) | (with_reducible refine wpList_loadAgg rfl agg30 rfl rfl (Blk.new wr r 30).cells hrl ?_))
    refine (IH.out (okB ok w) x r (wr.alloc (.cells r.toArray 30)) HVR.out (HR.out.2.2.2.2.2.1 x (List.mem_of_getElem? HX.out))).mono ?_
    rintro e w3 ⟨rr, rfl, hc3, hp3⟩
    have HC3 := Hd (HC.out.trans' (((Chg.refl No wr).alloc (.cells r.toArray 30)).trans' hc3))
    have HP3 := Hd hp3
    clear hc3 hp3
    cases rr with
    | false =>
     go_wp2
     go_ret
     exact ⟨false, rfl, HC1.out.trans' HC3.out, fun h => by cases h⟩
    | true =>
     go_wp2_with fail
     go_roundw
     case rel => exact ⟨n + 1, by go_num, by omega, mem_take_succ HX.out HALL.out (HP3.out trivial), HC3.out⟩
     case measure => simp [intOf]; omega
   ·have h64 : ¬ (n : Int) < (rows.length : Int) := by omega
    have HALL2 := Hd (mem_take_all (by rw [← HN.out]; omega) HALL.out)
    have b2 := (HB0.out.chg HC.out id).vals11
    clear HALL
    go_wp2_with (first | (with_reducible refine wpList_loadAgg rfl agg26 rfl rfl b2 rfl ?_))
    refine (mtShallow_any 400 50 (okB ok w) c.vals (cells7 k b i f t kv lv) wr ((HV.out.chg HC1.out (fun _ _ e => e)).chg HC.out (fun _ _ e => e)) HR.out.1.1).mono ?_
    rintro e w3 ⟨rr, rfl, hc3, hp3⟩
    have HC3 := Hd hc3
    have HP3 := Hd hp3
    clear hc3 hp3 b2
    go_wp2
    go_ret
    refine ⟨rr, rfl, HC1.out.trans' (HC.out.trans' HC3.out), fun h e => ?_⟩
    cases e with
    | zero => trivial
    | succ e => exact ⟨HP3.out h, fun d hd => HALL2.out d hd e⟩
theorem mtOff_any (L : Nat) : ∀ (ok : Nat -> Prop) (c : Ch) (cs : List Value) (w : World), ChJ ok w cs c -> ChR L c -> Calls Tryz.prog 37 #[.agg cs.toArray] w (BoolPost w fun r _ => r = false -> ∀ e, OffN e c) := by
 induction L with
 | zero => intro ok c cs w _ h; exact h.elim
 | succ L ih =>
  intro ok c cs w hc hr
  obtain ⟨name, ver, k, b, i, f, t, kv, lv, dv, wv, rfl, -, -, -, ⟨rows, hd, hn, hdr⟩, ⟨wrows, hw, hm, hwr⟩⟩ := hc.bel.cells
  have HD := Hd hd
  have HN := Hd hn
  have HDR := Hd hdr
  have HW := Hd hw
  have HM := Hd hm
  have HWR := Hd hwr
  have IH := Hd ih
  have HR := Hd hr
  have hd1 := hd.1
  have hw1 := hw.1
  obtain ⟨-, -, da, dc, rfl, -, -⟩ := hd
  obtain ⟨-, -, wa, wc, rfl, -, -⟩ := hw
  unfold maxLen at hd1 hw1
  have hfacts : ∀ W, (w.alloc (.cells (cells11 name ver k b i f t kv lv (.slice da rows.length dc) (.slice wa wrows.length wc)).toArray 30)) = W -> Blk W w.heap.size (cells11 name ver k b i f t kv lv (.slice da rows.length dc) (.slice wa wrows.length wc)) 30 /\ Chg No w W := by
   rintro W rfl
   exact ⟨Blk.new _ _ _, (Chg.refl No w).alloc _⟩
  have HF := Hd hfacts
  clear hfacts hn hdr ih hr hc hm hwr
  go_enter Tryz.func37, Tryz.ntmps37
  unfold cells11
  go_upto_region 1 with fail
  generalize hgw : World.alloc _ _ = W
  obtain ⟨b0, c1⟩ := HF.out W hgw
  clear hgw HF
  have k10 : W.cell? ⟨w.heap.size, 10, none⟩ = some (.slice wa wrows.length wc) := b0.cell 10
  have HB0 := Hd b0
  have HC1 := Hd c1
  clear b0 c1
  go_wp2_with fail
  clear k10
  go_loopw [10] (fun ct wr => ∃ n : Nat, ct = .int .i64 n /\ n ≤ wrows.length /\ (∀ x ∈ c.wants.take n, x.condition = ByteArray.empty /\ x.tags = []) /\ Chg No W wr) (fun ct _ => wrows.length - (intOf ct).toNat)
  case atStart => exact ⟨0, rfl, Nat.zero_le _, by simp, Chg.refl _ _⟩
  case round =>
   obtain ⟨n, rfl, hnl, hall, hc⟩ := hrel
   have HALL := Hd hall
   have HC := Hd hc
   clear hall hc
   by_cases hlt : n < wrows.length
   ·obtain ⟨r, hr0⟩ : ∃ r, wrows[n]? = some r := ⟨_, List.getElem?_eq_getElem hlt⟩
    obtain ⟨x, hx⟩ : ∃ x, c.wants[n]? = some x := ⟨_, List.getElem?_eq_getElem (by rw [← HM.out]; exact hlt)⟩
    obtain ⟨lb, lo, rfl, -, hlc⟩ := HW.out.at (i := n) (r := r) hr0
    have hlc := (hlc.chg HC1.out id).chg HC.out id
    have hvr := HWR.out n r x hr0 hx
    have hrl := hvr.len.1
    have hro := hvr.len.2
    have HX := Hd hx
    have h64 : (n : Int) < (wrows.length : Int) := by omega
    clear hx hr0
    obtain ⟨tv, iv, rfl, ht, hi⟩ := hvr
    have ht1 := ht.1
    obtain ⟨-, -, ta, tc, rfl, -, -⟩ := ht
    simp only [kRows, List.length_map] at ht1 hlc hrl hro
    unfold maxLen at ht1
    have bx := Blk.new wr (cellsW x (.slice ta x.tags.length tc) iv) 79
    have q2 : (wr.alloc (.cells (cellsW x (.slice ta x.tags.length tc) iv).toArray 79)).cell? ⟨wr.heap.size, 2, none⟩ = some (.string x.condition) := bx.cell 2
    have q4 : (wr.alloc (.cells (cellsW x (.slice ta x.tags.length tc) iv).toArray 79)).cell? ⟨wr.heap.size, 4, none⟩ = some (.slice ta x.tags.length tc) := bx.cell 4
    clear hi bx
    by_cases hce : x.condition = ByteArray.empty
    ·have hcb : (x.condition.toList == []) = true := by rw [lit0_beq]; simpa using hce
     have HCE := Hd hce
     clear hce
     by_cases htl : 0 < x.tags.length
     ·go_wp2_with (first | (with_reducible refine wpList_loadAgg rfl agg79 rfl rfl hlc hrl ?_) | (with_reducible refine wpList_storeNew rfl agg79 rfl rfl rfl rfl hrl hro ?_))
      go_ret
      exact ⟨true, rfl, HC1.out.trans' (HC.out.alloc _), fun h => by cases h⟩
     ·have HT := Hd (show x.tags = [] from List.eq_nil_of_length_eq_zero (by omega))
      go_wp2_with (first | (with_reducible refine wpList_loadAgg rfl agg79 rfl rfl hlc hrl ?_) | (with_reducible refine wpList_storeNew rfl agg79 rfl rfl rfl rfl hrl hro ?_))
      go_roundw
      case rel => exact ⟨n + 1, by go_num, by omega, mem_take_succ HX.out HALL.out ⟨HCE.out, HT.out⟩, HC.out.alloc _⟩
      case measure => simp [intOf]; omega
    ·have hcb : (x.condition.toList == []) = false := by rw [lit0_beq]; simpa using hce
     clear hce
     go_wp2_with (first | (with_reducible refine wpList_loadAgg rfl agg79 rfl rfl hlc hrl ?_) | (with_reducible refine wpList_storeNew rfl agg79 rfl rfl rfl rfl hrl hro ?_))
     go_ret
     exact ⟨true, rfl, HC1.out.trans' (HC.out.alloc _), fun h => by cases h⟩
   ·have h64 : ¬ (n : Int) < (wrows.length : Int) := by omega
    have HALL2 := Hd (mem_take_all (by rw [← HM.out]; omega) HALL.out)
    have k9 : wr.cell? ⟨w.heap.size, 9, none⟩ = some (.slice da rows.length dc) := (HB0.out.chg HC.out id).cell 9
    have HC1 := Hd (HC1.out.trans' HC.out)
    obtain ⟨W2, hW2⟩ : ∃ W2, W2 = wr := ⟨_, rfl⟩
    rw [← hW2] at k9 HC1 ⊢
    clear HALL HC hW2
    go_wp2_with fail
    clear k9
    go_loopw [27] (fun ct wr => ∃ n : Nat, ct = .int .i64 n /\ n ≤ rows.length /\ (∀ d ∈ c.deps.take n, ∀ e, OffN e d) /\ Chg No W2 wr) (fun ct _ => rows.length - (intOf ct).toNat)
    case atStart => exact ⟨0, rfl, Nat.zero_le _, by simp, Chg.refl _ _⟩
    case round =>
     obtain ⟨n, rfl, hnl, hall, hc⟩ := hrel
     have HALL := Hd hall
     have HC := Hd hc
     clear hall hc
     by_cases hlt : n < rows.length
     ·obtain ⟨r, hr0⟩ : ∃ r, rows[n]? = some r := ⟨_, List.getElem?_eq_getElem hlt⟩
      obtain ⟨x, hx⟩ : ∃ x, c.deps[n]? = some x := ⟨_, List.getElem?_eq_getElem (by rw [← HN.out]; exact hlt)⟩
      obtain ⟨lb, lo, rfl, -, hlc⟩ := HD.out.at (i := n) (r := r) hr0
      have hlc := (hlc.chg HC1.out id).chg HC.out id
      have hvr := (((HDR.out n r x hr0 hx).chg HC1.out (fun _ _ e => e)).chg HC.out (fun _ _ e => e))
      have hrl := hvr.one.1
      have hro := hvr.one.2
      have HVR := Hd (hvr.chg ((Chg.refl No wr).alloc (.cells r.toArray 30)) (fun _ _ e => e))
      have HX := Hd hx
      have h64 : (n : Int) < (rows.length : Int) := by omega
      clear hvr hx hr0
      go_wp2_with (first | (with_reducible refine wpList_loadAgg rfl agg30 rfl rfl hlc hrl ?_) | (with_reducible refine wpList_storeNew rfl agg30 rfl rfl rfl rfl hrl hro ?_) | (with_reducible refine wpList_loadAgg rfl agg30 rfl rfl (Blk.new wr r 30).cells hrl ?_))
      refine (IH.out (okB ok w) x r (wr.alloc (.cells r.toArray 30)) HVR.out (HR.out.2.2.2.2.2.1 x (List.mem_of_getElem? HX.out))).mono ?_
      rintro e w3 ⟨rr, rfl, hc3, hp3⟩
      have HC3 := Hd (HC.out.trans' (((Chg.refl No wr).alloc (.cells r.toArray 30)).trans' hc3))
      have HP3 := Hd hp3
      clear hc3 hp3
      cases rr with
      | true =>
       go_wp2
       go_ret
       exact ⟨true, rfl, HC1.out.trans' HC3.out, fun h => by cases h⟩
      | false =>
       go_wp2_with fail
       go_roundw
       case rel => exact ⟨n + 1, by go_num, by omega, mem_take_succ HX.out HALL.out (HP3.out trivial), HC3.out⟩
       case measure => simp [intOf]; omega
     ·have h64 : ¬ (n : Int) < (rows.length : Int) := by omega
      have HALL3 := Hd (mem_take_all (by rw [← HN.out]; omega) HALL.out)
      go_wp2
      go_ret
      refine ⟨false, rfl, HC1.out.trans' HC.out, fun _ e => ?_⟩
      cases e with
      | zero => trivial
      | succ e => exact ⟨HALL2.out, fun d hd => HALL3.out d hd e⟩
end Go.Proofs.YtljaoopfomcaoaaGreatDoor
