/- A part of the proof. -/
import Derived.Test.YtljaoopfomcaoaaGreatDoorMr2
import Derived.Laws.MakeOwn
import Derived.Deep.CutRange
set_option linter.unusedVariables false
set_option linter.unusedSimpArgs false
set_option maxRecDepth 100000
set_option maxHeartbeats 4000000
namespace Go.Proofs.YtljaoopfomcaoaaGreatDoor
open Go.RowKit
def CapOk (v : Value) : Prop := ∀ a n c, v = .slice a n c -> n ≤ c
inductive RawC (ok : Nat -> Prop) (w : World) : List Value -> Prop where
 | mk {name ver : K} {k : Int} {b : Bool} {i : Int} {f : Nat} {t : K} {kv lv dv wv : Value} {drows wrows : List (List Value)} (hn : kSm name) (hvv : kSm ver) (hv : RawV ok w (cells7 k b i f t kv lv)) (hdc : CapOk dv) (hwc : CapOk wv) (hd : RowAt ok w dv 11 drows) (h : ∀ r ∈ drows, RawC ok w r)
   (hw : RowAt ok w wv 7 wrows) (hx : ∀ r ∈ wrows, ∃ x, WantJ ok w r x /\ WSm x) : RawC ok w (cells11 name ver k b i f t kv lv dv wv)
theorem RawC.chg {ok S : Nat -> Prop} {w w' : World} {cs : List Value} (h : RawC ok w cs) (hc : Chg S w w') (hs : ∀ b, ok b -> ¬ S b) : RawC ok w' cs := by
 induction h with
 | mk hn hvv hv hdc hwc hd _ hw hx ih => exact .mk hn hvv (hv.chg hc hs) hdc hwc (hd.chg hc hs) ih (hw.chg hc hs) (fun r hr => by
   obtain ⟨x, h1, h2⟩ := hx r hr
   exact ⟨x, h1.chg hc hs, h2⟩)
theorem RawC.mono {ok ok' : Nat -> Prop} {w : World} {cs : List Value} (h : RawC ok w cs) (hs : ∀ b, b < w.heap.size -> ok b -> ok' b) : RawC ok' w cs := by
 induction h with
 | mk hn hvv hv hdc hwc hd _ hw hx ih => exact .mk hn hvv (hv.mono hs) hdc hwc (hd.mono hs (by decide)) ih (hw.mono hs (by decide)) (fun r hr => by
   obtain ⟨x, h1, h2⟩ := hx r hr
   exact ⟨x, h1.mono hs, h2⟩)
theorem RawC.cells {ok : Nat -> Prop} {w : World} {cs : List Value} (h : RawC ok w cs) : ∃ name ver k b i f t kv lv dv wv, cs = cells11 name ver k b i f t kv lv dv wv /\ kSm name /\ kSm ver /\ RawV ok w (cells7 k b i f t kv lv) /\ (CapOk dv /\ CapOk wv) /\
  (∃ rows, RowAt ok w dv 11 rows /\ ∀ r ∈ rows, RawC ok w r) /\ (∃ (rows : List (List Value)) (xs : List Want), RowAt ok w wv 7 rows /\ rows.length = xs.length /\ (∀ (n : Nat) (r : List Value) (x : Want), rows[n]? = some r -> xs[n]? = some x -> WantJ ok w r x) /\ ∀ x ∈ xs, WSm x) := by
 cases h with
 | @mk name ver k b i f t kv lv dv wv drows wrows hn hvv hv hdc hwc hd h hw hx =>
  refine ⟨_, _, _, _, _, _, _, _, _, _, _, rfl, hn, hvv, hv, ⟨hdc, hwc⟩, ⟨_, hd, h⟩, ?_⟩
  have hex : ∃ xs : List Want, wrows.length = xs.length /\ (∀ (n : Nat) (r : List Value) (x : Want), wrows[n]? = some r -> xs[n]? = some x -> WantJ ok w r x) /\ ∀ x ∈ xs, WSm x := by
   clear hw
   induction wrows with
   | nil => exact ⟨[], rfl, by simp, by simp⟩
   | cons r rs ih =>
    obtain ⟨xs, h1, h2, h3⟩ := ih (fun r hr => hx r (by simp [hr]))
    obtain ⟨x, h4, h5⟩ := hx r (by simp)
    refine ⟨x :: xs, by simp [h1], fun n r' x' hr hx => ?_, fun y hy => ?_⟩
    ·cases n with
     | zero => simp at hr hx; subst hr; subst hx; exact h4
     | succ n => simp at hr hx; exact h2 n r' x' hr hx
    ·rcases List.mem_cons.1 hy with rfl | hy
     ·exact h5
     ·exact h3 y hy
  obtain ⟨xs, h1, h2, h3⟩ := hex
  exact ⟨_, xs, hw, h1, h2, h3⟩
theorem RawC.one {ok : Nat -> Prop} {w : World} {cs : List Value} (h : RawC ok w cs) : cs.length = 11 /\ cs.all (·.oneCell') = true := by
 obtain ⟨name, ver, k, b, i, f, t, kv, lv, dv, wv, rfl, -, -, hv, -, ⟨rows, hd, -⟩, ⟨wrows, xs, hw, -⟩⟩ := h.cells
 have h1 := hv.seven.2
 have h2 := hd.one
 have h3 := hw.one
 refine ⟨rfl, ?_⟩
 simp only [cells7, List.all_cons, List.all_nil, Bool.and_true, Bool.and_eq_true] at h1
 simp only [cells11, List.all_cons, List.all_nil, Bool.and_true, Bool.and_eq_true]
 simp_all [Value.oneCell']
theorem chNamed_any (x : Want) (tv iv : Value) (w : World) : Calls Tryz.prog 78 #[.agg (cellsW x tv iv).toArray] w fun e w' => e = .returned (.string (named x)) /\ Chg No w w' := by
 have hfacts : ∀ W, (w.alloc (.cells (cellsW x tv iv).toArray 79)) = W -> Blk W w.heap.size (cellsW x tv iv) 79 /\ Chg No w W := by
  rintro W rfl
  exact ⟨Blk.new _ _ _, (Chg.refl No w).alloc _⟩
 have HF := Hd hfacts
 clear hfacts
 go_enter Tryz.func78, Tryz.ntmps78
 unfold cellsW
 go_upto_region 1 with fail
 generalize hgw : World.alloc _ _ = W
 obtain ⟨b0, c1⟩ := HF.out W hgw
 clear hgw HF
 have k0 : W.cell? ⟨w.heap.size, 0, none⟩ = some (.string x.name) := b0.cell 0
 have k3 : W.cell? ⟨w.heap.size, 3, none⟩ = some (.string x.alias_) := b0.cell 3
 have HC1 := Hd c1
 clear b0 c1
 by_cases ha : x.alias_ = ByteArray.empty
 ·have hb : (x.alias_.toList == []) = true := by rw [lit0_beq]; simpa using ha
  have HN := Hd (show named x = x.name by unfold named; rw [if_neg (by simpa using ha)])
  clear ha
  go_wp2
  go_ret
  exact ⟨by rw [HN.out]; rfl, HC1.out⟩
 ·have hb : (x.alias_.toList == []) = false := by rw [lit0_beq]; simpa using ha
  have HN := Hd (show named x = x.alias_ by unfold named; rw [if_pos ha])
  clear ha
  go_wp2
  go_ret
  exact ⟨by rw [HN.out]; rfl, HC1.out⟩
theorem tmps_of_getD {tmps : Array Value} {d : Nat} {c : Bool} (h : tmps[d]?.getD undef = .bool c) : tmps[d]? = some (.bool c) := by
 cases hx : tmps[d]? with
 | none => rw [hx] at h; cases h
 | some v => rw [hx] at h; exact congrArg some h
theorem wanted_eq {ops : Array Oper} {o : Oper} {tmps : Array Value} {k d : Nat} {c b : Bool} (hg : o.guard = some (k, b)) (hd : (ops[k]?).bind (·.dst) = some d) (hv : tmps[d]?.getD undef = .bool c) : Region.wanted o (yielded ops tmps) = (c == b) := by
 unfold Region.wanted
 rw [hg]
 have hy : yielded ops tmps k = some c := by
  unfold yielded
  rw [hd]
  simp only [Option.bind_some, tmps_of_getD hv]
 simp only [hy]
 cases c <;> cases b <;> rfl
theorem if_on {ops : Array Oper} {o : Oper} {tmps : Array Value} {k d : Nat} {b : Bool} {A B : Prop} (hg : o.guard = some (k, b)) (hd : (ops[k]?).bind (·.dst) = some d) (hv : tmps[d]?.getD undef = .bool b) (h : A) : if Region.wanted o (yielded ops tmps) = true then A else B := by
 rw [if_pos (by rw [wanted_eq hg hd hv]; cases b <;> rfl)]; exact h
theorem if_off {ops : Array Oper} {o : Oper} {tmps : Array Value} {k d : Nat} {b : Bool} {A B : Prop} (hg : o.guard = some (k, b)) (hd : (ops[k]?).bind (·.dst) = some d) (hv : tmps[d]?.getD undef = .bool (!b)) (h : B) : if Region.wanted o (yielded ops tmps) = true then A else B := by
 rw [if_neg (by rw [wanted_eq hg hd hv]; cases b <;> decide)]; exact h
def Fact.unless (c : Bool) (f : Fact) : Fact := match c with
 | true => .any
 | false => f
inductive AnyO (ok : Nat -> Prop) (w : World) : Value -> J -> (Nat -> Prop) -> Prop where
 | plain {v : Value} {j : J} {S : Nat -> Prop} (h : AnyJ ok w v j) (hn : isT j = false) (hS : ∀ x, ¬ S x) : AnyO ok w v j S
 | table {b n : Nat} {f : K -> Option Value} {kvs : T} {F : K -> Nat -> Prop} {S : Nat -> Prop} (hm : MapB w b n f) (hd : ∀ k, (f k).isSome = (get kvs k).isSome)
   (h : ∀ (k : K) (u : Value) (x : J), f k = some u -> get kvs k = some x -> AnyO ok w u x (F k)) (hap : ∀ k k' x, F k x -> F k' x -> k = k') (hb : ∀ k, ¬ F k b) (hno : ∀ k, f k = none -> ∀ x, ¬ F k x)
   (hS : ∀ x, S x ↔ x = b ∨ ∃ k, F k x) : AnyO ok w (.iface 67 (.map (some b))) (.table kvs) S
structure TabO (ok : Nat -> Prop) (w : World) (b n : Nat) (f : K -> Option Value) (kvs : T) (F : K -> Nat -> Prop) : Prop where
 map : MapB w b n f
 dom : ∀ k, (f k).isSome = (get kvs k).isSome
 val : ∀ (k : K) (u : Value) (x : J), f k = some u -> get kvs k = some x -> AnyO ok w u x (F k)
 apart : ∀ k k' x, F k x -> F k' x -> k = k'
 notb : ∀ k, ¬ F k b
 none : ∀ k, f k = none -> ∀ x, ¬ F k x
def footT (b : Nat) (F : K -> Nat -> Prop) : Nat -> Prop := fun x => x = b ∨ ∃ k, F k x
section
variable {ok : Nat -> Prop} {w : World}
theorem TabO.any {b n : Nat} {f : K -> Option Value} {kvs : T} {F : K -> Nat -> Prop} (h : TabO ok w b n f kvs F) : AnyO ok w (.iface 67 (.map (some b))) (.table kvs) (footT b F) :=
 .table h.map h.dom h.val h.apart h.notb h.none (fun _ => Iff.rfl)
theorem AnyO.tab {v : Value} {kvs : T} {S : Nat -> Prop} (h : AnyO ok w v (.table kvs) S) : ∃ b n f F, v = .iface 67 (.map (some b)) /\ TabO ok w b n f kvs F /\ ∀ x, S x ↔ footT b F x := by
 cases h with
 | plain h hn _ => cases hn
 | table hm hd h hap hb hno hS => exact ⟨_, _, _, _, rfl, ⟨hm, hd, h, hap, hb, hno⟩, hS⟩
theorem AnyO.set {v : Value} {j : J} {S S' : Nat -> Prop} (h : AnyO ok w v j S) (hs : ∀ x, S' x ↔ S x) : AnyO ok w v j S' := by
 cases h with
 | plain h hn hS => exact .plain h hn (fun x hx => hS x ((hs x).1 hx))
 | table hm hd h hap hb hno hS => exact .table hm hd h hap hb hno (fun x => (hs x).trans (hS x))
theorem AnyO.lt {v : Value} {j : J} {S : Nat -> Prop} (h : AnyO ok w v j S) : ∀ x, S x -> x < w.heap.size := by
 induction h with
 | plain h hn hS => intro x hx; exact absurd hx (hS x)
 | @table b n f kvs F S hm hd h hap hb hno hS ih =>
  intro x hx
  rcases (hS x).1 hx with rfl | ⟨k, hk⟩
  ·exact hm.lt
  ·cases hf : f k with
   | none => exact absurd hk (hno k hf x)
   | some u =>
    have h1 := hd k
    rw [hf] at h1
    cases hg : get kvs k with
    | none => rw [hg] at h1; cases h1
    | some y => exact ih k u y hf hg x hk
theorem AnyO.chg {v : Value} {j : J} {S S' : Nat -> Prop} {w' : World} (h : AnyO ok w v j S) (hc : Chg S' w w') (hok : ∀ x, ok x -> ¬ S' x) (hS : ∀ x, S x -> ¬ S' x) : AnyO ok w' v j S := by
 induction h with
 | plain h hn hS0 => exact .plain (h.chg hc hok) hn hS0
 | table hm hd h hap hb hno hS0 ih =>
  exact .table (hm.chg hc (hS _ ((hS0 _).2 (.inl rfl)))) hd (fun k u x hf hg => ih k u x hf hg (fun y hy => hS y ((hS0 y).2 (.inr ⟨k, hy⟩)))) hap hb hno hS0
theorem AnyO.mono {ok' : Nat -> Prop} {v : Value} {j : J} {S : Nat -> Prop} (h : AnyO ok w v j S) (hs : ∀ x, x < w.heap.size -> ok x -> ok' x) : AnyO ok' w v j S := by
 induction h with
 | plain h hn hS0 => exact .plain (h.mono hs) hn hS0
 | table hm hd h hap hb hno hS0 ih => exact .table hm hd (fun k u x hf hg => ih k u x hf hg) hap hb hno hS0
theorem AnyO.anyJ {v : Value} {j : J} {S : Nat -> Prop} (h : AnyO ok w v j S) : AnyJ (fun x => ok x ∨ S x) w v j := by
 induction h with
 | plain h hn hS0 => exact h.mono (fun x _ hx => .inl hx)
 | @table b n f kvs F S hm hd h hap hb hno hS0 ih =>
  exact .table hm (.inr ((hS0 b).2 (.inl rfl))) hd (fun k u x hf hg => (ih k u x hf hg).mono (fun y _ hy => hy.imp id (fun hy => (hS0 y).2 (.inr ⟨k, hy⟩))))
theorem AnyO.bel {v : Value} {j : J} {S : Nat -> Prop} (h : AnyO ok w v j S) : AnyO (okB ok w) w v j S := h.mono (fun b hb hb2 => ⟨hb2, hb⟩)
theorem TabO.some {b n : Nat} {f : K -> Option Value} {kvs : T} {F : K -> Nat -> Prop} (h : TabO ok w b n f kvs F) {k : K} {u : Value} (hf : f k = some u) : ∃ x, get kvs k = some x /\ AnyO ok w u x (F k) := by
 have h1 := h.dom k
 rw [hf] at h1
 cases hx : get kvs k with
 | none => rw [hx] at h1; cases h1
 | some x => exact ⟨x, rfl, h.val k u x hf hx⟩
theorem TabO.get_none {b n : Nat} {f : K -> Option Value} {kvs : T} {F : K -> Nat -> Prop} (h : TabO ok w b n f kvs F) {k : K} (hf : f k = Option.none) : get kvs k = Option.none := by
 have h1 := h.dom k
 rw [hf] at h1
 cases hx : get kvs k with
 | none => rfl
 | some x => rw [hx] at h1; cases h1
theorem TabO.fit {b n : Nat} {f : K -> Option Value} {kvs : T} {F : K -> Nat -> Prop} (h : TabO ok w b n f kvs F) : TabO ok w b kvs.length f kvs F := ⟨h.map.fit h.dom, h.dom, h.val, h.apart, h.notb, h.none⟩
theorem TabO.lt {b n : Nat} {f : K -> Option Value} {kvs : T} {F : K -> Nat -> Prop} (h : TabO ok w b n f kvs F) {x : Nat} (hx : footT b F x) : x < w.heap.size := h.any.lt x hx
end
def CopyO (w : World) (j : J) (v : Value) (w' : World) : Prop :=
 ∃ R S, AnyO R w' v j S /\ (∀ x, R x -> w.heap.size ≤ x /\ ¬ S x) /\ (∀ x, S x -> w.heap.size ≤ x) /\ Chg No w w'
structure CM (w : World) (b g r n : Nat) (f : K -> Option Value) (kvs : T) (wr : World) (left : K -> Bool) (cnt no : Nat) (fo : K -> Option Value) (F : K -> Nat -> Prop) (R : Nat -> Prop) : Prop where
 rng : RangeB wr b r n f left cnt
 num : no + cnt ≤ n
 out : MapB wr g no fo
 dom : ∀ k, (fo k).isSome = ((f k).isSome && !left k)
 val : ∀ (k : K) (u : Value) (x : J), fo k = some u -> get kvs k = some x -> AnyO R wr u x (F k)
 apart : ∀ k k' x, F k x -> F k' x -> k = k'
 none : ∀ k, fo k = Option.none -> ∀ x, ¬ F k x
 fr : ∀ k x, F k x -> r < x /\ x < wr.heap.size
 rr : ∀ x, R x -> r < x /\ x < wr.heap.size /\ ∀ k, ¬ F k x
 chg : Chg No w wr
 gr : g < r
 wg : w.heap.size ≤ g
theorem CM.step {w : World} {b g r n : Nat} {f : K -> Option Value} {kvs : T} {wr : World} {left : K -> Bool} {cnt no : Nat} {fo : K -> Option Value} {F : K -> Nat -> Prop} {R : Nat -> Prop} (h : CM w b g r n f kvs wr left cnt no fo F R)
  {k : K} {u u' : Value} {x : J} {w1 w2 w3 : World} {cnt' : Nat} (hl : left k = true) (hf : f k = some u) (hx : get kvs k = some x) (hrg : RangeB w1 b r n f (fun z => left z && !(z == k)) cnt') (hlt : cnt' < cnt) (h1 : Chg (· = r) wr w1) (hs1 : w1.heap.size = wr.heap.size) (h2 : CopyO w1 x u' w2)
  (hb : b < w.heap.size) (hout : MapB w3 g (no + 1) (fun z => if z = k then some u' else fo z)) (h3 : Chg (· = g) w2 w3) (hs3 : w3.heap.size = w2.heap.size) :
  ∃ F' R', CM w b g r n f kvs w3 (fun z => left z && !(z == k)) cnt' (no + 1) (fun z => if z = k then some u' else fo z) F' R' := by
 obtain ⟨R2, S2, ho, hR, hS, hc2⟩ := h2
 have hrl := h.rng.lt
 have hgr := h.gr
 have hwg := h.wg
 have hsz2 := hc2.size
 have hSlt := ho.bel.lt
 have hfk : fo k = Option.none := by
  have := h.dom k
  rw [hl] at this
  cases hfo : fo k with
  | none => rfl
  | some _ => rw [hfo] at this; simp at this
 refine ⟨fun z => if z = k then S2 else F z, fun y => R y ∨ okB R2 w2 y, ⟨(hrg.chg hc2 id id).chg h3 (fun e => by omega) (fun e => by omega), by have := h.num; omega, hout, fun z => ?_, fun z v y hz hy => ?_, fun z z' y hy hy' => ?_, fun z hz y hy => ?_, fun z y hy => ?_, fun y hy => ?_, ?_, hgr, hwg⟩⟩
 ·by_cases e : z = k
  ·subst e; simp [hf]
  ·have e2 : (z == k) = false := by rw [k_beq]; exact decide_eq_false e
   rw [if_neg e, h.dom z, e2]; simp
 ·by_cases e : z = k
  ·subst e
   rw [if_pos rfl] at hz ⊢
   cases hz
   rw [hx] at hy
   cases hy
   refine (ho.bel.chg h3 (fun y hy e => ?_) (fun y hy e => ?_)).mono (fun y _ hy => .inr hy)
   ·have := (hR y hy.1).1; omega
   ·have := hS y hy; omega
  ·rw [if_neg e] at hz ⊢
   refine ((((h.val z v y hz hy).chg h1 (fun q hq e => ?_) (fun q hq e => ?_)).chg hc2 (fun _ _ e => e) (fun _ _ e => e)).chg h3 (fun q hq e => ?_) (fun q hq e => ?_)).mono (fun q _ hq => .inl hq)
   ·have := (h.rr q hq).1; omega
   ·have := (h.fr z q hq).1; omega
   ·have := (h.rr q hq).1; omega
   ·have := (h.fr z q hq).1; omega
 ·by_cases e : z = k
  ·by_cases e' : z' = k
   ·rw [e, e']
   ·rw [if_pos e] at hy
    rw [if_neg e'] at hy'
    have h4 := hS y hy
    have h5 := (h.fr z' y hy').2
    omega
  ·rw [if_neg e] at hy
   by_cases e' : z' = k
   ·rw [if_pos e'] at hy'
    have h4 := hS y hy'
    have h5 := (h.fr z y hy).2
    omega
   ·rw [if_neg e'] at hy'
    exact h.apart z z' y hy hy'
 ·by_cases e : z = k
  ·rw [if_pos e] at hz; cases hz
  ·rw [if_neg e] at hz hy; exact h.none z hz y hy
 ·by_cases e : z = k
  ·rw [if_pos e] at hy
   have h4 := hS y hy
   have h5 := hSlt y hy
   omega
  ·rw [if_neg e] at hy
   have h4 := h.fr z y hy
   omega
 ·rcases hy with hy | hy
  ·obtain ⟨h4, h5, h6⟩ := h.rr y hy
   refine ⟨h4, by omega, fun z hz => ?_⟩
   by_cases e : z = k
   ·rw [if_pos e] at hz; have := hS y hz; omega
   ·rw [if_neg e] at hz; exact h6 z hz
  ·have h4 := hR y hy.1
   refine ⟨by omega, by have := hy.2; omega, fun z hz => ?_⟩
   by_cases e : z = k
   ·rw [if_pos e] at hz; exact h4.2 hz
   ·rw [if_neg e] at hz; have := (h.fr z y hz).2; omega
 ·exact ((h.chg.trans h1 (fun i hi e => by omega)).trans' hc2).trans h3 (fun i hi e => by omega)
theorem CM.done {w : World} {b g r n : Nat} {f : K -> Option Value} {kvs : T} {wr : World} {left : K -> Bool} {cnt no : Nat} {fo : K -> Option Value} {F : K -> Nat -> Prop} {R : Nat -> Prop} (h : CM w b g r n f kvs wr left cnt no fo F R) (hl : ∀ k, left k = false)
  (hd : ∀ k, (f k).isSome = (get kvs k).isSome) : CopyO w (.table kvs) (.iface 67 (.map (some g))) wr := by
 have hgr := h.gr
 have hwg := h.wg
 refine ⟨R, footT g F, TabO.any (n := no) ⟨h.out, fun k => by rw [h.dom k, hl k, hd k]; simp, h.val, h.apart, fun k hk => by have := (h.fr k g hk).1; omega, h.none⟩, fun x hx => ⟨by have := (h.rr x hx).1; omega, fun e => ?_⟩, fun x hx => ?_, h.chg⟩
 ·rcases e with rfl | ⟨k, hk⟩
  ·have := (h.rr x hx).1; omega
  ·exact (h.rr x hx).2.2 k hk
 ·rcases hx with rfl | ⟨k, hk⟩
  ·exact hwg
  ·have := (h.fr k x hk).1; omega
def CopyRet (w : World) (j : J) (e : Ending) (w' : World) : Prop := ∃ v, e = .returned v /\ CopyO w j v w'
theorem CopyO.any {w : World} {j : J} {v : Value} {w' : World} (h : CopyO w j v w') : AnyJ (fun x => w.heap.size ≤ x) w' v j := by
 obtain ⟨R, S, h1, h2, h3, -⟩ := h
 exact h1.anyJ.mono (fun x _ hx => hx.elim (fun h => (h2 x h).1) (h3 x))
theorem zzCopyMap_of (N d : Nat) (hN : N < 1099511627776) (IH0 : ∀ (ok : Nat -> Prop) (j : J) (v : Value) (w : World), AnyJ ok w v j -> Wf N d j -> Calls Tryz.prog 141 #[v] w (CopyRet w j))
  (ok : Nat -> Prop) (kvs : T) (b : Nat) (w : World) (ha : AnyJ ok w (.iface 67 (.map (some b))) (.table kvs)) (wf : Wf N (d + 1) (.table kvs)) :
  Calls Tryz.prog 116 #[.map (some b)] w fun e w' => ∃ g, e = .returned (.map (some g)) /\ CopyO w (.table kvs) (.iface 67 (.map (some g))) w' := by
 obtain ⟨b', n, f, e, ta⟩ := ha.tab
 cases e
 replace ta := ta.fit
 obtain ⟨n, hn⟩ : ∃ n, n = kvs.length := ⟨_, rfl⟩
 rw [← hn] at ta
 have HNN := Hd (show n < 1099511627776 by have h1 := wf.2.1; omega)
 clear hn
 have HT := Hd ta
 have WF := Hd wf
 have IH := Hd IH0
 have hma := ta.map
 have hlb := hma.lt
 have hmn := run_mapNil b
 clear ha wf IH0 ta
 go_enter Tryz.func116, Tryz.ntmps116
 obtain ⟨g, hg⟩ : ∃ g, g = w.heap.size := ⟨_, rfl⟩
 obtain ⟨lc, -, hlen⟩ := hma.len
 have hmk := run_makeMap67
 go_wp2_with (first | (at_range; refine wpList_rangeB rfl rfl rfl (hma.alloc _) ?_; intro w0 cnt0 hrg0 hcn0 hc0 hs0; go_frame))
 have hgz : (w.alloc (.map #[] 0)).heap.size = g + 1 := by simp [hg]
 rw [hgz] at hrg0 hs0 ⊢
 rw [← hg] at hlb ⊢
 have HG := Hd hg
 have HC0 := Hd hc0
 have hout0 : MapB w0 g 0 (fun _ => none) := by
  have h := MapB.made w
  rw [← hg] at h
  exact h.chg hc0 id
 have HCM0 := Hd (show CM w b g (g + 1) n f kvs w0 (fun k => (f k).isSome) cnt0 0 (fun _ => none) (fun _ _ => False) (fun _ => False) from
  ⟨hrg0, by omega, hout0, fun k => by cases f k <;> rfl, fun k u x h => (by cases h), fun k k' x h => h.elim, fun k _ x h => h, fun k x h => h.elim, fun x h => h.elim, ((Chg.refl No w).alloc _).trans' hc0, by omega, by omega⟩)
 clear hg hs0 hgz hc0 hlen hrg0 hout0 hmn hma hcn0
 go_loopw [4] (fun _ wr => ∃ (left : K -> Bool) (cnt no : Nat) (fo : K -> Option Value) (F : K -> Nat -> Prop) (R : Nat -> Prop), CM w b g (g + 1) n f kvs wr left cnt no fo F R) (fun _ wr => wr.rangeLeft b (g + 1))
 case atStart => exact ⟨_, _, _, _, _, _, HCM0.out⟩
 case round =>
  obtain ⟨left, cnt, no, fo, F, R, hcm⟩ := hrel
  have HCM := Hd hcm
  have hrg := hcm.rng
  clear hcm
  go_wp2_with (first | (at_next; refine wpList_nextB rfl rfl rfl hrg ?_ ?_))
  ·intro hc0 hl0
   have HD := Hd (HCM.out.done hl0 HT.out.dom)
   clear hl0 hrg
   go_wp2
   go_ret
   exact ⟨g, rfl, HD.out⟩
  ·intro k u w1 cnt1 hk hlk hfv hrg1 hlt hc1 hs1 hen
   obtain ⟨x, hx, hux⟩ := HT.out.some hfv
   have HU := Hd ((hux.bel.chg HCM.out.chg (fun _ _ e => e)).keep hc1 (fun y hy hok e => by have h1 := hok.2; have h2 := HG.out; omega))
   have HSTEP := Hd (fun u' w2 w3 (h2 : CopyO w1 x u' w2) => HCM.out.step (u' := u') (w2 := w2) (w3 := w3) hlk hfv hx hrg1 hlt hc1 hs1 h2 (by have h2 := HG.out; omega))
   have HO1 := Hd (HCM.out.out.chg hc1 (fun e => by omega))
   have HX := Hd hx
   have HKS := Hd hk
   have HLT := Hd hlt
   have HLE := Hd HCM.out.rng.left_eq
   have HNO := Hd (show no < maxLen by have h1 := HCM.out.num; have h2 := HNN.out; unfold maxLen; omega)
   clear hrg hlk hfv hrg1 hlt hc1 hs1 hux hx hk
   go_wp2_with fail
   refine (IH.out (okB ok w) x u w1 HU.out ((WF.out.get HX.out).2)).mono ?_
   rintro e w2 ⟨u', rfl, hcp⟩
   have hm2 : MapB w2 g no fo := by obtain ⟨_, _, _, _, _, hc⟩ := hcp; exact HO1.out.chg hc id
   have HCP := Hd hcp
   have hno := HNO.out
   have hks := HKS.out
   clear hcp
   go_wp2_with (first | (at_mapUpdate; refine wpList_putB (u := u') rfl rfl rfl hm2 hno rfl hks rfl ?_; intro w3 hm3 hc3 hs3; go_frame))
   obtain ⟨F', R', hcm3⟩ := HSTEP.out u' w2 w3 HCP.out hm3 hc3 hs3
   have HCM3 := Hd hcm3
   clear hcm3 hm3 hc3 hs3 hm2 hno hks
   go_roundw
   case rel => exact ⟨_, _, _, _, _, _, HCM3.out⟩
   case measure => rw [HCM3.out.rng.left_eq, HLE.out]; exact HLT.out
theorem made_nils (n : Nat) : madeCells (Value.nilIface).cells (n * 1) = (List.replicate n Value.nilIface).toArray := by
 apply Array.ext
 ·simp [madeCells]
 ·intro i h1 h2
  simp [madeCells, Value.cells]
  rw [Nat.mod_one]; rfl
theorem run_make151 (n : Nat) (hn : n < 1099511627776) (w : World) : (Instr.makeSlice 151 (.int .i64 n) (.int .i64 n)).run Tryz.prog w = .ok (.slice (some ⟨w.heap.size, 0, none⟩) n n) (w.alloc (.cells (List.replicate n Value.nilIface).toArray 20)) := by
 have h : (Tryz.prog.info? 20).map (fun i => (i.zero, i.size, i.bytes)) = some (some .nilIface, 1, 16) := by kernel_rfl
 obtain ⟨i, h1, h2, h3, h4⟩ := info_parts h
 have hr := run_make (P := Tryz.prog) w 151 20 i .nilIface Tryz.underlying151 h1 h2 .i64 .i64 n n (by omega) (Int.le_refl _) (by rw [h4]; omega) (by omega)
 simp only [Int.toNat_natCast, h3] at hr
 rw [hr, made_nils]
theorem wpList_setIface {ops : Array Oper} {rest : List Oper} {o : Oper} {a : Act} {w : World} {Q : Exit -> Act -> World -> Prop} (hgd : o.guard = none) {x y : Operand} (ho : o.op = .store 20 x y)
  {g i : Nat} {u : Value} {j : J} (hx : a.eval x = .pointer (some ⟨g, i, none⟩)) (hy : a.eval y = u) (hu : Any0 u j) {cs : List Value} {t : TypeId} (hb : Blk w g cs t) (hi : i < cs.length)
  (h : ∀ w', Blk w' g (cs.set i u) t -> Chg (· = g) w w' -> w'.heap.size = w.heap.size -> wpList Tryz.prog ops Q rest (a.put o.dst undef) w') : wpList Tryz.prog ops Q (o :: rest) a w := by
 refine wpList_plain hgd fun K hK => ?_
 have hc := hb.cell i
 have hf := hb.frozen i
 have hz := Tryz.sizeOf20
 rw [List.getElem?_eq_getElem hi] at hc
 obtain ⟨h2, h3, h4⟩ := hb.setCell i u
 have hfin := hK _ _ (h _ h2 h3 h4)
 clear h hK h2 h3 h4
 obtain ⟨ok, w0, hu⟩ := hu
 unfold Oper.wp execOp
 simp only [ho, hx, hy]
 cases hu <;> (simp [go_sem, hz, hc, hf]; exact hfin)
theorem AnyJ.plainAny {ok ok' : Nat -> Prop} {w w' : World} {v : Value} {j : J} (h : AnyJ ok w v j) (hl : ∀ xs, j ≠ .list xs) (ht : ∀ t, j ≠ .table t) : AnyJ ok' w' v j := by
 cases h with
 | null => exact .null
 | bool => exact .bool
 | int => exact .int
 | float => exact .float
 | text => exact .text
 | list _ _ _ => exact absurd rfl (hl _)
 | table _ _ _ _ => exact absurd rfl (ht _)
theorem copy_plain {w : World} {j : J} {v : Value} (h : AnyJ No w v j) (hn : isT j = false) : CopyO w j v w :=
 ⟨No, No, .plain h hn (fun x hx => hx), fun x h => h.elim, fun x h => h.elim, Chg.refl _ _⟩
structure ZL (w : World) (g : Nat) (xs : List J) (wr : World) (n : Nat) (vs : List Value) (R : Nat -> Prop) : Prop where
 le : n ≤ xs.length
 len : vs.length = n
 blk : Blk wr g (vs ++ List.replicate (xs.length - n) .nilIface) 20
 val : ∀ (i : Nat) (u : Value) (x : J), vs[i]? = some u -> xs[i]? = some x -> AnyJ R wr u x
 rr : ∀ x, R x -> g < x
 chg : Chg No w wr
 wg : w.heap.size ≤ g
theorem ZL.step {w : World} {g : Nat} {xs : List J} {wr w2 w3 : World} {n : Nat} {vs : List Value} {R : Nat -> Prop} (h : ZL w g xs wr n vs R) {x : J} (hx : xs[n]? = some x) {u : Value} (h2 : CopyO wr x u w2)
  (hb : Blk w3 g ((vs ++ List.replicate (xs.length - n) Value.nilIface).set n u) 20) (h3 : Chg (· = g) w2 w3) : ∃ R', ZL w g xs w3 (n + 1) (vs ++ [u]) R' := by
 have hc2 : Chg No wr w2 := by obtain ⟨_, _, _, _, _, hc⟩ := h2; exact hc
 have hu := h2.any
 have hlt : n < xs.length := (List.getElem?_eq_some_iff.1 hx).1
 have hgl := h.blk.lt
 have hwg := h.wg
 refine ⟨fun y => R y ∨ wr.heap.size ≤ y, hlt, by simp [h.len], ?_, fun i v y hv hy => ?_, fun y hy => hy.elim (h.rr y) (fun hy => by omega), (h.chg.trans' hc2).trans h3 (fun i hi e => by omega), hwg⟩
 ·have e1 : List.replicate (xs.length - n) Value.nilIface = Value.nilIface :: List.replicate (xs.length - (n + 1)) Value.nilIface := by
   rw [show xs.length - n = (xs.length - (n + 1)) + 1 by omega, List.replicate_succ]
  have e2 : (vs ++ List.replicate (xs.length - n) Value.nilIface).set n u = (vs ++ [u]) ++ List.replicate (xs.length - (n + 1)) Value.nilIface := by
   rw [e1, List.set_append_right _ _ (Nat.le_of_eq h.len), h.len, Nat.sub_self]
   simp
  rw [← e2]; exact hb
 ·by_cases hi : i < vs.length
  ·rw [List.getElem?_append_left hi] at hv
   exact (((h.val i v y hv hy).chg hc2 (fun _ _ e => e)).chg h3 (fun q hq e => by have := h.rr q hq; omega)).mono (fun q _ hq => .inl hq)
  ·have : i = vs.length := by
    have := (List.getElem?_eq_some_iff.1 hv).1
    simp at this
    omega
   subst this
   rw [List.getElem?_append_right (Nat.le_refl _), Nat.sub_self] at hv
   cases hv
   rw [h.len, hx] at hy
   cases hy
   exact (hu.chg h3 (fun q hq e => by have h5 : wr.heap.size ≤ q := hq; have h6 : q = g := e; omega)).mono (fun q _ hq => .inr hq)
theorem ZL.done {w : World} {g : Nat} {xs : List J} {wr : World} {vs : List Value} {R : Nat -> Prop} (h : ZL w g xs wr xs.length vs R) (hm : xs.length ≤ maxLen) : CopyO w (.list xs) (.iface 151 (.slice (some ⟨g, 0, none⟩) xs.length xs.length)) wr := by
 have hb := h.blk
 rw [Nat.sub_self, List.replicate_zero, List.append_nil] at hb
 have hwg := h.wg
 refine ⟨fun y => y = g ∨ R y, No, .plain (.list (vs := vs) ?_ h.len (fun i u x h1 h2 => (h.val i u x h1 h2).mono (fun q _ hq => .inr hq))) rfl (fun x hx => hx), fun y hy => ⟨?_, id⟩, fun y hy => hy.elim, h.chg⟩
 ·refine ⟨by rw [List.length_map, h.len]; exact hm, fun r hr => ?_, _, _, by rw [List.length_map, h.len], (by intro e; cases e), fun _ => ⟨_, _, rfl, .inl rfl, fun i r hr j u hu => ?_⟩⟩
  ·obtain ⟨q, -, rfl⟩ := List.mem_map.1 hr; rfl
  ·rw [List.getElem?_map] at hr
   cases hvi : vs[i]? with
   | none => rw [hvi] at hr; cases hr
   | some q =>
    rw [hvi] at hr
    cases hr
    cases j with
    | zero =>
     cases hu
     rw [hb.cell, show 0 + i * 1 + 0 = i by omega, hvi]
    | succ j => simp at hu
 ·rcases hy with rfl | hy
  ·exact hwg
  ·have := h.rr y hy; omega
theorem zzCopy_any (N : Nat) (hN : N < 1099511627776) (d : Nat) : ∀ (ok : Nat -> Prop) (j : J) (v : Value) (w : World), AnyJ ok w v j -> Wf N d j -> Calls Tryz.prog 141 #[v] w (CopyRet w j) := by
 induction d with
 | zero => intro ok j v w _ h; exact h.elim
 | succ d ih =>
  intro ok j v w ha wf
  have IH := Hd ih
  have WF := Hd wf
  have HA := Hd ha
  have has : ∀ z, (Instr.typeAssert v 20 67 true).run Tryz.prog z = .ok (.tuple #[mapOf v, .bool (isT j)]) z := fun z => run_assert67 ha.any0
  have HAS := Hd has
  clear ih wf has
  cases ha with
  | @table b n f kvs hm hb hd h =>
   have hcopy := zzCopyMap_of N d hN IH.out ok kvs b w HA.out WF.out
   have HCP := Hd hcopy
   have has1 : ∀ z, (Instr.typeAssert (.iface 67 (.map (some b))) 20 67 true).run Tryz.prog z = .ok (.tuple #[.map (some b), .bool true]) z := HAS.out
   clear hcopy hm hb hd h
   go_enter Tryz.func141, Tryz.ntmps141
   go_wp2_with fail
   refine HCP.out.mono ?_
   rintro e w1 ⟨g, rfl, hcp⟩
   have HC := Hd hcp
   clear hcp
   go_wp2
   go_ret
   exact ⟨_, rfl, HC.out⟩
  | @list lv vs xs hr hn h =>
   have hl1 := hr.1
   have has1 : ∀ z, (Instr.typeAssert (.iface 151 lv) 20 67 true).run Tryz.prog z = .ok (.tuple #[.map none, .bool false]) z := HAS.out
   have has2 := as151_151 lv
   have HR := Hd hr
   have HN := Hd hn
   have HE := Hd h
   obtain ⟨-, -, la, lc, rfl, -, -⟩ := hr
   simp only [List.length_map] at HR HA hl1 has1 has2 ⊢
   rw [hn] at HR HA hl1 has1 has2 ⊢
   unfold maxLen at hl1
   have hxl : xs.length < 1099511627776 := Nat.lt_of_le_of_lt WF.out.1 hN
   have hmk := run_make151 xs.length hxl
   clear hn h
   go_enter Tryz.func141, Tryz.ntmps141
   obtain ⟨g, hg⟩ : ∃ g, g = w.heap.size := ⟨_, rfl⟩
   go_wp2_with fail
   rw [← hg]
   have HG := Hd hg
   have HZ0 := Hd (show ZL w g xs (w.alloc (.cells (List.replicate xs.length Value.nilIface).toArray 20)) 0 [] No from
    ⟨Nat.zero_le _, rfl, by simpa using Blk.newAt hg (List.replicate xs.length Value.nilIface) 20, fun i u x h => by simp at h, fun x h => h.elim, (Chg.refl No w).alloc _, Nat.le_of_eq hg.symm⟩)
   clear hg hmk
   go_loopw [22] (fun ct wr => ∃ (n : Nat) (vs : List Value) (R : Nat -> Prop), ct = .int .i64 n /\ ZL w g xs wr n vs R) (fun ct _ => xs.length - (intOf ct).toNat)
   case atStart => exact ⟨0, _, _, rfl, HZ0.out⟩
   case round =>
    obtain ⟨n, us, R, rfl, hz⟩ := hrel
    have HZ := Hd hz
    clear hz
    by_cases hlt : n < xs.length
    ·obtain ⟨x, hx⟩ : ∃ x, xs[n]? = some x := ⟨_, List.getElem?_eq_getElem hlt⟩
     obtain ⟨u, hu⟩ : ∃ u, vs[n]? = some u := ⟨_, List.getElem?_eq_getElem (by rw [HN.out]; exact hlt)⟩
     obtain ⟨lb, lo, rfl, hlok, hlc⟩ := HR.out.at (i := n) (r := [u]) (by simp [hu])
     have hlc := (hlc.chg HZ.out.chg id).one
     simp only [Nat.mul_one] at hlc
     have HU := Hd ((HE.out n u x hu hx).bel.chg HZ.out.chg (fun _ _ e => e))
     have HX := Hd hx
     have h64 : (n : Int) < (xs.length : Int) := by omega
     clear hx hu hlok
     go_wp2_with fail
     refine (IH.out (okB ok w) x u wr HU.out (WF.out.2 x (List.mem_of_getElem? HX.out))).mono ?_
     rintro e w2 ⟨u', rfl, hcp⟩
     have hany := hcp.any.any0
     have hb2 : Blk w2 g (us ++ List.replicate (xs.length - n) .nilIface) 20 := by obtain ⟨_, _, _, _, _, hc⟩ := hcp; exact HZ.out.blk.chg hc id
     have hbl : n < (us ++ List.replicate (xs.length - n) Value.nilIface).length := by rw [List.length_append, List.length_replicate, HZ.out.len]; omega
     have HCP := Hd hcp
     clear hcp hlc
     go_wp2_with (first | (refine wpList_setIface rfl rfl rfl rfl hany hb2 hbl ?_; intro w3 hb3 hc3 hs3))
     obtain ⟨R', hz3⟩ := HZ.out.step HX.out HCP.out hb3 hc3
     have HZ3 := Hd hz3
     clear hz3 hb3 hc3 hs3 hb2 hbl hany
     go_roundw
     case rel => exact ⟨n + 1, _, _, by go_num, HZ3.out⟩
     case measure => simp [intOf]; omega
    ·have hnl : n = xs.length := Nat.le_antisymm HZ.out.le (Nat.not_lt.1 hlt)
     subst hnl
     have hlen : ¬ ((xs.length : Nat) : Int) < (xs.length : Int) := by omega
     go_wp2
     go_ret
     exact ⟨_, rfl, HZ.out.done (by unfold maxLen; omega)⟩
  | @bool b0 =>
   have has1 : ∀ z, (Instr.typeAssert (.iface 4 (.bool b0)) 20 67 true).run Tryz.prog z = .ok (.tuple #[.map none, .bool false]) z := HAS.out
   have has2 := as4_151 (.bool b0)
   go_enter Tryz.func141, Tryz.ntmps141
   go_wp2
   go_ret
   exact ⟨_, rfl, copy_plain (HA.out.plainAny (fun _ e => by cases e) (fun _ e => by cases e)) rfl⟩
  | @int i0 =>
   have has1 : ∀ z, (Instr.typeAssert (.iface 2 (.int .i64 i0)) 20 67 true).run Tryz.prog z = .ok (.tuple #[.map none, .bool false]) z := HAS.out
   have has2 := as2_151 (.int .i64 i0)
   go_enter Tryz.func141, Tryz.ntmps141
   go_wp2
   go_ret
   exact ⟨_, rfl, copy_plain (HA.out.plainAny (fun _ e => by cases e) (fun _ e => by cases e)) rfl⟩
  | @float f0 =>
   have has1 : ∀ z, (Instr.typeAssert (.iface 22 (.float .f64 f0)) 20 67 true).run Tryz.prog z = .ok (.tuple #[.map none, .bool false]) z := HAS.out
   have has2 := as22_151 (.float .f64 f0)
   go_enter Tryz.func141, Tryz.ntmps141
   go_wp2
   go_ret
   exact ⟨_, rfl, copy_plain (HA.out.plainAny (fun _ e => by cases e) (fun _ e => by cases e)) rfl⟩
  | @text t0 =>
   have has1 : ∀ z, (Instr.typeAssert (.iface 9 (.string t0)) 20 67 true).run Tryz.prog z = .ok (.tuple #[.map none, .bool false]) z := HAS.out
   have has2 := as9_151 (.string t0)
   go_enter Tryz.func141, Tryz.ntmps141
   go_wp2
   go_ret
   exact ⟨_, rfl, copy_plain (HA.out.plainAny (fun _ e => by cases e) (fun _ e => by cases e)) rfl⟩
  | null =>
   have has1 : ∀ z, (Instr.typeAssert .nilIface 20 67 true).run Tryz.prog z = .ok (.tuple #[.map none, .bool false]) z := HAS.out
   have has2 : ∀ z, (Instr.typeAssert .nilIface 20 151 true).run Tryz.prog z = .ok (.tuple #[.slice none 0 0, .bool false]) z := fun z => by kernel_rfl
   go_enter Tryz.func141, Tryz.ntmps141
   go_wp2
   go_ret
   exact ⟨_, rfl, copy_plain (HA.out.plainAny (fun _ e => by cases e) (fun _ e => by cases e)) rfl⟩
section
variable {w : World} {ops : Array Oper} {rest : List Oper} {o : Oper} {a : Act} {Q : Exit -> Act -> World -> Prop}
theorem look218_of {b n : Nat} {D : DataW Value} (h : w.ownsMap Tryz.prog 9 RV b n D) {k : K} (hk : k.size ≤ maxLen) :
  (Instr.lookup 218 (.map (some b)) (.string k) false).run Tryz.prog w = .ok ((mv D k).getD (.bool false)) w := by
 obtain ⟨es, clock, hb, F, _, rfl⟩ := h
 have hz := Tryz.zeroValue4 w
 rcases Maps.fit_look false keyed9 Tryz.underlying218 hz hb F (keyOf_klit hk) with ⟨hrun, _, hat⟩ | ⟨e0, y, _, _, hrun, hRv, hat, _⟩
 ·have hm : mv (DataW.map ((es.toList.map (WideElems.rg Tryz.prog 9 RV)).foldr DataW.insert [])) k = none := by unfold mv; rw [hat]
  rw [hm, hrun]; rfl
 ·have hy : y.1 = .held e0.val := by cases hRv; rfl
  rw [hy] at hat
  have hm : mv (DataW.map ((es.toList.map (WideElems.rg Tryz.prog 9 RV)).foldr DataW.insert [])) k = some e0.val := by unfold mv; rw [hat]
  rw [hm, hrun]; rfl
theorem run_look218 {b n : Nat} {f : K -> Option Value} (hb : MapB w b n f) {k : K} (hk : k.size ≤ maxLen) : (Instr.lookup 218 (.map (some b)) (.string k) false).run Tryz.prog w = .ok ((f k).getD (.bool false)) w := by
 obtain ⟨D, h1, h2⟩ := hb
 rw [look218_of h1 hk, ← h2]
theorem wpList_putB218 (hg : o.guard = none) {m x v : Operand} (hop : o.op = Op.mapUpdate 218 m x v) {b n : Nat} {f : K -> Option Value} (hm : a.eval m = .map (some b)) (hb : MapB w b n f) (hn : n < maxLen)
  {k : K} {u : Value} (hx : a.eval x = .string k) (hk : k.size ≤ maxLen) (hv : a.eval v = u)
  (hK : ∀ w', MapB w' b (n + 1) (fun z => if z = k then some u else f z) -> Chg (· = b) w w' -> w'.heap.size = w.heap.size -> wpList Tryz.prog ops Q rest (a.put o.dst undef) w') :
  wpList Tryz.prog ops Q (o :: rest) a w := by
 obtain ⟨D, h1, h2⟩ := hb
 refine wpList_mapUpdate_in w hg m x v 218 hop 9 4 keyed9 Tryz.underlying218 RV b n D hm h1 hn _ u (klit k) hx hv (keyOf_klit hk) (.held u) [] rfl ?_
 intro w' h3 h4
 refine hK w' ⟨_, h3, fun z => ?_⟩ ((Chg.grown h4.grown).mono (fun i _ e => (Option.some.inj e).symm)) ?_
 ·simp only [mv_put h1.isMap, h2]
 ·obtain ⟨es, c, es', c', e1, rfl⟩ := h4
  simp [ChangeMaps.setBlock]
end
theorem run_makeMap218 (w : World) : (Instr.makeMap 218 none).run Tryz.prog w = .ok (.map (some w.heap.size)) (w.alloc (.map #[] 0)) := rfl
def isN : J -> Bool
 | .null => true
 | _ => false
theorem run_eqNil {v : Value} {j : J} (h : Any0 v j) (w : World) : (Go.binOp BinOp.eql 20 v .nilIface).run Tryz.prog w = .ok (.bool (isN j)) w := by
 obtain ⟨_, _, h⟩ := h
 cases h <;> kernel_rfl
theorem run_neNil {v : Value} {j : J} (h : Any0 v j) (w : World) : (Go.binOp BinOp.neq 20 v .nilIface).run Tryz.prog w = .ok (.bool (!isN j)) w := by
 obtain ⟨_, _, h⟩ := h
 cases h <;> kernel_rfl
theorem run_guardEq {v : Value} {j : J} (h : Any0 v j) (x : Operand) (w : World) : (eqGuard BinOp.eql 20 x (.const .nilIface) v .nilIface).run Tryz.prog w = .ok () w := by
 obtain ⟨_, _, h⟩ := h
 cases x <;> cases h <;> kernel_rfl
theorem run_guardNe {v : Value} {j : J} (h : Any0 v j) (x : Operand) (w : World) : (eqGuard BinOp.neq 20 x (.const .nilIface) v .nilIface).run Tryz.prog w = .ok () w := by
 obtain ⟨_, _, h⟩ := h
 cases x <;> cases h <;> kernel_rfl
theorem run_must67 (v : Value) (w : World) : (Instr.typeAssert (.iface 67 v) 20 67 false).run Tryz.prog w = .ok v w := by kernel_rfl
theorem istable_any {v : Value} {j : J} (h : Any0 v j) (w : World) : Calls Tryz.prog 145 #[v] w fun e w' => e = .returned (.bool (isT j)) /\ w' = w := by
 have has : ∀ z, (Instr.typeAssert v 20 67 true).run Tryz.prog z = .ok (.tuple #[mapOf v, .bool (isT j)]) z := fun z => run_assert67 h
 go_enter Tryz.func145, Tryz.ntmps145
 go_wp2
 go_ret
 exact ⟨rfl, rfl⟩
theorem empty_beq (a : K) : (a.toList == []) = decide (a = ByteArray.empty) := by
 have h := toList_beq a ByteArray.empty
 rwa [show ByteArray.empty.toList = [] from by rw [ByteArray.toList_eq]; rfl] at h
theorem concatPrefix_any (a b : K) (w : World) (ha : a.size ≤ 1000000000000000000) (hb : b.size ≤ 1000000000000000000) : Calls Tryz.prog 142 #[.string a, .string b] w fun e w' => (∃ s, e = .returned (.string s) /\ s.size ≤ a.size + b.size + 1) /\ w' = w := by
 by_cases h0 : a = ByteArray.empty
 ·have h1 : (a.toList == []) = true := by rw [empty_beq]; simpa using h0
  go_enter Tryz.func142, Tryz.ntmps142
  go_wp2
  go_ret
  exact ⟨⟨b, rfl, by omega⟩, rfl⟩
 ·have h1 : (a.toList == []) = false := by rw [empty_beq]; simpa using h0
  have hs : (a ++ (⟨#[46]⟩ : ByteArray)).size = a.size + 1 := by rw [ByteArray.size_append]; rfl
  clear h0
  go_enter Tryz.func142, Tryz.ntmps142
  go_wp2
  go_ret
  refine ⟨⟨_, rfl, ?_⟩, rfl⟩
  rw [ByteArray.size_append, hs]
  omega
abbrev printV : Value := .func (.func 93) #[] #[]
theorem wp_callV5 {P : Program} {f : FuncId} (hcall : ∀ (args : Array Value) (w : World), (callFunc f args).run P w = .ok (.enter f args) w) {o : Oper} {a : Act} {w : World} {K : Act -> World -> Prop} {Q : Exit -> Act -> World -> Prop} {x1 x2 x3 x4 x5 : Operand} {ts : Array TypeId} (ho : o.op = .call { callee := .value (.func f), args := #[x1, x2, x3, x4, x5], argTypes := ts })
  {u1 u2 u3 u4 u5 : Value} (h1 : a.eval x1 = u1) (h2 : a.eval x2 = u2) (h3 : a.eval x3 = u3) (h4 : a.eval x4 = u4) (h5 : a.eval x5 = u5) {R : Ending -> World -> Prop} (hc : Calls P f #[u1, u2, u3, u4, u5] w R) (h : ∀ e w', R e w' -> ∃ v, e = .returned v /\ K (a.put o.dst v) w') : o.wp P a w K Q := by
 unfold Oper.wp
 have hrun : (execOp a.eval o).run P w = .ok (.enter f #[u1, u2, u3, u4, u5]) w := by
  simp only [execOp, ho, List.map_toArray, List.map_cons, List.map_nil, h1, h2, h3, h4, h5]
  simp [resolve, Act.eval, go_sem, hcall]
  exact ⟨by rw [← h1]; cases x1 <;> simp [Act.eval], by rw [← h2]; cases x2 <;> simp [Act.eval], by rw [← h3]; cases x3 <;> simp [Act.eval], by rw [← h4]; cases x4 <;> simp [Act.eval], by rw [← h5]; cases x5 <;> simp [Act.eval]⟩
 rw [hrun, Oper.upon_enter]
 refine hc.mono fun e w' hr => ?_
 obtain ⟨v, rfl, hk⟩ := h e w' hr
 exact hk
theorem run_build151_2 (u v : Value) (hu : u.oneCell' = true) (hv : v.oneCell' = true) (w : World) : (Instr.buildSlice 151 2 #[(0, u), (1, v)]).run Tryz.prog w = .ok (.slice (some ⟨w.heap.size, 0, none⟩) 2 2) (w.alloc (.cells #[u, v] 20)) := by
 cases u <;> first | (simp [Value.oneCell'] at hu; done) | (cases v <;> first | (simp [Value.oneCell'] at hv; done) | kernel_rfl)
theorem wpList_build151_2 {ops : Array Oper} {rest : List Oper} {o : Oper} {a : Act} {w : World} {Q : Exit -> Act -> World -> Prop} (hg : o.guard = none) {x y : Operand} (ho : o.op = .buildSlice 151 2 #[(0, x), (1, y)]) {u v : Value} (hx : a.eval x = u) (hy : a.eval y = v) (hu : u.oneCell' = true) (hv : v.oneCell' = true)
  (h : wpList Tryz.prog ops Q rest (a.put o.dst (.slice (some ⟨w.heap.size, 0, none⟩) 2 2)) (w.alloc (.cells #[u, v] 20))) : wpList Tryz.prog ops Q (o :: rest) a w := by
 refine wpList_plain hg fun K' hK' => ?_
 have h3 := run_build151_2 u v hu hv w
 unfold Oper.wp
 simp only [execOp, ho, List.map_toArray, List.map_cons, List.map_nil, hx, hy, Sem.run_bind, h3, Result.andThen_ok]
 exact hK' _ _ h
theorem printf_any (s l : Value) (w : World) : Calls Tryz.prog 93 #[s, l] w fun e w' => e = .returned (.tuple #[]) /\ w' = w := by
 go_enter Tryz.func93, Tryz.ntmps93
 go_wp2
 refine bodyPost_end (results_none rfl _ _ _) rfl ?_
 exact ⟨rfl, rfl⟩
structure CE (ok : Nat -> Prop) (w : World) (a b : T) (ba bb na nb : Nat) (fa fb : K -> Option Value) (Fa Fb : K -> Nat -> Prop) : Prop where
 ta : TabO ok w ba na fa a Fa
 tb : TabO ok w bb nb fb b Fb
 ap : ∀ x, footT ba Fa x -> ¬ footT bb Fb x
 nok : ∀ x, footT ba Fa x ∨ footT bb Fb x -> ¬ ok x
 okl : ∀ x, ok x -> x < w.heap.size
def nullAt (a : T) (k : K) : Bool := match get a k with | some .null => true | _ => false
def origAt (b : T) (k : K) : Option Value := match get b k with | none => none | some .null => none | some _ => some (.bool true)
structure CT (ok : Nat -> Prop) (w : World) (m : Bool) (a b : T) (ba bb r lim nf : Nat) (fa fs : K -> Option Value) (Fa Fb : K -> Nat -> Prop) (s ns : Nat) (wr : World) (left : K -> Bool) (cnt nd : Nat) (fd : K -> Option Value) (F : K -> Nat -> Prop) : Prop where
 rng : RangeB wr bb r nf fs left cnt
 num : nd + cnt ≤ lim
 dst : MapB wr ba nd fd
 hit : ∀ k, left k = false -> (fs k).isSome = true -> (fd k).isSome = (coalAt m (get a k) (get b k)).isSome /\ ∀ u z, fd k = some u -> coalAt m (get a k) (get b k) = some z -> AnyO ok wr u z (F k)
 miss : ∀ k, (left k = true ∨ fs k = none) -> fd k = fa k /\ ∀ x, F k x ↔ Fa k x
 old : ∀ k, (left k = true ∨ fs k = none) -> ∀ u x, fa k = some u -> get a k = some x -> AnyO ok wr u x (Fa k)
 src : ∀ k, left k = true -> ∀ u y, fs k = some u -> nullAt a k = false -> get b k = some y -> AnyO ok wr u y (Fb k)
 sub : ∀ k x, F k x -> Fa k x ∨ Fb k x
 noF : ∀ k, fd k = none -> ∀ x, ¬ F k x
 org : MapB wr s ns (origAt b)
 chg : Chg (fun x => footT ba Fa x ∨ footT bb Fb x) w wr
 rs : w.heap.size ≤ s /\ s < r
theorem CT.step {ok : Nat -> Prop} {w : World} {m : Bool} {a b : T} {ba bb r lim nf na nb : Nat} {fa fb fs : K -> Option Value} {Fa Fb : K -> Nat -> Prop} {s ns : Nat} {wr : World} {left : K -> Bool} {cnt nd : Nat} {fd : K -> Option Value} {F : K -> Nat -> Prop}
  (h : CT ok w m a b ba bb r lim nf fa fs Fa Fb s ns wr left cnt nd fd F) (e : CE ok w a b ba bb na nb fa fb Fa Fb) {k : K} {w3 : World} {cnt' nd' : Nat} {fd' : K -> Option Value} {G : Nat -> Prop} (hl : left k = true) (hf : (fs k).isSome = true) (hlt : cnt' < cnt) (hnd : nd' ≤ nd + 1)
  {w1 : World} (hrg : RangeB w1 bb r nf fs (fun z => left z && !(z == k)) cnt') (hc1 : Chg (· = r) wr w1) (hc : Chg (fun x => x = ba ∨ Fa k x ∨ Fb k x) w1 w3) (hd : MapB w3 ba nd' fd') (hfd : ∀ z, z ≠ k -> fd' z = fd z)
  (hnew : (fd' k).isSome = (coalAt m (get a k) (get b k)).isSome /\ ∀ u z, fd' k = some u -> coalAt m (get a k) (get b k) = some z -> AnyO ok w3 u z G) (hsub : ∀ x, G x -> Fa k x ∨ Fb k x) (hno : fd' k = none -> ∀ x, ¬ G x) :
  CT ok w m a b ba bb r lim nf fa fs Fa Fb s ns w3 (fun z => left z && !(z == k)) cnt' nd' fd' (fun z => if z = k then G else F z) := by
 have hrs := h.rs
 have hrl := h.rng.lt
 have hlow : ∀ x, footT ba Fa x ∨ footT bb Fb x -> x < w.heap.size := fun x hx => hx.elim (e.ta.lt) (e.tb.lt)
 have hbaL : ba < w.heap.size := hlow ba (.inl (.inl rfl))
 have hbbL : bb < w.heap.size := hlow bb (.inr (.inl rfl))
 have hFaL : ∀ z x, Fa z x -> x < w.heap.size := fun z x hx => hlow x (.inl (.inr ⟨z, hx⟩))
 have hFbL : ∀ z x, Fb z x -> x < w.heap.size := fun z x hx => hlow x (.inr (.inr ⟨z, hx⟩))
 have hab : ∀ z x, Fa z x -> ∀ z', ¬ Fb z' x := fun z x hx z' hx' => e.ap x (.inr ⟨z, hx⟩) (.inr ⟨z', hx'⟩)
 have hbb : ba ≠ bb := fun q => e.ap ba (.inl rfl) (.inl q)
 have hba : ∀ z, ¬ Fb z ba := fun z q => e.ap ba (.inl rfl) (.inr ⟨z, q⟩)
 have hbb2 : ∀ z, ¬ Fa z bb := fun z q => e.ap bb (.inr ⟨z, q⟩) (.inl rfl)
 have keep : ∀ {u : Value} {j : J} {S : Nat -> Prop}, AnyO ok wr u j S -> (∀ x, S x -> x < w.heap.size /\ x ≠ ba /\ ¬ Fa k x /\ ¬ Fb k x) -> AnyO ok w3 u j S := by
  intro u j S ho hS
  refine (ho.chg hc1 (fun x hx q => ?_) (fun x hx q => ?_)).chg hc (fun x hx q => ?_) (fun x hx q => ?_)
  ·have := e.okl x hx; omega
  ·have := (hS x hx).1; omega
  ·rcases q with q | q | q
   ·exact e.nok x (.inl (.inl q)) hx
   ·exact e.nok x (.inl (.inr ⟨k, q⟩)) hx
   ·exact e.nok x (.inr (.inr ⟨k, q⟩)) hx
  ·obtain ⟨h1, h2, h3, h4⟩ := hS x hx
   rcases q with q | q | q
   ·exact h2 q
   ·exact h3 q
   ·exact h4 q
 have hFk : ∀ z, z ≠ k -> ∀ x, F z x -> x < w.heap.size /\ x ≠ ba /\ ¬ Fa k x /\ ¬ Fb k x := by
  intro z hz x hx
  rcases h.sub z x hx with q | q
  ·exact ⟨hFaL z x q, fun q2 => e.ta.notb z (q2 ▸ q), fun q2 => hz (e.ta.apart z k x q q2), hab z x q k⟩
  ·exact ⟨hFbL z x q, fun q2 => hba z (q2 ▸ q), fun q2 => hab k x q2 z q, fun q2 => hz (e.tb.apart z k x q q2)⟩
 have hlk : ∀ z, z ≠ k -> (left z && !(z == k)) = left z := fun z hz => by
  have : (z == k) = false := by rw [k_beq]; exact decide_eq_false hz
  rw [this]; simp
 have hnl : ∀ z, ((left z && !(z == k)) = true ∨ fs z = none) -> z ≠ k := fun z hz q => by
  subst q
  rcases hz with hz | hz
  ·simp at hz
  ·rw [hz] at hf; cases hf
 refine ⟨hrg.chg hc (fun q => ?_) (fun q => ?_), by have := h.num; omega, hd, fun z hz hfz => ?_, fun z hz => ?_, fun z hz u x hu hx => ?_, fun z hz u y hu hn hy => ?_, fun z x hx => ?_, fun z hz x hx => ?_, ?_, ?_, hrs⟩
 ·rcases q with q | q | q
  ·exact hbb q.symm
  ·exact hbb2 k q
  ·exact e.tb.notb k q
 ·rcases q with q | q | q
  ·omega
  ·have := hFaL k r q; omega
  ·have := hFbL k r q; omega
 ·by_cases hzk : z = k
  ·subst hzk; rw [if_pos rfl]; exact hnew
  ·rw [hlk z hzk] at hz
   rw [if_neg hzk, hfd z hzk]
   obtain ⟨h1, h2⟩ := h.hit z hz hfz
   exact ⟨h1, fun u x hu hx => keep (h2 u x hu hx) (hFk z hzk)⟩
 ·have hzk := hnl z hz
  rw [hlk z hzk] at hz
  rw [if_neg hzk, hfd z hzk]
  exact h.miss z hz
 ·have hzk := hnl z hz
  rw [hlk z hzk] at hz
  exact keep (h.old z hz u x hu hx) (fun x hx => ⟨hFaL z x hx, fun q2 => e.ta.notb z (q2 ▸ hx), fun q2 => hzk (e.ta.apart z k x hx q2), hab z x hx k⟩)
 ·have hzk := hnl z (.inl hz)
  rw [hlk z hzk] at hz
  exact keep (h.src z hz u y hu hn hy) (fun x hx => ⟨hFbL z x hx, fun q2 => hba z (q2 ▸ hx), fun q2 => hab k x q2 z hx, fun q2 => hzk (e.tb.apart z k x hx q2)⟩)
 ·by_cases hzk : z = k
  ·rw [if_pos hzk] at hx; rw [hzk]; exact hsub x hx
  ·rw [if_neg hzk] at hx; exact h.sub z x hx
 ·by_cases hzk : z = k
  ·rw [if_pos hzk] at hx; rw [hzk] at hz; exact hno hz x hx
  ·rw [if_neg hzk] at hx; rw [hfd z hzk] at hz; exact h.noF z hz x hx
 ·refine (h.org.chg hc1 (fun q => by omega)).chg hc (fun q => ?_)
  rcases q with q | q | q
  ·omega
  ·have := hFaL k s q; omega
  ·have := hFbL k s q; omega
 ·refine (h.chg.trans hc1 (fun x hx q => by omega)).trans hc (fun x hx q => ?_)
  rcases q with q | q | q
  ·exact .inl (.inl q)
  ·exact .inl (.inr ⟨k, q⟩)
  ·exact .inr (.inr ⟨k, q⟩)
theorem CT.done {ok : Nat -> Prop} {w : World} {m : Bool} {a b : T} {ba bb r lim nf na nb : Nat} {fa fb fs : K -> Option Value} {Fa Fb : K -> Nat -> Prop} {s ns : Nat} {wr : World} {left : K -> Bool} {cnt nd : Nat} {fd : K -> Option Value} {F : K -> Nat -> Prop}
  (h : CT ok w m a b ba bb r lim nf fa fs Fa Fb s ns wr left cnt nd fd F) (e : CE ok w a b ba bb na nb fa fb Fa Fb) (hl : ∀ k, left k = false) (hs : ∀ k, fs k = if nullAt a k then some .nilIface else fb k) :
  TabO ok wr ba nd fd (coal m a b) F := by
 have hnone : ∀ k, fs k = none -> get b k = none /\ coalAt m (get a k) (get b k) = get a k := by
  intro k hk
  rw [hs] at hk
  split at hk
  ·cases hk
  ·have hb := e.tb.get_none hk
   exact ⟨hb, by rw [hb, coalAt_none]⟩
 refine ⟨h.dst, fun k => ?_, fun k u z hu hz => ?_, fun k k' x hx hx' => ?_, fun k hk => ?_, h.noF⟩
 ·rw [get_coal]
  cases hf : fs k with
  | none => rw [(h.miss k (.inr hf)).1, (hnone k hf).2, e.ta.dom]
  | some u => exact (h.hit k (hl k) (by rw [hf]; rfl)).1
 ·rw [get_coal] at hz
  cases hf : fs k with
  | none =>
   rw [(hnone k hf).2] at hz
   obtain ⟨h1, h2⟩ := h.miss k (.inr hf)
   rw [h1] at hu
   exact (h.old k (.inr hf) u z hu hz).set h2
  | some v => exact (h.hit k (hl k) (by rw [hf]; rfl)).2 u z hu hz
 ·rcases h.sub k x hx with q | q <;> rcases h.sub k' x hx' with q' | q'
  ·exact e.ta.apart k k' x q q'
  ·exact absurd (.inr ⟨k', q'⟩) (e.ap x (.inr ⟨k, q⟩))
  ·exact absurd (.inr ⟨k, q⟩) (e.ap x (.inr ⟨k', q'⟩))
  ·exact e.tb.apart k k' x q q'
 ·rcases h.sub k ba hk with q | q
  ·exact e.ta.notb k q
  ·exact e.ap ba (.inl rfl) (.inr ⟨k, q⟩)
theorem AnyO.any0 {ok : Nat -> Prop} {w : World} {v : Value} {j : J} {S : Nat -> Prop} (h : AnyO ok w v j S) : Any0 v j := h.anyJ.any0
def CoalPost (ok : Nat -> Prop) (w : World) (b : Nat) (j : J) (Sa Sb : Nat -> Prop) (e : Ending) (w' : World) : Prop :=
 e = .returned (.map (some b)) /\ ∃ S', AnyO ok w' (.iface 67 (.map (some b))) j S' /\ (∀ x, S' x -> Sa x ∨ Sb x) /\ Chg (fun x => Sa x ∨ Sb x) w w'
theorem coalesceTables_any (U : List K) (N : Nat) (hU : U.length < 1099511627776) (hUk : ∀ k ∈ U, kOk k) (m : Bool) (d : Nat) : ∀ (ok : Nat -> Prop) (a b : T) (ba bb : Nat) (Sa Sb : Nat -> Prop) (w : World) (pre : K),
  AnyO ok w (.iface 67 (.map (some ba))) (.table a) Sa -> AnyO ok w (.iface 67 (.map (some bb))) (.table b) Sb -> (∀ x, Sa x -> ¬ Sb x) -> (∀ x, Sa x ∨ Sb x -> ¬ ok x) -> WU U N d (.table a) -> WU U N d (.table b) -> pre.size + d * 140737488355329 ≤ 900000000000000000 ->
  Calls Tryz.prog 144 #[printV, .map (some ba), .map (some bb), .string pre, .bool m] w (CoalPost ok w ba (.table (coal m a b)) Sa Sb) := by
 induction d with
 | zero => intro ok a b ba bb Sa Sb w pre _ _ _ _ h; exact h.elim
 | succ d ih =>
  intro ok a b ba bb Sa Sb w pre ha hb hab hnok wa wb hpre
  obtain ⟨_, na0, fa, Fa, ea, ta, hSa⟩ := ha.bel.tab
  obtain ⟨_, nb0, fb, Fb, eb, tb, hSb⟩ := hb.bel.tab
  cases ea
  cases eb
  replace ta := ta.fit
  replace tb := tb.fit
  obtain ⟨na, hna⟩ : ∃ na, na = a.length := ⟨_, rfl⟩
  obtain ⟨nb, hnb⟩ : ∃ nb, nb = b.length := ⟨_, rfl⟩
  rw [← hna] at ta
  rw [← hnb] at tb
  have HNN := Hd (show na < 1099511627776 /\ nb < 1099511627776 by have h1 := wa.len; have h2 := wb.len; omega)
  have HE := Hd (show CE (okB ok w) w a b ba bb na nb fa fb Fa Fb from ⟨ta, tb, fun x hx hx' => hab x ((hSa x).2 hx) ((hSb x).2 hx'), fun x hx ho => hnok x (hx.imp (hSa x).2 (hSb x).2) ho.1, fun x hx => hx.2⟩)
  have HSA := Hd hSa
  have HSB := Hd hSb
  have WA := Hd wa
  have WB := Hd wb
  have IH := Hd ih
  have HPRE := Hd hpre
  have HUK := Hd hUk
  have hma := ta.map
  have hmb := tb.map
  have HLA := Hd hma.lt
  have HLB := Hd hmb.lt
  have hmn1 := run_mapNil ba
  have hmn2 := run_mapNil bb
  have hmk := run_makeMap218
  clear ha hb hab hnok wa wb ih hna hnb ta tb hSa hSb hpre hUk
  go_enter Tryz.func144, Tryz.ntmps144
  obtain ⟨s, hs⟩ : ∃ s, s = w.heap.size := ⟨_, rfl⟩
  go_wp2_with (first | (at_range; refine wpList_rangeB rfl rfl rfl (hmb.alloc _) ?_; intro w0 cnt0 hrg0 hcn0 hc0 hs0; go_frame))
  have hgz : (w.alloc (.map #[] 0)).heap.size = s + 1 := by simp [hs]
  rw [hgz] at hrg0 hs0 ⊢
  rw [← hs]
  have HS := Hd hs
  have HC0 := Hd (((Chg.refl No w).alloc (.map #[] 0)).trans' hc0)
  have hout0 : MapB w0 s 0 (fun _ => none) := by
   have h := MapB.made w
   rw [← hs] at h
   exact h.chg hc0 id
  clear hs hs0 hgz hc0 hmn1 hmn2 hmk hma hmb
  go_loopw [12] (fun _ wr => ∃ (left : K -> Bool) (cnt n1 : Nat) (f1 : K -> Option Value), RangeB wr bb (s + 1) nb fb left cnt /\ n1 + cnt ≤ nb /\ MapB wr s n1 f1 /\ (∀ k, f1 k = if left k then none else origAt b k) /\ Chg No w wr) (fun _ wr => wr.rangeLeft bb (s + 1))
  case atStart =>
   refine ⟨_, _, 0, _, hrg0, by omega, hout0, fun k => ?_, HC0.out⟩
   cases h : fb k with
   | none => unfold origAt; rw [HE.out.tb.get_none h]; rfl
   | some _ => rfl
  case round =>
   obtain ⟨left, cnt, n1, f1, hrg, hcs, hout, hA, hcw⟩ := hrel
   have HA1 := Hd hA
   have HCW := Hd hcw
   clear hA hcw hrg0 hout0 hcn0
   go_wp2_with (first | (at_next; refine wpList_nextB rfl rfl rfl hrg ?_ ?_))
   ·intro hc0 hl0
    have hf1 : f1 = origAt b := funext fun k => by rw [HA1.out, hl0]; rfl
    subst hf1
    have hma := HE.out.ta.map.chg HCW.out id
    have hrl := hrg.lt
    clear hl0 HA1
    go_wp2_with (first | (at_range; refine wpList_rangeB rfl rfl rfl hma ?_; intro wq cnt2 hrg2 hcn2 hcq hsq; go_frame))
    obtain ⟨r2, hr2⟩ : ∃ r2, r2 = wr.heap.size := ⟨_, rfl⟩
    rw [← hr2] at hrg2 ⊢
    have HR2 := Hd (show s + 1 < r2 by omega)
    have HCQ := Hd (HCW.out.trans' hcq)
    have HORG := Hd (hout.chg hcq id)
    have hbq := HE.out.tb.map.chg HCQ.out id
    clear hr2 hcq hsq hma hrl hrg hout
    go_loopw [14] (fun _ wx => ∃ (left : K -> Bool) (cnt n2 : Nat) (f2 : K -> Option Value), RangeB wx ba r2 na fa left cnt /\ n2 + cnt ≤ nb + na /\ MapB wx bb n2 f2 /\ (∀ k, f2 k = if (!left k && nullAt a k) then some .nilIface else fb k) /\ Chg (· = bb) w wx /\ MapB wx s n1 (origAt b)) (fun _ wx => wx.rangeLeft ba r2)
    case atStart =>
     refine ⟨_, _, nb, _, hrg2, by omega, hbq, fun k => ?_, HCQ.out.mono (fun _ _ q => q.elim), HORG.out⟩
     cases h : fa k with
     | none => unfold nullAt; rw [HE.out.ta.get_none h]; rfl
     | some _ => rfl
    case round =>
     obtain ⟨left, cnt2, n2, f2, hrg, hcs2, hout, hA, hcw, horg⟩ := hrel
     have HA2 := Hd hA
     have HCX := Hd hcw
     have HORX := Hd horg
     clear hA hcw hrg2 hbq hcn2 HORG horg
     go_wp2_with (first | (at_next; refine wpList_nextB rfl rfl rfl hrg ?_ ?_))
     ·intro hc0 hl0
      have hfs : ∀ k, f2 k = if nullAt a k then some .nilIface else fb k := fun k => by rw [HA2.out, hl0]; rfl
      have HFS := Hd hfs
      have hrl := hrg.lt
      have hbs : bb < wr.heap.size := hout.lt
      clear hl0 HA2 hfs
      go_wp2_with (first | (at_range; refine wpList_rangeB rfl rfl rfl hout ?_; intro wy cnt3 hrg3 hcn3 hcy hsy; go_frame))
      obtain ⟨r3, hr3⟩ : ∃ r3, r3 = wr.heap.size := ⟨_, rfl⟩
      rw [← hr3] at hrg3 ⊢
      have hbab : ba ≠ bb := fun q => HE.out.ap ba (.inl rfl) (.inl q)
      have HCT0 := Hd (show CT (okB ok w) w m a b ba bb r3 (na + n2) n2 fa f2 Fa Fb s n1 wy (fun k => (f2 k).isSome) cnt3 na fa Fa from
       ⟨hrg3, by omega, (HE.out.ta.map.chg HCX.out hbab).chg hcy id, fun k h1 h2 => (by rw [h2] at h1; cases h1), fun k _ => ⟨rfl, fun x => Iff.rfl⟩,
        fun k _ u x hu hx => ((HE.out.ta.val k u x hu hx).chg HCX.out (fun y hy q => HE.out.nok y (.inr (.inl q)) hy) (fun y hy q => HE.out.ap y (.inr ⟨k, hy⟩) (.inl q))).chg hcy (fun _ _ q => q) (fun _ _ q => q),
        fun k hl u y hu hn hy => by
         have h := HFS.out k
         rw [hn, if_neg (by decide), hu] at h
         exact ((HE.out.tb.val k u y h.symm hy).chg HCX.out (fun z hz q => HE.out.nok z (.inr (.inl q)) hz) (fun z hz q => HE.out.tb.notb k (q ▸ hz))).chg hcy (fun _ _ q => q) (fun _ _ q => q),
        fun k x h => .inl h, HE.out.ta.none, HORX.out.chg hcy id, (HCX.out.mono (fun i _ q => .inr (.inl q))).trans' hcy, by have h1 := HS.out; have h2 := HR2.out; omega⟩)
      have HLIM := Hd (show na + n2 < 3298534883328 by have := HNN.out; omega)
      clear hr3 hrg3 hcy hsy hout hrg hcn3 hrl hbs hbab hcs2
      go_loopw [16] (fun _ wr => ∃ (left : K -> Bool) (cnt nd : Nat) (fd : K -> Option Value) (F : K -> Nat -> Prop), CT (okB ok w) w m a b ba bb r3 (na + n2) n2 fa f2 Fa Fb s n1 wr left cnt nd fd F) (fun _ wr => wr.rangeLeft bb r3)
      case atStart => exact ⟨_, _, _, _, _, HCT0.out⟩
      case round =>
       obtain ⟨left, cnt, nd, fd, F, hct⟩ := hrel
       have HCT := Hd hct
       have hrg := hct.rng
       clear hct HCT0
       go_wp2_with (first | (at_next; refine wpList_nextB rfl rfl rfl hrg ?_ ?_))
       ·intro hc0 hl0
        have HD := Hd (HCT.out.done HE.out hl0 HFS.out)
        clear hl0 hrg
        go_wp2
        go_ret
        refine ⟨rfl, footT ba F, HD.out.any.mono (fun x _ hx => hx.1), fun x hx => ?_, HCT.out.chg.mono (fun x _ hx => hx.imp (HSA.out x).2 (HSB.out x).2)⟩
        rcases hx with rfl | ⟨k, hx⟩
        ·exact .inl ((HSA.out _).2 (.inl rfl))
        ·rcases HCT.out.sub k x hx with q | q
         ·exact .inl ((HSA.out _).2 (.inr ⟨k, q⟩))
         ·exact .inr ((HSB.out _).2 (.inr ⟨k, q⟩))
       ·intro k u w1 cnt1 hk hlk hfv hrg1 hlt hc1 hs1 hen
        have HFD := Hd (HCT.out.miss k (.inl hlk)).1
        have HFSS := Hd (show (f2 k).isSome = true by rw [hfv]; rfl)
        have HFV := Hd hfv
        have HLK := Hd hlk
        have HLT := Hd hlt
        have HRG1 := Hd hrg1
        have HC1 := Hd hc1
        have HLE := Hd hrg.left_eq
        have HB3 := Hd (show ba < r3 /\ bb < r3 by have := HCT.out.rs; have := HLA.out; have := HLB.out; omega)
        have HD1 := Hd (HCT.out.dst.chg hc1 (by have := HB3.out; omega))
        have HOR1 := Hd (HCT.out.org.chg hc1 (by have := HCT.out.rs; omega))
        have HKU := Hd (show kOk k by
         have h := HFS.out k
         rw [hfv] at h
         cases hn : nullAt a k with
         | true =>
          unfold nullAt at hn
          cases hg : get a k with
          | none => rw [hg] at hn; cases hn
          | some x => exact HUK.out k (WA.out.get hg).1
         | false =>
          rw [hn, if_neg (by decide)] at h
          obtain ⟨y, hy, -⟩ := HE.out.tb.some h.symm
          exact HUK.out k (WB.out.get hy).1)
        have HKK := Hd hk
        have hp18 : pre.size ≤ 1000000000000000000 := by have := HPRE.out; omega
        have hk18 : k.size ≤ 1000000000000000000 := by have h := HKU.out; unfold kOk at h; omega
        clear hlk hfv hrg1 hlt hc1 hs1 hrg hk
        go_wp2_with fail
        refine (concatPrefix_any pre k w1 hp18 hk18).mono ?_
        rintro e wt ⟨⟨sx, rfl, hsx⟩, hwt⟩
        obtain rfl := hwt.symm
        have HSX := Hd (show sx.size + d * 140737488355329 ≤ 900000000000000000 by have h1 := HPRE.out; have h2 := HKU.out; unfold kOk at h2; rw [Nat.succ_mul] at h1; omega)
        have hd1 := HD1.out
        have hkk := HKK.out
        have hnd : nd < maxLen := by have := HCT.out.num; have := HLIM.out; unfold maxLen; omega
        clear hsx hp18 hk18
        cases hga : get a k with
        | none =>
         have hfa : fa k = none := by
          have h := HE.out.ta.dom k
          rw [hga] at h
          cases hf : fa k with
          | none => rfl
          | some _ => rw [hf] at h; cases h
         have HGA := Hd hga
         have HFDV := Hd (HFD.out.trans hfa)
         have hnu : nullAt a k = false := by unfold nullAt; rw [hga]
         obtain ⟨y, hgb⟩ : ∃ y, get b k = some y := by
          have h := HFS.out k
          rw [hnu, if_neg (by decide), HFV.out] at h
          obtain ⟨y, hy, -⟩ := HE.out.tb.some h.symm
          exact ⟨y, hy⟩
         have HSRC := Hd (HCT.out.src k HLK.out u y HFV.out hnu hgb)
         have HGB := Hd hgb
         clear hga hfa hnu hgb
         go_wp2_with (first | (at_lookup; refine wpList_lookB rfl rfl rfl hd1 rfl hkk ?_; rw [HFDV.out]; go_frame) | (at_mapUpdate; refine wpList_putB (u := u) rfl rfl rfl hd1 hnd rfl hkk rfl ?_; intro w3 hm3 hc3 hs3; go_frame))
         have HCTN := Hd (HCT.out.step HE.out (G := Fb k) HLK.out HFSS.out HLT.out (Nat.le_refl _) HRG1.out HC1.out (hc3.mono (fun _ _ q => .inl q)) hm3 (fun z hz => by rw [if_neg hz])
          ⟨by rw [if_pos rfl, HGA.out, HGB.out]; rfl, fun v z hv hz => by
           rw [if_pos rfl] at hv
           rw [HGA.out, HGB.out] at hz
           cases hv
           cases hz
           exact (HSRC.out.chg HC1.out (fun x hx q => by have := HE.out.okl x hx; have := HCT.out.rs; omega) (fun x hx q => by have := HE.out.tb.lt (.inr ⟨k, hx⟩); have := HCT.out.rs; omega)).chg hc3 (fun x hx q => HE.out.nok x (.inl (.inl q)) hx) (fun x hx q => HE.out.ap x (.inl q) (.inr ⟨k, hx⟩))⟩ (fun x hx => .inr hx) (fun h => by rw [if_pos rfl] at h; cases h))
         clear hm3 hc3 hs3
         go_roundw
         case rel => exact ⟨_, _, _, _, _, HCTN.out⟩
         case measure => rw [HCTN.out.rng.left_eq, HLE.out]; exact HLT.out
        | some x =>
         obtain ⟨u0, hfa⟩ : ∃ u0, fa k = some u0 := by
          have h := HE.out.ta.dom k
          rw [hga] at h
          cases hf : fa k with
          | none => rw [hf] at h; cases h
          | some v => exact ⟨v, rfl⟩
         have HFDV := Hd (HFD.out.trans hfa)
         have HO := Hd (HCT.out.old k (.inl HLK.out) u0 x hfa hga)
         have HFA := Hd hfa
         have hne := run_eqNil HO.out.any0
         have hgu := run_guardEq HO.out.any0
         clear hfa
         cases hxn : isN x with
         | true =>
          have hx : x = .null := by cases x <;> first | rfl | cases hxn
          subst hx
          have hu0 : u0 = .nilIface := by have h := HO.out.anyJ; cases h; rfl
          subst hu0
          have hu : u = .nilIface := by
           have h := HFS.out k
           rw [show nullAt a k = true by unfold nullAt; rw [hga], if_pos rfl, HFV.out] at h
           exact Option.some.inj h
          subst hu
          have HGA := Hd hga
          rw [hxn] at hne
          clear hga hxn
          cases m with
          | true =>
           go_wp2_with (first | (at_lookup; refine wpList_lookB rfl rfl rfl hd1 rfl hkk ?_; rw [HFDV.out]; go_frame))
           refine (istable_any ⟨No, w, AnyJ.null⟩ w1).mono ?_
           rintro e wt ⟨rfl, hwt⟩
           obtain rfl := hwt.symm
           go_wp2_with fail
           refine (istable_any ⟨No, w, AnyJ.null⟩ _).mono ?_
           rintro e wt ⟨rfl, hwt⟩
           obtain rfl := hwt.symm
           go_wp2_with fail
           have HCTN := Hd (HCT.out.step HE.out (G := Fa k) HLK.out HFSS.out HLT.out (Nat.le_succ nd) HRG1.out HC1.out ((Chg.refl No w1).mono (fun _ _ q => q.elim)) (HD1.out.chg (Chg.refl No w1) id) (fun _ _ => rfl)
            ⟨by rw [HFDV.out, show coalAt _ (get a k) (get b k) = some .null by rw [HGA.out]; cases get b k with | none => rfl | some y => cases y <;> rfl]; rfl, fun u z hu hz => by
             rw [HFDV.out] at hu
             rw [show coalAt _ (get a k) (get b k) = some .null by rw [HGA.out]; cases get b k with | none => rfl | some y => cases y <;> rfl] at hz
             cases hu
             cases hz
             exact (HO.out.chg HC1.out (fun y hy q => by have := HE.out.okl y hy; have := HCT.out.rs; omega) (fun y hy q => by have := HE.out.ta.lt (.inr ⟨k, hy⟩); have := HCT.out.rs; omega)).chg (Chg.refl No w1) (fun _ _ q => q) (fun _ _ q => q)⟩ (fun x hx => .inl hx) (fun h => by rw [HFDV.out] at h; cases h))
           go_roundw
           case rel => exact ⟨_, _, _, _, _, HCTN.out⟩
           case measure => rw [HCTN.out.rng.left_eq, HLE.out]; exact HLT.out
          | false =>
           cases hgb : get b k with
           | none =>
            have HGB := Hd hgb
            clear hgb
            have hl218 : (Instr.lookup 218 (.map (some s)) (.string k) false).run Tryz.prog w1 = .ok (.bool false) w1 := by rw [run_look218 HOR1.out HKK.out]; unfold origAt; rw [HGB.out]; rfl
            go_wp2_with (first | (at_lookup; refine wpList_lookB rfl rfl rfl hd1 rfl hkk ?_; rw [HFDV.out]; go_frame))
            refine (istable_any ⟨No, w, AnyJ.null⟩ w1).mono ?_
            rintro e wt ⟨rfl, hwt⟩
            obtain rfl := hwt.symm
            go_wp2_with fail
            refine (istable_any ⟨No, w, AnyJ.null⟩ _).mono ?_
            rintro e wt ⟨rfl, hwt⟩
            obtain rfl := hwt.symm
            go_wp2_with fail
            have HCTN := Hd (HCT.out.step HE.out (G := Fa k) HLK.out HFSS.out HLT.out (Nat.le_succ nd) HRG1.out HC1.out ((Chg.refl No w1).mono (fun _ _ q => q.elim)) (HD1.out.chg (Chg.refl No w1) id) (fun _ _ => rfl)
             ⟨by rw [HFDV.out, show coalAt _ (get a k) (get b k) = some .null by rw [HGA.out, HGB.out]; rfl]; rfl, fun u z hu hz => by
              rw [HFDV.out] at hu
              rw [show coalAt _ (get a k) (get b k) = some .null by rw [HGA.out, HGB.out]; rfl] at hz
              cases hu
              cases hz
              exact (HO.out.chg HC1.out (fun y hy q => by have := HE.out.okl y hy; have := HCT.out.rs; omega) (fun y hy q => by have := HE.out.ta.lt (.inr ⟨k, hy⟩); have := HCT.out.rs; omega)).chg (Chg.refl No w1) (fun _ _ q => q) (fun _ _ q => q)⟩ (fun x hx => .inl hx) (fun h => by rw [HFDV.out] at h; cases h))
            go_roundw
            case rel => exact ⟨_, _, _, _, _, HCTN.out⟩
            case measure => rw [HCTN.out.rng.left_eq, HLE.out]; exact HLT.out
           | some y =>
            have HGB := Hd hgb
            clear hgb
            cases hyn : isN y with
            | true =>
             have hy : y = .null := by cases y <;> first | rfl | cases hyn
             subst hy
             clear hyn
             have hl218 : (Instr.lookup 218 (.map (some s)) (.string k) false).run Tryz.prog w1 = .ok (.bool false) w1 := by rw [run_look218 HOR1.out HKK.out]; unfold origAt; rw [HGB.out]; rfl
             go_wp2_with (first | (at_lookup; refine wpList_lookB rfl rfl rfl hd1 rfl hkk ?_; rw [HFDV.out]; go_frame))
             refine (istable_any ⟨No, w, AnyJ.null⟩ w1).mono ?_
             rintro e wt ⟨rfl, hwt⟩
             obtain rfl := hwt.symm
             go_wp2_with fail
             refine (istable_any ⟨No, w, AnyJ.null⟩ _).mono ?_
             rintro e wt ⟨rfl, hwt⟩
             obtain rfl := hwt.symm
             go_wp2_with fail
             have HCTN := Hd (HCT.out.step HE.out (G := Fa k) HLK.out HFSS.out HLT.out (Nat.le_succ nd) HRG1.out HC1.out ((Chg.refl No w1).mono (fun _ _ q => q.elim)) (HD1.out.chg (Chg.refl No w1) id) (fun _ _ => rfl)
              ⟨by rw [HFDV.out, show coalAt _ (get a k) (get b k) = some .null by rw [HGA.out, HGB.out]; rfl]; rfl, fun u z hu hz => by
               rw [HFDV.out] at hu
               rw [show coalAt _ (get a k) (get b k) = some .null by rw [HGA.out, HGB.out]; rfl] at hz
               cases hu
               cases hz
               exact (HO.out.chg HC1.out (fun y hy q => by have := HE.out.okl y hy; have := HCT.out.rs; omega) (fun y hy q => by have := HE.out.ta.lt (.inr ⟨k, hy⟩); have := HCT.out.rs; omega)).chg (Chg.refl No w1) (fun _ _ q => q) (fun _ _ q => q)⟩ (fun x hx => .inl hx) (fun h => by rw [HFDV.out] at h; cases h))
             go_roundw
             case rel => exact ⟨_, _, _, _, _, HCTN.out⟩
             case measure => rw [HCTN.out.rng.left_eq, HLE.out]; exact HLT.out
            | false =>
             have hoa : origAt b k = some (.bool true) := by unfold origAt; rw [HGB.out]; cases y <;> first | rfl | cases hyn
             have hl218 : (Instr.lookup 218 (.map (some s)) (.string k) false).run Tryz.prog w1 = .ok (.bool true) w1 := by rw [run_look218 HOR1.out HKK.out, hoa]; rfl
             have HYN := Hd hyn
             clear hoa hyn
             go_wp2_with (first | (at_lookup; refine wpList_lookB rfl rfl rfl hd1 rfl hkk ?_; rw [HFDV.out]; go_frame) | (refine wpList_delB rfl rfl rfl hd1 rfl hkk ?_; intro w3 hm3 hc3 hs3))
             have HCTN := Hd (HCT.out.step HE.out (G := No) HLK.out HFSS.out HLT.out (Nat.le_succ nd) HRG1.out HC1.out (hc3.mono (fun _ _ q => .inl q)) hm3 (fun z hz => by rw [if_neg hz])
              ⟨(by rw [if_pos rfl, HGA.out, HGB.out]; have h := HYN.out; cases y <;> first | rfl | exact absurd h (by decide)), fun v z hv hz => (by rw [if_pos rfl] at hv; cases hv)⟩ (fun x hx => hx.elim) (fun _ x hx => hx))
             clear hm3 hc3 hs3
             go_frame
             go_roundw
             case rel => exact ⟨_, _, _, _, _, HCTN.out⟩
             case measure => rw [HCTN.out.rng.left_eq, HLE.out]; exact HLT.out
         | false =>
          rw [hxn] at hne
          have hnu : nullAt a k = false := by unfold nullAt; rw [hga]; cases x <;> first | rfl | cases hxn
          obtain ⟨y, hgb⟩ : ∃ y, get b k = some y := by
           have h := HFS.out k
           rw [hnu, if_neg (by decide), HFV.out] at h
           obtain ⟨y, hy, -⟩ := HE.out.tb.some h.symm
           exact ⟨y, hy⟩
          have HSRC := Hd (HCT.out.src k HLK.out u y HFV.out hnu hgb)
          have hou := HSRC.out.anyJ.one
          have hneu := run_neNil HSRC.out.any0
          have hguu := run_guardNe HSRC.out.any0
          have HGA := Hd hga
          have HGB := Hd hgb
          have HXN := Hd hxn
          clear hga hgb hnu hxn
          cases hxt : isT x with
          | true =>
           obtain ⟨xt, rfl⟩ := isT_table hxt
           obtain ⟨bx, _, _, _, rfl, -, -⟩ := HO.out.tab
           cases hyt : isT y with
           | true =>
            obtain ⟨yt, rfl⟩ := isT_table hyt
            obtain ⟨by_, _, _, _, rfl, -, -⟩ := HSRC.out.tab
            have WX := Hd (WA.out.get HGA.out).2
            have WY := Hd (WB.out.get HGB.out).2
            have HAB := Hd (show ∀ x, Fa k x -> ¬ Fb k x from fun x hx hx' => HE.out.ap x (.inr ⟨k, hx⟩) (.inr ⟨k, hx'⟩))
            have HNK := Hd (show ∀ x, Fa k x ∨ Fb k x -> ¬ okB ok w x from fun x hx => HE.out.nok x (hx.imp (fun q => .inr ⟨k, q⟩) (fun q => .inr ⟨k, q⟩)))
            have HOX := Hd (HO.out.chg HC1.out (fun y hy q => by have := HE.out.okl y hy; have := HCT.out.rs; omega) (fun y hy q => by have := HE.out.ta.lt (.inr ⟨k, hy⟩); have := HCT.out.rs; omega))
            have HOY := Hd (HSRC.out.chg HC1.out (fun y hy q => by have := HE.out.okl y hy; have := HCT.out.rs; omega) (fun y hy q => by have := HE.out.tb.lt (.inr ⟨k, hy⟩); have := HCT.out.rs; omega))
            clear hou hneu hguu hxt hyt
            cases m with
            | true =>
             go_wp2_with (first | (at_lookup; refine wpList_lookB rfl rfl rfl hd1 rfl hkk ?_; rw [HFDV.out]; go_frame))
             refine (istable_any HSRC.out.any0 _).mono ?_
             rintro e wt ⟨rfl, hwt⟩
             obtain rfl := hwt.symm
             rw [show isT (.table yt) = true from rfl]
             go_wp2_with fail
             refine (istable_any HO.out.any0 _).mono ?_
             rintro e wt ⟨rfl, hwt⟩
             obtain rfl := hwt.symm
             rw [show isT (.table xt) = true from rfl]
             go_upto_region 27 with fail
             refine wp_region_inv (FI [.eq printV, .eq (.iface 67 (.map (some bx))), .eq (.map (some bx)), .eq (.iface 67 (.map (some by_))), .eq (.map (some by_)), .eq (.string sx), .eq (.bool true), .eq (.map (some bx))])
              (fun done w' => (done 7 = false -> Chg No w1 w') /\ (done 7 = true -> ∃ S', AnyO (okB ok w) w' (.iface 67 (.map (some bx))) (.table (coal true xt yt)) S' /\ (∀ x, S' x -> Fa k x ∨ Fb k x) /\ Chg (fun x => Fa k x ∨ Fb k x) w1 w')) (by kernel_rfl) (by kernel_rfl) (⟨fun _ => (Chg.refl No w1).drew, fun h => by cases h⟩) ?_ ?_
             ·refine ⟨?_, ?_, ?_, ?_, ?_, ?_, ?_, ?_, trivial⟩
              ·intro done a w1x K hd qd qe qf qb hG hK
               have e0 : a.tmps[0]?.getD undef = printV := qf 0 rfl
               clear qd qe qf qb
               go_simp
               exact hK _ _ rfl (by refine ⟨fun h => hG.1 (by simpa [dn] using h), fun h => hG.2 (by simpa [dn] using h)⟩) (fun _ _ _ _ h => h)
              ·intro done a w1x K hd qd qe qf qb hG hK
               have e19 : a.tmps[19]?.getD undef = .iface 67 (.map (some bx)) := qf 19 rfl
               clear qd qe qf qb
               go_simp
               exact hK _ _ rfl (by refine ⟨fun h => hG.1 (by simpa [dn] using h), fun h => hG.2 (by simpa [dn] using h)⟩) (fun _ _ _ _ h => h)
              ·intro done a w1x K hd qd qe qf qb hG hK
               have e92 : a.tmps[92]?.getD undef = .iface 67 (.map (some bx)) := qe 1 92 rfl (qb 1 rfl)
               have hmu := run_must67 (.map (some bx))
               clear qd qe qf qb
               go_simp
               exact hK _ _ rfl (by refine ⟨fun h => hG.1 (by simpa [dn] using h), fun h => hG.2 (by simpa [dn] using h)⟩) (fun _ _ _ _ h => h)
              ·intro done a w1x K hd qd qe qf qb hG hK
               have e17 : a.tmps[17]?.getD undef = .iface 67 (.map (some by_)) := qf 17 rfl
               clear qd qe qf qb
               go_simp
               exact hK _ _ rfl (by refine ⟨fun h => hG.1 (by simpa [dn] using h), fun h => hG.2 (by simpa [dn] using h)⟩) (fun _ _ _ _ h => h)
              ·intro done a w1x K hd qd qe qf qb hG hK
               have e94 : a.tmps[94]?.getD undef = .iface 67 (.map (some by_)) := qe 3 94 rfl (qb 3 rfl)
               have hmu := run_must67 (.map (some by_))
               clear qd qe qf qb
               go_simp
               exact hK _ _ rfl (by refine ⟨fun h => hG.1 (by simpa [dn] using h), fun h => hG.2 (by simpa [dn] using h)⟩) (fun _ _ _ _ h => h)
              ·intro done a w1x K hd qd qe qf qb hG hK
               have e18 : a.tmps[18]?.getD undef = .string sx := qf 18 rfl
               clear qd qe qf qb
               go_simp
               exact hK _ _ rfl (by refine ⟨fun h => hG.1 (by simpa [dn] using h), fun h => hG.2 (by simpa [dn] using h)⟩) (fun _ _ _ _ h => h)
              ·intro done a w1x K hd qd qe qf qb hG hK
               have e4 : a.tmps[4]?.getD undef = .bool true := qf 4 rfl
               clear qd qe qf qb
               go_simp
               exact hK _ _ rfl (by refine ⟨fun h => hG.1 (by simpa [dn] using h), fun h => hG.2 (by simpa [dn] using h)⟩) (fun _ _ _ _ h => h)
              ·intro done a w1x K hd qd qe qf qb hG hK
               have e91 : a.tmps[91]?.getD undef = printV := qe 0 91 rfl (qb 0 rfl)
               have e93 : a.tmps[93]?.getD undef = .map (some bx) := qe 2 93 rfl (qb 2 rfl)
               have e95 : a.tmps[95]?.getD undef = .map (some by_) := qe 4 95 rfl (qb 4 rfl)
               have e96 : a.tmps[96]?.getD undef = .string sx := qe 5 96 rfl (qb 5 rfl)
               have e97 : a.tmps[97]?.getD undef = .bool true := qe 6 97 rfl (qb 6 rfl)
               have hcw := hG.1 hd
               refine if_wanted rfl ?_
               have hcall := IH.out (okB ok w) xt yt bx by_ (Fa k) (Fb k) w1x sx (HOX.out.chg hcw (fun _ _ q => q) (fun _ _ q => q)) (HOY.out.chg hcw (fun _ _ q => q) (fun _ _ q => q)) HAB.out HNK.out WX.out WY.out HSX.out
               refine wp_callV5 Tryz.call144 rfl (by simpa [Act.eval] using e91) (by simpa [Act.eval] using e93) (by simpa [Act.eval] using e95) (by simpa [Act.eval] using e96) (by simpa [Act.eval] using e97) hcall ?_
               rintro e w2 ⟨rfl, S', ho, hsub, hc⟩
               exact ⟨_, rfl, hK _ _ rfl ⟨fun h => by simp [dn] at h, fun _ => ⟨S', ho, hsub, (hcw.mono (fun _ _ q => q.elim)).trans hc (fun _ _ q => q)⟩⟩ (fun j hj hdj v hv => by match j, hj with | 0, _ => exact hv | 1, _ => exact hv | 2, _ => exact hv | 3, _ => exact hv | 4, _ => exact hv | 5, _ => exact hv | 6, _ => exact hv | 7, hj => exact absurd rfl hj | j + 8, _ => exact hv)⟩
             ·intro vs w2 hvs hvn hG
              obtain ⟨S', ho, hsub, hc⟩ := hG.2 (by decide)
              have HO3 := Hd ho
              have HSUB := Hd hsub
              have HC3 := Hd hc
              clear ho hsub hc hG hvs hvn
              simp only [putAll, Act.put, List.setIfInBounds_toArray, List.set_cons_succ, List.set_cons_zero]
              go_wp2_with fail
              have HCTN := Hd (HCT.out.step HE.out (G := S') HLK.out HFSS.out HLT.out (Nat.le_succ nd) HRG1.out HC1.out (HC3.out.mono (S' := fun x => x = ba ∨ Fa k x ∨ Fb k x) (fun _ _ q => Or.inr q)) (HD1.out.chg HC3.out (fun q => Or.elim q (HE.out.ta.notb k) (fun q => HE.out.ap ba (.inl rfl) (.inr ⟨k, q⟩)))) (fun _ _ => rfl)
               ⟨by rw [HFDV.out, HGA.out, HGB.out]; rfl, fun u z hu hz => by
                rw [HFDV.out] at hu
                rw [HGA.out, HGB.out] at hz
                cases hu
                cases hz
                exact HO3.out⟩ HSUB.out (fun h => by rw [HFDV.out] at h; cases h))
              go_roundw
              case rel => exact ⟨_, _, _, _, _, HCTN.out⟩
              case measure => rw [HCTN.out.rng.left_eq, HLE.out]; exact HLT.out
            | false =>
             go_wp2_with (first | (at_lookup; refine wpList_lookB rfl rfl rfl hd1 rfl hkk ?_; rw [HFDV.out]; go_frame))
             refine (istable_any HSRC.out.any0 _).mono ?_
             rintro e wt ⟨rfl, hwt⟩
             obtain rfl := hwt.symm
             rw [show isT (.table yt) = true from rfl]
             go_wp2_with fail
             refine (istable_any HO.out.any0 _).mono ?_
             rintro e wt ⟨rfl, hwt⟩
             obtain rfl := hwt.symm
             rw [show isT (.table xt) = true from rfl]
             go_upto_region 27 with fail
             refine wp_region_inv (FI [.eq printV, .eq (.iface 67 (.map (some bx))), .eq (.map (some bx)), .eq (.iface 67 (.map (some by_))), .eq (.map (some by_)), .eq (.string sx), .eq (.bool false), .eq (.map (some bx))])
              (fun done w' => (done 7 = false -> Chg No w1 w') /\ (done 7 = true -> ∃ S', AnyO (okB ok w) w' (.iface 67 (.map (some bx))) (.table (coal false xt yt)) S' /\ (∀ x, S' x -> Fa k x ∨ Fb k x) /\ Chg (fun x => Fa k x ∨ Fb k x) w1 w')) (by kernel_rfl) (by kernel_rfl) (⟨fun _ => (Chg.refl No w1).drew, fun h => by cases h⟩) ?_ ?_
             ·refine ⟨?_, ?_, ?_, ?_, ?_, ?_, ?_, ?_, trivial⟩
              ·intro done a w1x K hd qd qe qf qb hG hK
               have e0 : a.tmps[0]?.getD undef = printV := qf 0 rfl
               clear qd qe qf qb
               go_simp
               exact hK _ _ rfl (by refine ⟨fun h => hG.1 (by simpa [dn] using h), fun h => hG.2 (by simpa [dn] using h)⟩) (fun _ _ _ _ h => h)
              ·intro done a w1x K hd qd qe qf qb hG hK
               have e19 : a.tmps[19]?.getD undef = .iface 67 (.map (some bx)) := qf 19 rfl
               clear qd qe qf qb
               go_simp
               exact hK _ _ rfl (by refine ⟨fun h => hG.1 (by simpa [dn] using h), fun h => hG.2 (by simpa [dn] using h)⟩) (fun _ _ _ _ h => h)
              ·intro done a w1x K hd qd qe qf qb hG hK
               have e92 : a.tmps[92]?.getD undef = .iface 67 (.map (some bx)) := qe 1 92 rfl (qb 1 rfl)
               have hmu := run_must67 (.map (some bx))
               clear qd qe qf qb
               go_simp
               exact hK _ _ rfl (by refine ⟨fun h => hG.1 (by simpa [dn] using h), fun h => hG.2 (by simpa [dn] using h)⟩) (fun _ _ _ _ h => h)
              ·intro done a w1x K hd qd qe qf qb hG hK
               have e17 : a.tmps[17]?.getD undef = .iface 67 (.map (some by_)) := qf 17 rfl
               clear qd qe qf qb
               go_simp
               exact hK _ _ rfl (by refine ⟨fun h => hG.1 (by simpa [dn] using h), fun h => hG.2 (by simpa [dn] using h)⟩) (fun _ _ _ _ h => h)
              ·intro done a w1x K hd qd qe qf qb hG hK
               have e94 : a.tmps[94]?.getD undef = .iface 67 (.map (some by_)) := qe 3 94 rfl (qb 3 rfl)
               have hmu := run_must67 (.map (some by_))
               clear qd qe qf qb
               go_simp
               exact hK _ _ rfl (by refine ⟨fun h => hG.1 (by simpa [dn] using h), fun h => hG.2 (by simpa [dn] using h)⟩) (fun _ _ _ _ h => h)
              ·intro done a w1x K hd qd qe qf qb hG hK
               have e18 : a.tmps[18]?.getD undef = .string sx := qf 18 rfl
               clear qd qe qf qb
               go_simp
               exact hK _ _ rfl (by refine ⟨fun h => hG.1 (by simpa [dn] using h), fun h => hG.2 (by simpa [dn] using h)⟩) (fun _ _ _ _ h => h)
              ·intro done a w1x K hd qd qe qf qb hG hK
               have e4 : a.tmps[4]?.getD undef = .bool false := qf 4 rfl
               clear qd qe qf qb
               go_simp
               exact hK _ _ rfl (by refine ⟨fun h => hG.1 (by simpa [dn] using h), fun h => hG.2 (by simpa [dn] using h)⟩) (fun _ _ _ _ h => h)
              ·intro done a w1x K hd qd qe qf qb hG hK
               have e91 : a.tmps[91]?.getD undef = printV := qe 0 91 rfl (qb 0 rfl)
               have e93 : a.tmps[93]?.getD undef = .map (some bx) := qe 2 93 rfl (qb 2 rfl)
               have e95 : a.tmps[95]?.getD undef = .map (some by_) := qe 4 95 rfl (qb 4 rfl)
               have e96 : a.tmps[96]?.getD undef = .string sx := qe 5 96 rfl (qb 5 rfl)
               have e97 : a.tmps[97]?.getD undef = .bool false := qe 6 97 rfl (qb 6 rfl)
               have hcw := hG.1 hd
               refine if_wanted rfl ?_
               have hcall := IH.out (okB ok w) xt yt bx by_ (Fa k) (Fb k) w1x sx (HOX.out.chg hcw (fun _ _ q => q) (fun _ _ q => q)) (HOY.out.chg hcw (fun _ _ q => q) (fun _ _ q => q)) HAB.out HNK.out WX.out WY.out HSX.out
               refine wp_callV5 Tryz.call144 rfl (by simpa [Act.eval] using e91) (by simpa [Act.eval] using e93) (by simpa [Act.eval] using e95) (by simpa [Act.eval] using e96) (by simpa [Act.eval] using e97) hcall ?_
               rintro e w2 ⟨rfl, S', ho, hsub, hc⟩
               exact ⟨_, rfl, hK _ _ rfl ⟨fun h => by simp [dn] at h, fun _ => ⟨S', ho, hsub, (hcw.mono (fun _ _ q => q.elim)).trans hc (fun _ _ q => q)⟩⟩ (fun j hj hdj v hv => by match j, hj with | 0, _ => exact hv | 1, _ => exact hv | 2, _ => exact hv | 3, _ => exact hv | 4, _ => exact hv | 5, _ => exact hv | 6, _ => exact hv | 7, hj => exact absurd rfl hj | j + 8, _ => exact hv)⟩
             ·intro vs w2 hvs hvn hG
              obtain ⟨S', ho, hsub, hc⟩ := hG.2 (by decide)
              have HO3 := Hd ho
              have HSUB := Hd hsub
              have HC3 := Hd hc
              clear ho hsub hc hG hvs hvn
              simp only [putAll, Act.put, List.setIfInBounds_toArray, List.set_cons_succ, List.set_cons_zero]
              go_wp2_with fail
              have HCTN := Hd (HCT.out.step HE.out (G := S') HLK.out HFSS.out HLT.out (Nat.le_succ nd) HRG1.out HC1.out (HC3.out.mono (S' := fun x => x = ba ∨ Fa k x ∨ Fb k x) (fun _ _ q => Or.inr q)) (HD1.out.chg HC3.out (fun q => Or.elim q (HE.out.ta.notb k) (fun q => HE.out.ap ba (.inl rfl) (.inr ⟨k, q⟩)))) (fun _ _ => rfl)
               ⟨by rw [HFDV.out, HGA.out, HGB.out]; rfl, fun u z hu hz => by
                rw [HFDV.out] at hu
                rw [HGA.out, HGB.out] at hz
                cases hu
                cases hz
                exact HO3.out⟩ HSUB.out (fun h => by rw [HFDV.out] at h; cases h))
              go_roundw
              case rel => exact ⟨_, _, _, _, _, HCTN.out⟩
              case measure => rw [HCTN.out.rng.left_eq, HLE.out]; exact HLT.out
           | false =>
            have HYT := Hd hyt
            clear hyt
            cases hyn : isN y with
            | true =>
             rw [hyn] at hneu
             cases m with
             | true =>
              go_wp2_with (first | (at_lookup; refine wpList_lookB rfl rfl rfl hd1 rfl hkk ?_; rw [HFDV.out]; go_frame))
              refine (istable_any HSRC.out.any0 _).mono ?_
              rintro e wt ⟨rfl, hwt⟩
              obtain rfl := hwt.symm
              rw [HYT.out]
              go_wp2_with fail
              refine (istable_any HO.out.any0 _).mono ?_
              rintro e wt ⟨rfl, hwt⟩
              obtain rfl := hwt.symm
              rw [show isT (.table xt) = true from rfl]
              go_wp2_with fail
              have HCTN := Hd (HCT.out.step HE.out (G := Fa k) HLK.out HFSS.out HLT.out (Nat.le_succ nd) HRG1.out HC1.out ((Chg.refl No w1).mono (fun _ _ q => q.elim)) (HD1.out.chg (Chg.refl No w1) id) (fun _ _ => rfl)
               ⟨by rw [HFDV.out, show coalAt _ (get a k) (get b k) = some (.table xt) by rw [HGA.out, HGB.out]; have h := HYT.out; cases y <;> first | rfl | cases h]; rfl, fun u z hu hz => by
                rw [HFDV.out] at hu
                rw [show coalAt _ (get a k) (get b k) = some (.table xt) by rw [HGA.out, HGB.out]; have h := HYT.out; cases y <;> first | rfl | cases h] at hz
                cases hu
                cases hz
                exact (HO.out.chg HC1.out (fun y hy q => by have := HE.out.okl y hy; have := HCT.out.rs; omega) (fun y hy q => by have := HE.out.ta.lt (.inr ⟨k, hy⟩); have := HCT.out.rs; omega)).chg (Chg.refl No w1) (fun _ _ q => q) (fun _ _ q => q)⟩ (fun x hx => .inl hx) (fun h => by rw [HFDV.out] at h; cases h))
              go_roundw
              case rel => exact ⟨_, _, _, _, _, HCTN.out⟩
              case measure => rw [HCTN.out.rng.left_eq, HLE.out]; exact HLT.out
             | false =>
              go_wp2_with (first | (at_lookup; refine wpList_lookB rfl rfl rfl hd1 rfl hkk ?_; rw [HFDV.out]; go_frame))
              refine (istable_any HSRC.out.any0 _).mono ?_
              rintro e wt ⟨rfl, hwt⟩
              obtain rfl := hwt.symm
              rw [HYT.out]
              go_wp2_with fail
              refine (istable_any HO.out.any0 _).mono ?_
              rintro e wt ⟨rfl, hwt⟩
              obtain rfl := hwt.symm
              rw [show isT (.table xt) = true from rfl]
              go_wp2_with fail
              have HCTN := Hd (HCT.out.step HE.out (G := Fa k) HLK.out HFSS.out HLT.out (Nat.le_succ nd) HRG1.out HC1.out ((Chg.refl No w1).mono (fun _ _ q => q.elim)) (HD1.out.chg (Chg.refl No w1) id) (fun _ _ => rfl)
               ⟨by rw [HFDV.out, show coalAt _ (get a k) (get b k) = some (.table xt) by rw [HGA.out, HGB.out]; have h := HYT.out; cases y <;> first | rfl | cases h]; rfl, fun u z hu hz => by
                rw [HFDV.out] at hu
                rw [show coalAt _ (get a k) (get b k) = some (.table xt) by rw [HGA.out, HGB.out]; have h := HYT.out; cases y <;> first | rfl | cases h] at hz
                cases hu
                cases hz
                exact (HO.out.chg HC1.out (fun y hy q => by have := HE.out.okl y hy; have := HCT.out.rs; omega) (fun y hy q => by have := HE.out.ta.lt (.inr ⟨k, hy⟩); have := HCT.out.rs; omega)).chg (Chg.refl No w1) (fun _ _ q => q) (fun _ _ q => q)⟩ (fun x hx => .inl hx) (fun h => by rw [HFDV.out] at h; cases h))
              go_roundw
              case rel => exact ⟨_, _, _, _, _, HCTN.out⟩
              case measure => rw [HCTN.out.rng.left_eq, HLE.out]; exact HLT.out
            | false =>
             rw [hyn] at hneu
             cases m with
             | true =>
              go_wp2_with (first | (at_lookup; refine wpList_lookB rfl rfl rfl hd1 rfl hkk ?_; rw [HFDV.out]; go_frame))
              refine (istable_any HSRC.out.any0 _).mono ?_
              rintro e wt ⟨rfl, hwt⟩
              obtain rfl := hwt.symm
              rw [HYT.out]
              go_wp2_with fail
              refine (istable_any HO.out.any0 _).mono ?_
              rintro e wt ⟨rfl, hwt⟩
              obtain rfl := hwt.symm
              rw [show isT (.table xt) = true from rfl]
              go_wp2_with (first | (refine wpList_build151_2 rfl rfl rfl rfl rfl hou ?_))
              refine (printf_any _ _ _).mono ?_
              rintro e wp ⟨rfl, rfl⟩
              go_wp2_with fail
              have HCTN := Hd (HCT.out.step HE.out (G := Fa k) HLK.out HFSS.out HLT.out (Nat.le_succ nd) HRG1.out HC1.out (((Chg.refl No w1).alloc (.cells #[.iface 9 (.string sx), u] 20)).mono (fun _ _ q => q.elim)) (HD1.out.chg ((Chg.refl No w1).alloc (.cells #[.iface 9 (.string sx), u] 20)) id) (fun _ _ => rfl)
               ⟨by rw [HFDV.out, show coalAt _ (get a k) (get b k) = some (.table xt) by rw [HGA.out, HGB.out]; have h := HYT.out; cases y <;> first | rfl | cases h]; rfl, fun u z hu hz => by
                rw [HFDV.out] at hu
                rw [show coalAt _ (get a k) (get b k) = some (.table xt) by rw [HGA.out, HGB.out]; have h := HYT.out; cases y <;> first | rfl | cases h] at hz
                cases hu
                cases hz
                exact (HO.out.chg HC1.out (fun y hy q => by have := HE.out.okl y hy; have := HCT.out.rs; omega) (fun y hy q => by have := HE.out.ta.lt (.inr ⟨k, hy⟩); have := HCT.out.rs; omega)).chg ((Chg.refl No w1).alloc (.cells #[.iface 9 (.string sx), u] 20)) (fun _ _ q => q) (fun _ _ q => q)⟩ (fun x hx => .inl hx) (fun h => by rw [HFDV.out] at h; cases h))
              go_roundw
              case rel => exact ⟨_, _, _, _, _, HCTN.out⟩
              case measure => rw [HCTN.out.rng.left_eq, HLE.out]; exact HLT.out
             | false =>
              go_wp2_with (first | (at_lookup; refine wpList_lookB rfl rfl rfl hd1 rfl hkk ?_; rw [HFDV.out]; go_frame))
              refine (istable_any HSRC.out.any0 _).mono ?_
              rintro e wt ⟨rfl, hwt⟩
              obtain rfl := hwt.symm
              rw [HYT.out]
              go_wp2_with fail
              refine (istable_any HO.out.any0 _).mono ?_
              rintro e wt ⟨rfl, hwt⟩
              obtain rfl := hwt.symm
              rw [show isT (.table xt) = true from rfl]
              go_wp2_with (first | (refine wpList_build151_2 rfl rfl rfl rfl rfl hou ?_))
              refine (printf_any _ _ _).mono ?_
              rintro e wp ⟨rfl, rfl⟩
              go_wp2_with fail
              have HCTN := Hd (HCT.out.step HE.out (G := Fa k) HLK.out HFSS.out HLT.out (Nat.le_succ nd) HRG1.out HC1.out (((Chg.refl No w1).alloc (.cells #[.iface 9 (.string sx), u] 20)).mono (fun _ _ q => q.elim)) (HD1.out.chg ((Chg.refl No w1).alloc (.cells #[.iface 9 (.string sx), u] 20)) id) (fun _ _ => rfl)
               ⟨by rw [HFDV.out, show coalAt _ (get a k) (get b k) = some (.table xt) by rw [HGA.out, HGB.out]; have h := HYT.out; cases y <;> first | rfl | cases h]; rfl, fun u z hu hz => by
                rw [HFDV.out] at hu
                rw [show coalAt _ (get a k) (get b k) = some (.table xt) by rw [HGA.out, HGB.out]; have h := HYT.out; cases y <;> first | rfl | cases h] at hz
                cases hu
                cases hz
                exact (HO.out.chg HC1.out (fun y hy q => by have := HE.out.okl y hy; have := HCT.out.rs; omega) (fun y hy q => by have := HE.out.ta.lt (.inr ⟨k, hy⟩); have := HCT.out.rs; omega)).chg ((Chg.refl No w1).alloc (.cells #[.iface 9 (.string sx), u] 20)) (fun _ _ q => q) (fun _ _ q => q)⟩ (fun x hx => .inl hx) (fun h => by rw [HFDV.out] at h; cases h))
              go_roundw
              case rel => exact ⟨_, _, _, _, _, HCTN.out⟩
              case measure => rw [HCTN.out.rng.left_eq, HLE.out]; exact HLT.out
          | false =>
           have HXT := Hd hxt
           cases hyt : isT y with
           | true =>
            cases m with
            | true =>
             go_wp2_with (first | (at_lookup; refine wpList_lookB rfl rfl rfl hd1 rfl hkk ?_; rw [HFDV.out]; go_frame))
             refine (istable_any HSRC.out.any0 _).mono ?_
             rintro e wt ⟨rfl, hwt⟩
             obtain rfl := hwt.symm
             rw [hyt]
             go_wp2_with fail
             refine (istable_any HO.out.any0 _).mono ?_
             rintro e wt ⟨rfl, hwt⟩
             obtain rfl := hwt.symm
             rw [HXT.out]
             go_wp2_with (first | (refine wpList_build151_2 rfl rfl rfl rfl rfl hou ?_))
             refine (printf_any _ _ _).mono ?_
             rintro e wp ⟨rfl, rfl⟩
             go_wp2_with fail
             have HCTN := Hd (HCT.out.step HE.out (G := Fa k) HLK.out HFSS.out HLT.out (Nat.le_succ nd) HRG1.out HC1.out (((Chg.refl No w1).alloc (.cells #[.iface 9 (.string sx), u] 20)).mono (fun _ _ q => q.elim)) (HD1.out.chg ((Chg.refl No w1).alloc (.cells #[.iface 9 (.string sx), u] 20)) id) (fun _ _ => rfl)
              ⟨by rw [HFDV.out, show coalAt _ (get a k) (get b k) = some x by rw [HGA.out, HGB.out]; have h := HXT.out; have h2 := HXN.out; cases x <;> first | rfl | exact absurd h2 (by decide) | (cases h; done)]; rfl, fun u z hu hz => by
               rw [HFDV.out] at hu
               rw [show coalAt _ (get a k) (get b k) = some x by rw [HGA.out, HGB.out]; have h := HXT.out; have h2 := HXN.out; cases x <;> first | rfl | exact absurd h2 (by decide) | (cases h; done)] at hz
               cases hu
               cases hz
               exact (HO.out.chg HC1.out (fun y hy q => by have := HE.out.okl y hy; have := HCT.out.rs; omega) (fun y hy q => by have := HE.out.ta.lt (.inr ⟨k, hy⟩); have := HCT.out.rs; omega)).chg ((Chg.refl No w1).alloc (.cells #[.iface 9 (.string sx), u] 20)) (fun _ _ q => q) (fun _ _ q => q)⟩ (fun x hx => .inl hx) (fun h => by rw [HFDV.out] at h; cases h))
             go_roundw
             case rel => exact ⟨_, _, _, _, _, HCTN.out⟩
             case measure => rw [HCTN.out.rng.left_eq, HLE.out]; exact HLT.out
            | false =>
             go_wp2_with (first | (at_lookup; refine wpList_lookB rfl rfl rfl hd1 rfl hkk ?_; rw [HFDV.out]; go_frame))
             refine (istable_any HSRC.out.any0 _).mono ?_
             rintro e wt ⟨rfl, hwt⟩
             obtain rfl := hwt.symm
             rw [hyt]
             go_wp2_with fail
             refine (istable_any HO.out.any0 _).mono ?_
             rintro e wt ⟨rfl, hwt⟩
             obtain rfl := hwt.symm
             rw [HXT.out]
             go_wp2_with (first | (refine wpList_build151_2 rfl rfl rfl rfl rfl hou ?_))
             refine (printf_any _ _ _).mono ?_
             rintro e wp ⟨rfl, rfl⟩
             go_wp2_with fail
             have HCTN := Hd (HCT.out.step HE.out (G := Fa k) HLK.out HFSS.out HLT.out (Nat.le_succ nd) HRG1.out HC1.out (((Chg.refl No w1).alloc (.cells #[.iface 9 (.string sx), u] 20)).mono (fun _ _ q => q.elim)) (HD1.out.chg ((Chg.refl No w1).alloc (.cells #[.iface 9 (.string sx), u] 20)) id) (fun _ _ => rfl)
              ⟨by rw [HFDV.out, show coalAt _ (get a k) (get b k) = some x by rw [HGA.out, HGB.out]; have h := HXT.out; have h2 := HXN.out; cases x <;> first | rfl | exact absurd h2 (by decide) | (cases h; done)]; rfl, fun u z hu hz => by
               rw [HFDV.out] at hu
               rw [show coalAt _ (get a k) (get b k) = some x by rw [HGA.out, HGB.out]; have h := HXT.out; have h2 := HXN.out; cases x <;> first | rfl | exact absurd h2 (by decide) | (cases h; done)] at hz
               cases hu
               cases hz
               exact (HO.out.chg HC1.out (fun y hy q => by have := HE.out.okl y hy; have := HCT.out.rs; omega) (fun y hy q => by have := HE.out.ta.lt (.inr ⟨k, hy⟩); have := HCT.out.rs; omega)).chg ((Chg.refl No w1).alloc (.cells #[.iface 9 (.string sx), u] 20)) (fun _ _ q => q) (fun _ _ q => q)⟩ (fun x hx => .inl hx) (fun h => by rw [HFDV.out] at h; cases h))
             go_roundw
             case rel => exact ⟨_, _, _, _, _, HCTN.out⟩
             case measure => rw [HCTN.out.rng.left_eq, HLE.out]; exact HLT.out
           | false =>
            cases m with
            | true =>
             go_wp2_with (first | (at_lookup; refine wpList_lookB rfl rfl rfl hd1 rfl hkk ?_; rw [HFDV.out]; go_frame))
             refine (istable_any HSRC.out.any0 _).mono ?_
             rintro e wt ⟨rfl, hwt⟩
             obtain rfl := hwt.symm
             rw [hyt]
             go_wp2_with fail
             refine (istable_any HO.out.any0 _).mono ?_
             rintro e wt ⟨rfl, hwt⟩
             obtain rfl := hwt.symm
             rw [HXT.out]
             go_wp2_with fail
             have HCTN := Hd (HCT.out.step HE.out (G := Fa k) HLK.out HFSS.out HLT.out (Nat.le_succ nd) HRG1.out HC1.out ((Chg.refl No w1).mono (fun _ _ q => q.elim)) (HD1.out.chg (Chg.refl No w1) id) (fun _ _ => rfl)
              ⟨by rw [HFDV.out, show coalAt _ (get a k) (get b k) = some x by rw [HGA.out, HGB.out]; have h := HXT.out; have h2 := HXN.out; cases x <;> first | rfl | exact absurd h2 (by decide) | (cases h; done)]; rfl, fun u z hu hz => by
               rw [HFDV.out] at hu
               rw [show coalAt _ (get a k) (get b k) = some x by rw [HGA.out, HGB.out]; have h := HXT.out; have h2 := HXN.out; cases x <;> first | rfl | exact absurd h2 (by decide) | (cases h; done)] at hz
               cases hu
               cases hz
               exact (HO.out.chg HC1.out (fun y hy q => by have := HE.out.okl y hy; have := HCT.out.rs; omega) (fun y hy q => by have := HE.out.ta.lt (.inr ⟨k, hy⟩); have := HCT.out.rs; omega)).chg (Chg.refl No w1) (fun _ _ q => q) (fun _ _ q => q)⟩ (fun x hx => .inl hx) (fun h => by rw [HFDV.out] at h; cases h))
             go_roundw
             case rel => exact ⟨_, _, _, _, _, HCTN.out⟩
             case measure => rw [HCTN.out.rng.left_eq, HLE.out]; exact HLT.out
            | false =>
             go_wp2_with (first | (at_lookup; refine wpList_lookB rfl rfl rfl hd1 rfl hkk ?_; rw [HFDV.out]; go_frame))
             refine (istable_any HSRC.out.any0 _).mono ?_
             rintro e wt ⟨rfl, hwt⟩
             obtain rfl := hwt.symm
             rw [hyt]
             go_wp2_with fail
             refine (istable_any HO.out.any0 _).mono ?_
             rintro e wt ⟨rfl, hwt⟩
             obtain rfl := hwt.symm
             rw [HXT.out]
             go_wp2_with fail
             have HCTN := Hd (HCT.out.step HE.out (G := Fa k) HLK.out HFSS.out HLT.out (Nat.le_succ nd) HRG1.out HC1.out ((Chg.refl No w1).mono (fun _ _ q => q.elim)) (HD1.out.chg (Chg.refl No w1) id) (fun _ _ => rfl)
              ⟨by rw [HFDV.out, show coalAt _ (get a k) (get b k) = some x by rw [HGA.out, HGB.out]; have h := HXT.out; have h2 := HXN.out; cases x <;> first | rfl | exact absurd h2 (by decide) | (cases h; done)]; rfl, fun u z hu hz => by
               rw [HFDV.out] at hu
               rw [show coalAt _ (get a k) (get b k) = some x by rw [HGA.out, HGB.out]; have h := HXT.out; have h2 := HXN.out; cases x <;> first | rfl | exact absurd h2 (by decide) | (cases h; done)] at hz
               cases hu
               cases hz
               exact (HO.out.chg HC1.out (fun y hy q => by have := HE.out.okl y hy; have := HCT.out.rs; omega) (fun y hy q => by have := HE.out.ta.lt (.inr ⟨k, hy⟩); have := HCT.out.rs; omega)).chg (Chg.refl No w1) (fun _ _ q => q) (fun _ _ q => q)⟩ (fun x hx => .inl hx) (fun h => by rw [HFDV.out] at h; cases h))
             go_roundw
             case rel => exact ⟨_, _, _, _, _, HCTN.out⟩
             case measure => rw [HCTN.out.rng.left_eq, HLE.out]; exact HLT.out
     ·intro k u w1 cnt1 hk hlk hfv hrg1 hlt hc1 hs1 hen
      obtain ⟨x, hx, hux⟩ := HE.out.ta.some hfv
      have hne := run_eqNil hux.any0
      have hgu := run_guardEq hux.any0
      have HLE := Hd hrg.left_eq
      have HLT := Hd hlt
      have hr2s : r2 ≠ bb := fun q => by have := HR2.out; have := HS.out; have := HLB.out; omega
      have HX := Hd hx
      have HLK := Hd hlk
      have hsb : ¬ s = r2 := by have := HR2.out; omega
      have HORY := Hd (HORX.out.chg hc1 hsb)
      have HCY := Hd (HCX.out.trans hc1 (fun i hi q => by have := HR2.out; have := HS.out; omega))
      have HOUT1 := Hd (hout.chg hc1 (fun q => hr2s q.symm))
      have HRG1 := Hd hrg1
      have HKK := Hd hk
      have hnn : n2 < maxLen := by have := HNN.out; unfold maxLen; omega
      clear hux hlk hfv hrg1 hc1 hs1 hx hout hsb hk
      cases hxn : isN x with
      | true =>
       rw [hxn] at hne
       have hnull : nullAt a k = true := by unfold nullAt; rw [HX.out]; cases x <;> first | rfl | cases hxn
       have HNU := Hd hnull
       have hout1 := HOUT1.out
       have hkk := HKK.out
       clear hnull hxn
       go_wp2_with (first | (at_mapUpdate; refine wpList_putB (u := .nilIface) rfl rfl rfl hout1 hnn rfl hkk rfl ?_; intro w3 hm3 hc3 hs3; go_frame))
       have HREL := Hd (show RangeB w3 ba r2 na fa (fun z => left z && !(z == k)) cnt1 /\ n2 + 1 + cnt1 ≤ nb + na /\ MapB w3 bb (n2 + 1) (fun z => if z = k then some .nilIface else f2 z) /\ (∀ z, (if z = k then some Value.nilIface else f2 z) = if (!(left z && !(z == k)) && nullAt a z) then some .nilIface else fb z) /\ Chg (· = bb) w w3 /\ MapB w3 s n1 (origAt b) from
        ⟨HRG1.out.chg hc3 (fun q => HE.out.ap ba (.inl rfl) (.inl q)) hr2s, by have := HLT.out; omega, hm3, fun z => by
         by_cases hz : z = k
         ·subst hz; rw [if_pos rfl, HNU.out]; simp
         ·have hzb : (z == k) = false := by rw [k_beq]; exact decide_eq_false hz
          rw [if_neg hz, HA2.out, hzb]; simp, HCY.out.trans hc3 (fun _ _ q => q), HORY.out.chg hc3 (fun q => by have := HS.out; have := HLB.out; omega)⟩)
       clear hm3 hc3 hs3 hout1 hkk
       go_roundw
       case rel => exact ⟨_, _, _, _, HREL.out⟩
       case measure => rw [HREL.out.1.left_eq, HLE.out]; exact HLT.out
      | false =>
       rw [hxn] at hne
       have hnull : nullAt a k = false := by unfold nullAt; rw [HX.out]; cases x <;> first | rfl | cases hxn
       have HNU := Hd hnull
       clear hnull hxn
       have HREL := Hd (show RangeB w1 ba r2 na fa (fun z => left z && !(z == k)) cnt1 /\ n2 + cnt1 ≤ nb + na /\ MapB w1 bb n2 f2 /\ (∀ z, f2 z = if (!(left z && !(z == k)) && nullAt a z) then some .nilIface else fb z) /\ Chg (· = bb) w w1 /\ MapB w1 s n1 (origAt b) from
        ⟨HRG1.out, by have := HLT.out; omega, HOUT1.out, fun z => by
         by_cases hz : z = k
         ·subst hz; rw [HA2.out, HNU.out]; simp
         ·have hzb : (z == k) = false := by rw [k_beq]; exact decide_eq_false hz
          rw [HA2.out, hzb]; simp, HCY.out, HORY.out⟩)
       go_wp2_with fail
       go_roundw
       case rel => exact ⟨_, _, _, _, HREL.out⟩
       case measure => rw [HREL.out.1.left_eq, HLE.out]; exact HLT.out
   ·intro k u w1 cnt1 hk hlk hfv hrg1 hlt hc1 hs1 hen
    obtain ⟨x, hx, hux⟩ := HE.out.tb.some hfv
    have hne := run_neNil hux.any0
    have hgu := run_guardNe hux.any0
    have HLE := Hd hrg.left_eq
    have HLT := Hd hlt
    have HX := Hd hx
    have HLK := Hd hlk
    have HRL := Hd hrg.lt
    have HCY := Hd (HCW.out.trans hc1 (fun i hi q => by have := HS.out; omega))
    have HOUT1 := Hd (hout.chg hc1 (by omega))
    have HRG1 := Hd hrg1
    have HKK := Hd hk
    have hnn : n1 < maxLen := by have := HNN.out; unfold maxLen; omega
    clear hux hlk hfv hrg1 hc1 hs1 hx hout hk
    cases hxn : isN x with
    | false =>
     rw [hxn] at hne
     have hnull : origAt b k = some (.bool true) := by unfold origAt; rw [HX.out]; cases x <;> first | rfl | cases hxn
     have HNU := Hd hnull
     have hout1 := HOUT1.out
     have hkk := HKK.out
     clear hnull hxn
     go_wp2_with (first | (at_mapUpdate; refine wpList_putB218 (u := .bool true) rfl rfl rfl hout1 hnn rfl hkk rfl ?_; intro w3 hm3 hc3 hs3; go_frame))
     have HREL := Hd (show RangeB w3 bb (s + 1) nb fb (fun z => left z && !(z == k)) cnt1 /\ n1 + 1 + cnt1 ≤ nb /\ MapB w3 s (n1 + 1) (fun z => if z = k then some (.bool true) else f1 z) /\ (∀ z, (if z = k then some (Value.bool true) else f1 z) = if (left z && !(z == k)) then none else origAt b z) /\ Chg No w w3 from
      ⟨HRG1.out.chg hc3 (fun q => by have := HS.out; have := HLB.out; omega) (by omega), by have := HLT.out; omega, hm3, fun z => by
       by_cases hz : z = k
       ·subst hz; rw [if_pos rfl, HNU.out]; simp
       ·have hzb : (z == k) = false := by rw [k_beq]; exact decide_eq_false hz
        rw [if_neg hz, HA1.out, hzb]; simp, HCY.out.trans hc3 (fun i hi q => by have := HS.out; omega)⟩)
     clear hm3 hc3 hs3 hout1 hkk
     go_roundw
     case rel => exact ⟨_, _, _, _, HREL.out⟩
     case measure => rw [HREL.out.1.left_eq, HLE.out]; exact HLT.out
    | true =>
     rw [hxn] at hne
     have hnull : origAt b k = none := by unfold origAt; rw [HX.out]; cases x <;> first | rfl | cases hxn
     have HNU := Hd hnull
     clear hnull hxn
     have HREL := Hd (show RangeB w1 bb (s + 1) nb fb (fun z => left z && !(z == k)) cnt1 /\ n1 + cnt1 ≤ nb /\ MapB w1 s n1 f1 /\ (∀ z, f1 z = if (left z && !(z == k)) then none else origAt b z) /\ Chg No w w1 from
      ⟨HRG1.out, by have := HLT.out; omega, HOUT1.out, fun z => by
       by_cases hz : z = k
       ·subst hz; rw [HA1.out, HLK.out, HNU.out]; simp
       ·have hzb : (z == k) = false := by rw [k_beq]; exact decide_eq_false hz
        rw [HA1.out, hzb]; simp, HCY.out⟩)
     go_wp2_with fail
     go_roundw
     case rel => exact ⟨_, _, _, _, HREL.out⟩
     case measure => rw [HREL.out.1.left_eq, HLE.out]; exact HLT.out
def ValsM (ok : Nat -> Prop) (w : World) (mv : Value) (vals : J) : Prop :=
 (vals = .null /\ mv = .map none) ∨ ∃ t b, vals = .table t /\ mv = .map (some b) /\ AnyJ ok w (.iface 67 (.map (some b))) (.table t)
abbrev ptrRows (ps : List Nat) : List (List Value) := ps.map fun q => [.pointer (some ⟨q, 0, none⟩)]
inductive ChartM (ok : Nat -> Prop) (w : World) : Nat -> Ch -> Prop where
 | mk {p pm : Nat} {mv par dv wv : Value} {name ver : K} {vals : J} {deps : List Ch} {wants : List Want} {ps : List Nat} (hp : Blk w p [.pointer (some ⟨pm, 0, none⟩), mv, par, dv] 125) (okp : ok p)
   (hm : Blk w pm [.string name, .string ver, wv] 122) (okm : ok pm) (hv : ValsM ok w mv vals) (hd : RowAt ok w dv 1 (ptrRows ps)) (hn : ps.length = deps.length)
   (h : ∀ (i q : Nat) (d : Ch), ps[i]? = some q -> deps[i]? = some d -> ChartM ok w q d) : ChartM ok w p (.mk name ver vals deps wants)
theorem ValsM.chg {ok S : Nat -> Prop} {w w' : World} {mv : Value} {vals : J} (h : ValsM ok w mv vals) (hc : Chg S w w') (hs : ∀ b, ok b -> ¬ S b) : ValsM ok w' mv vals := by
 rcases h with h | ⟨t, b, h1, h2, h3⟩
 ·exact .inl h
 ·exact .inr ⟨t, b, h1, h2, h3.chg hc hs⟩
theorem ChartM.chg {ok S : Nat -> Prop} {w w' : World} {p : Nat} {c : Ch} (h : ChartM ok w p c) (hc : Chg S w w') (hs : ∀ b, ok b -> ¬ S b) : ChartM ok w' p c := by
 induction h with
 | mk hp okp hm okm hv hd hn _ ih => exact .mk (hp.chg hc (hs _ okp)) okp (hm.chg hc (hs _ okm)) okm (hv.chg hc hs) (hd.chg hc hs) hn ih
theorem ChartM.mono {ok ok' : Nat -> Prop} {w : World} {p : Nat} {c : Ch} (h : ChartM ok w p c) (hs : ∀ b, b < w.heap.size -> ok b -> ok' b) : ChartM ok' w p c := by
 induction h with
 | mk hp okp hm okm hv hd hn _ ih =>
  refine .mk hp (hs _ hp.lt okp) hm (hs _ hm.lt okm) ?_ (hd.mono hs (by decide)) hn ih
  rcases hv with h | ⟨t, b, h1, h2, h3⟩
  ·exact .inl h
  ·exact .inr ⟨t, b, h1, h2, h3.mono hs⟩
theorem ChartM.bel {ok : Nat -> Prop} {w : World} {p : Nat} {c : Ch} (h : ChartM ok w p c) : ChartM (okB ok w) w p c := h.mono (fun b hb h => ⟨h, hb⟩)
theorem run_ptrNil (a : Addr) (w : World) : (Go.binOp BinOp.eql 120 (.pointer (some a)) (.pointer none)).run Tryz.prog w = .ok (.bool false) w := by kernel_rfl
theorem name_any {ok : Nat -> Prop} {w : World} {p : Nat} {c : Ch} (h : ChartM ok w p c) : Calls Tryz.prog 88 #[.pointer (some ⟨p, 0, none⟩)] w fun e w' => e = .returned (.string c.name) /\ w' = w := by
 cases h with
 | @mk _ pm mv par dv wv name ver vals deps wants ps hp okp hm okm hv hd hn hh =>
  have k0 : w.cell? ⟨p, 0, none⟩ = some (.pointer (some ⟨pm, 0, none⟩)) := hp.cell 0
  have q0 : w.cell? ⟨pm, 0, none⟩ = some (.string name) := hm.cell 0
  have hpn := run_ptrNil ⟨pm, 0, none⟩
  clear hp okp hm okm hv hd hn hh
  go_enter Tryz.func88, Tryz.ntmps88
  go_wp2
  go_ret
  exact ⟨rfl, rfl⟩
theorem deps_any {w : World} {p : Nat} {a0 a1 a2 : Value} {da : Option Addr} {dn dc : Nat} (hp : Blk w p [a0, a1, a2, .slice da dn dc] 125) : Calls Tryz.prog 90 #[.pointer (some ⟨p, 0, none⟩)] w fun e w' => e = .returned (.slice da dn dc) /\ w' = w := by
 have k3 : w.cell? ⟨p, 3, none⟩ = some (.slice da dn dc) := hp.cell 3
 clear hp
 go_enter Tryz.func90, Tryz.ntmps90
 go_wp2
 go_ret
 exact ⟨rfl, rfl⟩
theorem childMerge_any {ok : Nat -> Prop} {w : World} {p : Nat} {c : Ch} (h : ChartM ok w p c) (key : K) (m : Bool) : Calls Tryz.prog 143 #[.pointer (some ⟨p, 0, none⟩), .string key, .bool m] w fun e w' => e = .returned (.bool (m || hasDep c.deps key)) /\ w' = w := by
 cases h with
 | @mk _ pm mv par dv wv name ver vals deps wants ps hp okp hm okm hv hd hn hh =>
  have HH := Hd hh
  have HD := Hd hd
  have hd1 := hd.1
  have HN := Hd hn
  obtain ⟨-, -, da, dc, rfl, -, -⟩ := hd
  simp only [ptrRows, List.length_map] at HD hd1 hp
  unfold maxLen at hd1
  have HDP := Hd (deps_any hp)
  clear hp okp hm okm hv hn hh
  go_enter Tryz.func143, Tryz.ntmps143
  go_wp2_with fail
  refine HDP.out.mono ?_
  rintro e wt ⟨rfl, hwt⟩
  obtain rfl := hwt.symm
  go_wp2_with fail
  go_loopw [12] (fun ct wr => ∃ n : Nat, ct = .int .i64 n /\ n ≤ ps.length /\ (∀ d ∈ deps.take n, d.name ≠ key) /\ wr = w) (fun ct _ => ps.length - (intOf ct).toNat)
  case atStart => exact ⟨0, rfl, Nat.zero_le _, by simp, rfl⟩
  case round =>
   obtain ⟨n, rfl, hnl, hnot, hwr⟩ := hrel
   subst hwr
   have HNOT := Hd hnot
   clear hnot
   by_cases hlt : n < ps.length
   ·obtain ⟨q, hq⟩ : ∃ q, ps[n]? = some q := ⟨_, List.getElem?_eq_getElem hlt⟩
    obtain ⟨d, hd⟩ : ∃ d, deps[n]? = some d := ⟨_, List.getElem?_eq_getElem (by rw [← HN.out]; exact hlt)⟩
    obtain ⟨lb, lo, rfl, -, hlc⟩ := HD.out.at (i := n) (r := [.pointer (some ⟨q, 0, none⟩)]) (by simp [hq])
    have hlc := hlc.one
    simp only [Nat.mul_one] at hlc
    have HC := Hd (HH.out n q d hq hd)
    have HDD := Hd hd
    have h64 : (n : Int) < (ps.length : Int) := by omega
    clear hq hd
    go_wp2_with fail
    refine (name_any HC.out).mono ?_
    rintro e wt ⟨rfl, hwt⟩
    obtain rfl := hwt.symm
    by_cases hk : d.name = key
    ·have hkb : (d.name.toList == key.toList) = true := by rw [toList_beq]; simpa using hk
     have hall : (m || hasDep deps key) = true := by
      have : hasDep deps key = true := List.any_eq_true.2 ⟨d, List.mem_of_getElem? HDD.out, by simpa using hk⟩
      rw [this]; simp
     have HALL := Hd hall
     clear hk hall
     go_wp2
     go_ret
     refine ⟨?_, rfl⟩
     show Ending.returned (.bool true) = _
     rw [show (Ch.mk name ver vals deps wants).deps = deps from rfl, HALL.out]
    ·have hkb : (d.name.toList == key.toList) = false := by rw [toList_beq]; simpa using hk
     have HK := Hd hk
     clear hk
     go_wp2_with fail
     go_roundw
     case rel =>
      refine ⟨n + 1, by go_num, by omega, fun x hx => ?_, trivial⟩
      rw [List.take_add_one, HDD.out] at hx
      rcases List.mem_append.1 hx with hx | hx
      ·exact HNOT.out x hx
      ·have : x = d := by simpa using hx
       subst this; exact HK.out
     case measure => simp [intOf]; omega
   ·have hall : hasDep deps key = false := by
     have h := HNOT.out
     rw [List.take_of_length_le (by rw [← HN.out]; omega)] at h
     exact List.any_eq_false.2 (fun d hd => by simpa using h d hd)
    have HALL := Hd hall
    have h64 : ¬ (n : Int) < (ps.length : Int) := by omega
    clear hall
    go_wp2
    go_ret
    refine ⟨?_, rfl⟩
    rw [show (Ch.mk name ver vals deps wants).deps = deps from rfl, HALL.out, Bool.or_false]
    rfl
def childK : K := ⟨#[99, 104, 105, 108, 100]⟩
def parentK : K := ⟨#[112, 97, 114, 101, 110, 116]⟩
def ImpM (ok : Nat -> Prop) (w : World) (v : Value) (i : Imp) : Prop :=
 (i.isMap = false /\ v = .iface 9 (.string i.plain)) ∨ (i.isMap = true /\ ∃ b, v = .iface 67 (.map (some b)) /\ AnyJ ok w v (.table [(childK, .text i.child), (parentK, .text i.parent)]))
theorem ImpM.chg {ok S : Nat -> Prop} {w w' : World} {v : Value} {i : Imp} (h : ImpM ok w v i) (hc : Chg S w w') (hs : ∀ b, ok b -> ¬ S b) : ImpM ok w' v i := by
 rcases h with h | ⟨h1, b, h2, h3⟩
 ·exact .inl h
 ·exact .inr ⟨h1, b, h2, h3.chg hc hs⟩
theorem ImpM.mono {ok ok' : Nat -> Prop} {w : World} {v : Value} {i : Imp} (h : ImpM ok w v i) (hs : ∀ b, b < w.heap.size -> ok b -> ok' b) : ImpM ok' w v i := by
 rcases h with h | ⟨h1, b, h2, h3⟩
 ·exact .inl h
 ·exact .inr ⟨h1, b, h2, h3.mono hs⟩
theorem ImpM.one {ok : Nat -> Prop} {w : World} {v : Value} {i : Imp} (h : ImpM ok w v i) : v.oneCell' = true := by
 rcases h with ⟨-, rfl⟩ | ⟨-, b, rfl, -⟩ <;> rfl
abbrev cellsD (x : Want) (repo : K) (tv iv : Value) : List Value := [.string x.name, .string x.version, .string repo, .string x.condition, tv, .bool x.enabled, iv, .string x.alias_]
def DepM (ok : Nat -> Prop) (w : World) (q : Nat) (x : Want) : Prop := ∃ (repo : K) (tv iv : Value) (ivs : List Value), Blk w q (cellsD x repo tv iv) 154 /\ RowAt ok w tv 1 (kRows x.tags) /\ RowAt ok w iv 1 (ivs.map fun u => [u]) /\ ivs.length = x.imports.length /\
 ∀ (n : Nat) (u : Value) (i : Imp), ivs[n]? = some u -> x.imports[n]? = some i -> ImpM ok w u i
theorem DepM.chg {ok S : Nat -> Prop} {w w' : World} {q : Nat} {x : Want} (h : DepM ok w q x) (hc : Chg S w w') (hs : ∀ b, ok b -> ¬ S b) (hq : ¬ S q) : DepM ok w' q x := by
 obtain ⟨repo, tv, iv, ivs, h1, h2, h3, h4, h5⟩ := h
 exact ⟨repo, tv, iv, ivs, h1.chg hc hq, h2.chg hc hs, h3.chg hc hs, h4, fun n u i hu hi => (h5 n u i hu hi).chg hc hs⟩
theorem DepM.mono {ok ok' : Nat -> Prop} {w : World} {q : Nat} {x : Want} (h : DepM ok w q x) (hs : ∀ b, b < w.heap.size -> ok b -> ok' b) : DepM ok' w q x := by
 obtain ⟨repo, tv, iv, ivs, h1, h2, h3, h4, h5⟩ := h
 exact ⟨repo, tv, iv, ivs, h1, h2.mono hs (by decide), h3.mono hs (by decide), h4, fun n u i hu hi => (h5 n u i hu hi).mono hs⟩
theorem DepM.lt {ok : Nat -> Prop} {w : World} {q : Nat} {x : Want} (h : DepM ok w q x) : q < w.heap.size := by
 obtain ⟨repo, tv, iv, ivs, h1, -⟩ := h
 exact h1.lt
inductive ChartO (ok : Nat -> Prop) (w : World) : Nat -> Ch -> (Nat -> Prop) -> Prop where
 | mk {p pm : Nat} {mv par dv wv : Value} {name ver : K} {vals : J} {deps : List Ch} {wants : List Want} {ps qs : List Nat} {F : Nat -> Nat -> Prop} {S : Nat -> Prop} (hp : Blk w p [.pointer (some ⟨pm, 0, none⟩), mv, par, dv] 125)
   (hm : Blk w pm [.string name, .string ver, wv] 122) (hpar : par.oneCell' = true) (hv : ValsM ok w mv vals) (hd : RowAt ok w dv 1 (ptrRows ps)) (hn : ps.length = deps.length)
   (h : ∀ (i q : Nat) (d : Ch), ps[i]? = some q -> deps[i]? = some d -> ChartO ok w q d (F i)) (hw : RowAt ok w wv 1 (ptrRows qs)) (hwn : wants = [] -> wv = .slice none 0 0) (hwl : qs.length = wants.length)
   (hx : ∀ (i q : Nat) (x : Want), qs[i]? = some q -> wants[i]? = some x -> DepM ok w q x)
   (hF : ∀ i j x, F i x -> F j x -> i = j) (hFo : ∀ i x, F i x -> x ≠ p /\ x ≠ pm /\ x ∉ qs) (hFl : ∀ i x, F i x -> i < deps.length) (hq : qs.Nodup) (hqp : p ∉ qs /\ pm ∉ qs /\ p ≠ pm)
   (hS : ∀ x, S x ↔ (x = p ∨ x = pm ∨ x ∈ qs ∨ ∃ i, F i x)) : ChartO ok w p (.mk name ver vals deps wants) S
theorem ChartO.chg {ok S S' : Nat -> Prop} {w w' : World} {p : Nat} {c : Ch} (h : ChartO ok w p c S) (hc : Chg S' w w') (hok : ∀ b, ok b -> ¬ S' b) (hS : ∀ b, S b -> ¬ S' b) : ChartO ok w' p c S := by
 induction h with
 | @mk p pm mv par dv wv name ver vals deps wants ps qs F S hp hm hpar hv hd hn h hw hwn hwl hx hF hFo hFl hq hqp hSS ih =>
  have hps : ∀ i q, qs[i]? = some q -> S q := fun i q hi => (hSS q).2 (.inr (.inr (.inl (List.mem_of_getElem? hi))))
  exact .mk (hp.chg hc (hS _ ((hSS p).2 (.inl rfl)))) (hm.chg hc (hS _ ((hSS pm).2 (.inr (.inl rfl))))) hpar (hv.chg hc hok) (hd.chg hc hok) hn
   (fun i q d h1 h2 => ih i q d h1 h2 (fun b hb => hS b ((hSS b).2 (.inr (.inr (.inr ⟨i, hb⟩)))))) (hw.chg hc hok) hwn hwl
   (fun i q x h1 h2 => (hx i q x h1 h2).chg hc hok (hS q (hps i q h1))) hF hFo hFl hq hqp hSS
theorem ValsM.mono {ok ok' : Nat -> Prop} {w : World} {mv : Value} {vals : J} (h : ValsM ok w mv vals) (hs : ∀ b, b < w.heap.size -> ok b -> ok' b) : ValsM ok' w mv vals := by
 rcases h with h | ⟨t, b, h1, h2, h3⟩
 ·exact .inl h
 ·exact .inr ⟨t, b, h1, h2, h3.mono hs⟩
theorem ChartO.mono {ok ok' S : Nat -> Prop} {w : World} {p : Nat} {c : Ch} (h : ChartO ok w p c S) (hs : ∀ b, b < w.heap.size -> ok b -> ok' b) : ChartO ok' w p c S := by
 induction h with
 | mk hp hm hpar hv hd hn h hw hwn hwl hx hF hFo hFl hq hqp hSS ih =>
  exact .mk hp hm hpar (hv.mono hs) (hd.mono hs (by decide)) hn ih (hw.mono hs (by decide)) hwn hwl (fun i q x h1 h2 => (hx i q x h1 h2).mono hs) hF hFo hFl hq hqp hSS
theorem ChartO.set {ok S S' : Nat -> Prop} {w : World} {p : Nat} {c : Ch} (h : ChartO ok w p c S) (hs : ∀ x, S' x ↔ S x) : ChartO ok w p c S' := by
 cases h with
 | mk hp hm hpar hv hd hn h hw hwn hwl hx hF hFo hFl hq hqp hSS =>
  exact .mk hp hm hpar hv hd hn h hw hwn hwl hx hF hFo hFl hq hqp (fun x => (hs x).trans (hSS x))
theorem ChartO.lt {ok S : Nat -> Prop} {w : World} {p : Nat} {c : Ch} (h : ChartO ok w p c S) : ∀ x, S x -> x < w.heap.size := by
 induction h with
 | @mk p pm mv par dv wv name ver vals deps wants ps qs F S hp hm hpar hv hd hn h hw hwn hwl hx hF hFo hFl hq hqp hSS ih =>
  intro x hx2
  rcases (hSS x).1 hx2 with rfl | rfl | h1 | ⟨i, h1⟩
  ·exact hp.lt
  ·exact hm.lt
  ·obtain ⟨i, hi⟩ := List.getElem?_of_mem h1
   obtain ⟨y, hy⟩ : ∃ y, wants[i]? = some y := ⟨_, List.getElem?_eq_getElem (by rw [← hwl]; exact (List.getElem?_eq_some_iff.1 hi).1)⟩
   exact (hx i x y hi hy).lt
  ·have hl := hFl i x h1
   obtain ⟨d, hd2⟩ : ∃ d, deps[i]? = some d := ⟨_, List.getElem?_eq_getElem hl⟩
   obtain ⟨q, hq2⟩ : ∃ q, ps[i]? = some q := ⟨_, List.getElem?_eq_getElem (by rw [hn]; exact hl)⟩
   exact ih i q d hq2 hd2 x h1
theorem ChartO.self {ok S : Nat -> Prop} {w : World} {p : Nat} {c : Ch} (h : ChartO ok w p c S) : S p := by
 cases h with
 | mk hp hm hpar hv hd hn h hw hwn hwl hx hF hFo hFl hq hqp hSS => exact (hSS _).2 (.inl rfl)
theorem ChartO.chartM {ok S : Nat -> Prop} {w : World} {p : Nat} {c : Ch} (h : ChartO ok w p c S) : ChartM (fun x => ok x ∨ S x) w p c := by
 induction h with
 | @mk p pm mv par dv wv name ver vals deps wants ps qs F S hp hm hpar hv hd hn h hw hwn hwl hx hF hFo hFl hq hqp hSS ih =>
  exact .mk hp (.inr ((hSS p).2 (.inl rfl))) hm (.inr ((hSS pm).2 (.inr (.inl rfl)))) (hv.mono (fun _ _ h => .inl h)) (hd.mono (fun _ _ h => .inl h) (by decide)) hn
   (fun i q d h1 h2 => (ih i q d h1 h2).mono (fun b _ h => h.imp id (fun h => (hSS b).2 (.inr (.inr (.inr ⟨i, h⟩))))))
theorem ChartO.par {ok S S' : Nat -> Prop} {w w' : World} {p : Nat} {c : Ch} (h : ChartO ok w p c S) (hno : ¬ ok p) {a0 a1 a2 a3 : Value} (hb : Blk w p [a0, a1, a2, a3] 125) {u : Value} (hu : u.oneCell' = true) (hb' : Blk w' p [a0, a1, u, a3] 125) (hc : Chg S' w w') (hs : ∀ x, S' x -> x = p ∨ (¬ ok x /\ ¬ S x)) : ChartO ok w' p c S := by
 cases h with
 | @mk _ pm mv par dv wv name ver vals deps wants ps qs F _ hp hm hpar hv hd hn h hw hwn hwl hx hF hFo hFl hq hqp hSS =>
  have he : [Value.pointer (some ⟨pm, 0, none⟩), mv, par, dv] = [a0, a1, a2, a3] := by
   have h1 : w.heap[p]? = _ := hp
   have h2 : w.heap[p]? = _ := hb
   rw [h1] at h2
   cases h2
   rfl
  cases he
  have hok : ∀ b, ok b -> ¬ S' b := fun b hb e => (hs b e).elim (fun e1 => hno (e1 ▸ hb)) (fun e1 => e1.1 hb)
  have hSn : ∀ b, S b -> b ≠ p -> ¬ S' b := fun b hb hne e => (hs b e).elim hne (fun e1 => e1.2 hb)
  refine .mk hb' (hm.chg hc (hSn pm ((hSS pm).2 (.inr (.inl rfl))) (fun e => hqp.2.2 e.symm))) hu (hv.chg hc hok) (hd.chg hc hok) hn (fun i q d h1 h2 => (h i q d h1 h2).chg hc hok (fun b hb => hSn b ((hSS b).2 (.inr (.inr (.inr ⟨i, hb⟩)))) (hFo i b hb).1)) (hw.chg hc hok) hwn hwl
   (fun i q x h1 h2 => (hx i q x h1 h2).chg hc hok (hSn q ((hSS q).2 (.inr (.inr (.inl (List.mem_of_getElem? h1))))) (fun e => hqp.1 (e ▸ List.mem_of_getElem? h1)))) hF hFo hFl hq hqp hSS
theorem ChartO.blk {ok S : Nat -> Prop} {w : World} {p : Nat} {c : Ch} (h : ChartO ok w p c S) : ∃ b0 b1 b2 b3, Blk w p [b0, b1, b2, b3] 125 := by
 cases h with
 | mk hp => exact ⟨_, _, _, _, hp⟩
theorem elem123 : ElemTy Tryz.prog 123 70 1 8 := by
 refine ⟨Tryz.underlying123, ?_, by decide⟩
 have h : (Tryz.prog.info? 70).map (fun i => (i.zero, i.size, i.bytes)) = some (some (.pointer none), 1, 8) := by kernel_rfl
 obtain ⟨i, h1, h2, h3, h4⟩ := info_parts h
 exact ⟨i, _, h1, h2, h3, h4, rfl⟩
abbrev ptr (q : Nat) : Value := .pointer (some ⟨q, 0, none⟩)
structure AD (w : World) (base p : Nat) (a0 a1 a2 dv0 : Value) (ps0 qs : List Nat) (n : Nat) (dv : Value) (wr : World) : Prop where
 le : n ≤ qs.length
 blk : Blk wr p [a0, a1, a2, dv] 125
 own : OwnR wr base 70 1 dv (ptrRows (ps0 ++ qs.take n))
 kid : ∀ q ∈ qs.take n, ∀ b0 b1 b2 b3, Blk w q [b0, b1, b2, b3] 125 -> Blk wr q [b0, b1, ptr p, b3] 125
 rest : ∀ q ∈ qs.drop n, ∀ b0 b1 b2 b3, Blk w q [b0, b1, b2, b3] 125 -> Blk wr q [b0, b1, b2, b3] 125
 chg : Chg (fun k => k = p ∨ k ∈ qs.take n ∨ dv0.ownBlock = some k) w wr
 new : dv.ownBlock = dv0.ownBlock ∨ ∀ k, dv.ownBlock = some k -> w.heap.size ≤ k
theorem AD.step {w : World} {base p : Nat} {a0 a1 a2 dv0 : Value} {ps0 qs : List Nat} {n : Nat} {dv : Value} {wr : World} (h : AD w base p a0 a1 a2 dv0 ps0 qs n dv wr) {q : Nat} (hq : qs[n]? = some q) (hnd : qs.Nodup) (hpq : p ∉ qs) {b0 b1 b2 b3 : Value} (hbq : Blk wr q [b0, b1, b2, b3] 125) {w2 w3 w4 : World} {dv' : Value} (h2 : Blk w2 q [b0, b1, ptr p, b3] 125) (c2 : Chg (· = q) wr w2)
  (c3 : Chg (fun b => dv.ownBlock = some b) (w2.alloc (.cells #[ptr q] 70)) w3) (hown : OwnR w3 base 70 1 dv' (ptrRows (ps0 ++ qs.take n) ++ [[ptr q]])) (hv' : dv'.ownBlock = dv.ownBlock ∨ ∀ k, dv'.ownBlock = some k -> (w2.alloc (.cells #[ptr q] 70)).heap.size ≤ k)
  (h4 : Blk w4 p [a0, a1, a2, dv'] 125) (c4 : Chg (· = p) w3 w4) : AD w base p a0 a1 a2 dv0 ps0 qs (n + 1) dv' w4 := by
 have hlt2 : n < qs.length := (List.getElem?_eq_some_iff.1 hq).1
 have hqm : q ∈ qs := List.mem_of_getElem? hq
 have htk : qs.take (n + 1) = qs.take n ++ [q] := by rw [List.take_add_one, hq]; rfl
 have hdr : qs.drop n = q :: qs.drop (n + 1) := by
  obtain ⟨h1, h2⟩ := List.getElem?_eq_some_iff.1 hq
  rw [List.drop_eq_getElem_cons h1, h2]
 have hs1 := h.chg.size
 have hs2 := c2.size
 have hs3 := c3.size
 simp at hs3
 have hown0 : ∀ k, dv.ownBlock = some k -> ∃ cur, wr.heap[k]? = some (.cells cur 70 (0, 0)) := fun k hk => (h.own.elem hk).2.2
 have hne : ∀ x c0 c1 c3 c4, Blk wr x [c0, c1, c3, c4] 125 -> dv.ownBlock ≠ some x := fun x c0 c1 c3 c4 hb e => by
  obtain ⟨cur, hcur⟩ := hown0 x e
  have h1 : wr.heap[x]? = _ := hb
  rw [h1] at hcur
  cases hcur
 have hqp : q ≠ p := fun e => hpq (e ▸ hqm)
 have c24 : ∀ x c0 c1 c3 c4, x ≠ q -> x ≠ p -> Blk wr x [c0, c1, c3, c4] 125 -> Blk w4 x [c0, c1, c3, c4] 125 := fun x c0 c1 c3' c4' h1 h3 hb =>
  ((((hb.chg c2 h1).alloc _).chg c3 (hne x _ _ _ _ hb)).chg c4 h3)
 have hbq4 : Blk w4 q [b0, b1, ptr p, b3] 125 := (((h2.alloc _).chg c3 (hne q _ _ _ _ hbq)).chg c4 hqp)
 refine ⟨hlt2, h4, ?_, fun x hx c0 c1 d2 d3 hb => ?_, fun x hx c0 c1 d2 d3 hb => ?_, ?_, ?_⟩
 ·have h5 := hown.chg c4 (fun k hk e => by
   obtain ⟨-, -, cur, hcur⟩ := hown.elem hk
   have e2 : k = p := e
   subst e2
   have h6 : w3.heap[k]? = some (.cells #[a0, a1, a2, dv] 125 (0, 0)) := by
    have := ((h.blk.chg c2 (Ne.symm hqp)).alloc (.cells #[ptr q] 70)).chg c3 (hne k _ _ _ _ h.blk)
    exact this
   rw [h6] at hcur
   cases hcur)
  rw [htk, ← List.append_assoc]
  simpa [ptrRows] using h5
 ·rw [htk] at hx
  rcases List.mem_append.1 hx with hx | hx
  ·have hxq : x ≠ q := fun e => by
    have h6 := hnd
    rw [← List.take_append_drop n qs, hdr] at h6
    exact (List.nodup_append.1 h6).2.2 x hx q (by simp) e
   exact c24 x _ _ _ _ hxq (fun e => hpq (e ▸ List.mem_of_mem_take hx)) (h.kid x hx _ _ _ _ hb)
  ·obtain rfl : x = q := by simpa using hx
   have h6 := h.rest x (by rw [hdr]; simp) _ _ _ _ hb
   have h7 : wr.heap[x]? = _ := h6
   have h8 : wr.heap[x]? = _ := hbq
   rw [h7] at h8
   cases h8
   exact hbq4
 ·have hxm : x ∈ qs := List.mem_of_mem_drop hx
  have hxq : x ≠ q := fun e => by
   have h6 := hnd
   rw [← List.take_append_drop n qs, hdr] at h6
   have h7 := (List.nodup_append.1 h6).2.1
   rw [List.nodup_cons] at h7
   exact h7.1 (e ▸ hx)
  exact c24 x _ _ _ _ hxq (fun e => hpq (e ▸ hxm)) (h.rest x (by rw [hdr]; simp [hx]) _ _ _ _ hb)
 ·have k1 : Chg (fun k => k = q ∨ k = p ∨ dv.ownBlock = some k) wr w4 :=
   (((c2.mono (S' := fun k => k = q ∨ k = p ∨ dv.ownBlock = some k) (fun _ _ e => .inl e)).alloc _).trans c3 (fun i hi e => .inr (.inr e))).trans c4 (fun i hi e => .inr (.inl e))
  refine (h.chg.mono (S' := fun k => k = p ∨ k ∈ qs.take (n + 1) ∨ dv0.ownBlock = some k) (fun i _ e => ?_)).trans k1 (fun i hi e => ?_)
  ·rw [htk]
   rcases e with e | e | e
   ·exact .inl e
   ·exact .inr (.inl (by simp [e]))
   ·exact .inr (.inr e)
  ·rcases e with e | e | e
   ·exact .inr (.inl (by rw [htk, e]; simp))
   ·exact .inl e
   ·rcases h.new with h9 | h9
    ·exact .inr (.inr (h9 ▸ e))
    ·have := h9 i e; omega
 ·rcases hv' with h9 | h9
  ·rw [h9]; exact h.new
  ·exact .inr (fun k hk => by have := h9 k hk; simp at this; omega)
theorem addDep_any (base p : Nat) (a0 a1 a2 dv0 : Value) (ps0 qs : List Nat) (cv : Value) (w : World) {ok : Nat -> Prop} (hbs : base ≤ w.heap.size) (hb : Blk w p [a0, a1, a2, dv0] 125) (hown : OwnR w base 70 1 dv0 (ptrRows ps0)) (hc : RowAt ok w cv 1 (ptrRows qs)) (hok : ∀ b, ok b -> b < w.heap.size -> b ≠ p /\ b ∉ qs /\ dv0.ownBlock ≠ some b)
  (hnd : qs.Nodup) (hpq : p ∉ qs) (hqb : ∀ q ∈ qs, ∃ b0 b1 b2 b3, Blk w q [b0, b1, b2, b3] 125) (hlen : ps0.length + qs.length ≤ 1000000) :
  Calls Tryz.prog 85 #[ptr p, cv] w fun e w' => e = .returned (.tuple #[]) /\ ∃ dv, AD w base p a0 a1 a2 dv0 ps0 qs qs.length dv w' := by
 have HC := Hd (RowAt.mono (ok' := okB ok w) hc (fun b hb h => ⟨h, hb⟩) (by decide))
 have HOK := Hd hok
 have HND := Hd hnd
 have HPQ := Hd hpq
 have HQB := Hd hqb
 have HBS := Hd hbs
 have HAD0 := Hd (show AD w base p a0 a1 a2 dv0 ps0 qs 0 dv0 w from ⟨Nat.zero_le _, hb, by simpa using hown, by simp, fun q _ _ _ _ _ h => h, Chg.refl _ _, .inl rfl⟩)
 have HLEN := Hd hlen
 have hc1 : (qs.length : Int) ≤ 1000000 := by omega
 obtain ⟨-, -, ca, cc, rfl, -, -⟩ := hc
 simp only [ptrRows, List.length_map] at HC ⊢
 clear hok hnd hpq hqb hb hown hlen hbs
 go_enter Tryz.func85, Tryz.ntmps85
 go_wp2_with fail
 go_loopw [8] (fun ct wr => ∃ (n : Nat) (dv : Value), ct = .int .i64 n /\ AD w base p a0 a1 a2 dv0 ps0 qs n dv wr) (fun ct _ => qs.length - (intOf ct).toNat)
 case atStart => exact ⟨0, dv0, rfl, HAD0.out⟩
 case round =>
  obtain ⟨n, dv, rfl, had⟩ := hrel
  have HAD := Hd had
  clear had
  by_cases hlt : n < qs.length
  ·obtain ⟨q, hq⟩ : ∃ q, qs[n]? = some q := ⟨_, List.getElem?_eq_getElem hlt⟩
   have hqm : q ∈ qs := List.mem_of_getElem? hq
   obtain ⟨lb, lo, rfl, hlok, hlc⟩ := HC.out.at (i := n) (r := [ptr q]) (by simp [hq])
   have hlb := HOK.out lb hlok.1 hlok.2
   have hlc0 := (hlc.chg HAD.out.chg (fun e => by
    rcases e with e | e | e
    ·exact hlb.1 e
    ·exact hlb.2.1 (List.mem_of_mem_take e)
    ·exact hlb.2.2 e))
   have hlc := hlc0.one
   simp only [Nat.mul_one] at hlc
   obtain ⟨b0, b1, b2, b3, hbq0⟩ := HQB.out q hqm
   have hbq := HAD.out.rest q (by
    obtain ⟨h1, h2⟩ := List.getElem?_eq_some_iff.1 hq
    rw [List.drop_eq_getElem_cons h1, h2]; simp) _ _ _ _ hbq0
   have HBQ := Hd hbq
   have hpf := hbq.frozen 2
   have hql := hbq.lt
   have kq2 : wr.cell? ⟨q, 2, none⟩ = some b2 := hbq.cell 2
   have hfacts : ∀ W, (wr.setCell ⟨q, 2, none⟩ (ptr p)) = W -> Blk W q [b0, b1, ptr p, b3] 125 /\ Chg (· = q) wr W /\ W.heap.size = wr.heap.size := by
    rintro W rfl
    exact HBQ.out.setCell 2 (ptr p)
   have HF := Hd hfacts
   have hbp := HAD.out.blk
   have HQ := Hd hq
   have HQM := Hd hqm
   have h64 : (n : Int) < (qs.length : Int) := by omega
   clear hq hqm hlok hlb hbq0 hlc0 hfacts hbq hbp
   go_upto_region 4 with fail
   generalize hgw : World.setCell _ _ _ = W2
   obtain ⟨hb2, hc2, hs2⟩ := HF.out W2 hgw
   clear hgw HF kq2 hpf hql hlc
   have hqp : ¬ p = q := fun e => HPQ.out (e ▸ HQM.out)
   have hbp := HAD.out.blk.chg hc2 hqp
   have HBP := Hd hbp
   have HB2 := Hd hb2
   have HC2 := Hd hc2
   have HS2 := Hd hs2
   obtain ⟨da, dn, dc, rfl⟩ := HAD.out.own.slice
   have k3 : W2.cell? ⟨p, 3, none⟩ = some (.slice da dn dc) := hbp.cell 3
   have hown := (HAD.out.own.chg hc2 (fun k hk e => by
    have e1 : k = q := e
    obtain ⟨-, -, cur, hcur⟩ := HAD.out.own.elem hk
    have h1 : wr.heap[q]? = _ := HBQ.out
    rw [← e1, hcur] at h1
    cases h1))
   have hnb : (ptrRows (ps0 ++ qs.take n)).length + 1 ≤ 1099511627776 := by
    have := HLEN.out
    simp only [ptrRows, List.length_map, List.length_append, List.length_take]
    omega
   have hbs : base ≤ W2.heap.size + 1 := by have := HBS.out; have := HAD.out.chg.size; have := HS2.out; omega
   clear hbp hb2 hc2 hs2 hqp
   have HBP6 := Hd (fun (w6 : World) (hc6 : Chg (fun b => (Value.slice da dn dc).ownBlock = some b) (W2.alloc (.cells #[ptr q] 70)) w6) => show Blk w6 p [a0, a1, a2, .slice da dn dc] 125 from (HBP.out.alloc _).chg hc6 (fun e => by
    obtain ⟨-, -, cur, hcur⟩ := HAD.out.own.elem e
    have h1 : wr.heap[p]? = _ := HAD.out.blk
    rw [hcur] at h1
    cases h1))
   go_wp2_with (first | (at_builtin; refine wpList_appendRows rfl elem123 rfl rfl (hown.alloc _) rfl (RowAt.one1 W2 [ptr q] 70 1 rfl) (by simp [Value.oneCell']) hnb (by decide) (by simpa using hbs) ?_; intro dv' w6 hown' hc6 hv' hold; (obtain ⟨sa, sn, sc, rfl⟩ := hown'.slice); go_frame) | (refine wpList_setSlice rfl rfl rfl rfl Tryz.sizeOf123 (HBP6.out w6 hc6) (show 3 < 4 by decide) ?_; intro w7 hb7 hc7 hs7; go_frame))
   have HADN := Hd (HAD.out.step HQ.out HND.out HPQ.out HBQ.out HB2.out HC2.out hc6 hown' hv' hb7 hc7)
   clear hown' hc6 hv' hold hb7 hc7 hs7 hown k3
   go_roundw
   case rel => exact ⟨n + 1, _, by go_num, HADN.out⟩
   case measure => simp [intOf]; omega
  ·have hnl : n = qs.length := Nat.le_antisymm HAD.out.le (Nat.not_lt.1 hlt)
   subst hnl
   have h64 : ¬ ((qs.length : Nat) : Int) < (qs.length : Int) := by omega
   go_wp2
   go_end0
   exact ⟨rfl, dv, HAD.out⟩
def StepOkG (P : Program) (ops : Array Oper) (Q : Exit -> Act -> World -> Prop) (a0 : Act) {Γ : Type} (I : Γ -> Nat -> Value -> World -> Prop) (G : Γ -> (Nat -> Bool) -> World -> Prop) (i : Nat) (o : Oper) : Prop :=
 ∀ (γ : Γ) (done : Nat -> Bool) (a : Act) (w : World) (K : Act -> World -> Prop),
  done i = false -> (∀ j k, ((ops[j]?).map (waitsOn k)).getD false = true -> done j = true -> done k = true) ->
  (∀ j d, (ops[j]?).bind (·.dst) = some d -> done j = true -> I γ j (a.tmps[d]?.getD undef) w) ->
  (∀ t : Nat, (ops.toList.all fun o => o.dst != some t) = true -> a.tmps[t]?.getD undef = a0.tmps[t]?.getD undef) ->
  (∀ k, waitsOn k o = true -> done k = true) -> G γ done w ->
  (∀ γ' v w', I γ' i v w' -> G γ' (dn done i) w' -> (∀ j, j ≠ i -> done j = true -> ∀ u, I γ j u w -> I γ' j u w') -> K (a.put o.dst v) w') ->
  (if Region.wanted o (yielded ops a.tmps) then o.wp P a w K Q else K (a.put o.dst undef) w)
def StepsOkG (P : Program) (ops : Array Oper) (Q : Exit -> Act -> World -> Prop) (a0 : Act) {Γ : Type} (I : Γ -> Nat -> Value -> World -> Prop) (G : Γ -> (Nat -> Bool) -> World -> Prop) : Nat -> List Oper -> Prop
 | _, [] => True
 | n, o :: rest => StepOkG P ops Q a0 I G n o /\ StepsOkG P ops Q a0 I G (n + 1) rest
theorem StepsOkG.get {P : Program} {ops : Array Oper} {Q : Exit -> Act -> World -> Prop} {a0 : Act} {Γ : Type} {I : Γ -> Nat -> Value -> World -> Prop} {G : Γ -> (Nat -> Bool) -> World -> Prop} : ∀ {l : List Oper} {n : Nat}, StepsOkG P ops Q a0 I G n l -> ∀ {i : Nat} {o : Oper}, l[i]? = some o -> StepOkG P ops Q a0 I G (n + i) o
 | [], _, _, i, o, h => by simp at h
 | a :: r, n, hs, 0, o, h => by simp at h; subst h; exact hs.1
 | a :: r, n, hs, i + 1, o, h => by
  have := StepsOkG.get hs.2 (i := i) (o := o) (by simpa using h)
  rwa [show n + 1 + i = n + (i + 1) by omega] at this
section
variable {P : Program} {l : List Oper} {Q : Exit -> Act -> World -> Prop} {a0 : Act} {Γ : Type} {I : Γ -> Nat -> Value -> World -> Prop} {G : Γ -> (Nat -> Bool) -> World -> Prop}
theorem wpAny_ofG (ht : tidy l a0.tmps.size = true) (hs : StepsOkG P l.toArray Q a0 I G 0 l)
  (hend : ∀ (γ : Γ) (vs : Nat -> Value) (w' : World), (∀ j oj, l[j]? = some oj -> oj.dst ≠ none -> I γ j (vs j) w') -> (∀ j oj, l[j]? = some oj -> oj.dst = none -> ∃ u, I γ j u w') -> G γ (fun j => decide (j < l.length)) w' -> Q .normal (putAll vs 0 l a0) w') :
  ∀ (fuel : Nat) (listed : Array Bool) (a : Act) (w : World) (γ : Γ), OnWay l a0 (I γ) (G γ) listed a w -> ((List.range l.length).filter fun i => !listed.getD i false).length ≤ fuel -> wpAny P .any l.toArray Q fuel listed a w := by
 simp only [tidy, Bool.and_eq_true, decide_eq_true_eq, List.all_eq_true] at ht
 obtain ⟨⟨hnd, hin⟩, hbe⟩ := ht
 have hin' : ∀ (j : Nat) (oj : Oper) (d : Nat), l[j]? = some oj -> oj.dst = some d -> d < a0.tmps.size := fun j oj d hj hd => by
  have := hin oj (List.mem_of_getElem? hj)
  simpa [hd] using this
 have full : ∀ (listed : Array Bool), listed.size = l.length -> Region.ready .any l.toArray listed = [] -> ∀ i, i < l.length -> listed.getD i false = true := by
  intro listed hsz hr i
  induction i using Nat.strongRecOn with
  | _ i ih =>
   intro hi
   by_cases hl : listed.getD i false = true
   ·exact hl
   ·exfalso
    have hm : i ∈ Region.ready .any l.toArray listed := by
     unfold Region.ready
     refine List.mem_filter.2 ⟨List.mem_range.2 (by simpa using hi), ?_⟩
     have ho : l.toArray[i]? = some l[i] := by simp [hi]
     have hl2 : listed.getD i true = false := by
      have : i < listed.size := by omega
      simp [this] at hl ⊢
      exact hl
     rw [hl2, ho]
     simp only [Bool.not_false, Bool.true_and, Option.map_some, Option.getD_some, Array.all_eq_true_iff_forall_mem]
     intro e he
     have h2 := hbe i (List.mem_range.2 hi)
     rw [List.getElem?_eq_getElem hi] at h2
     simp only [Option.map_some, Option.getD_some, Array.all_eq_true_iff_forall_mem] at h2
     have h3 := h2 e he
     by_cases hb : Region.binds .any e = true
     ·rw [hb] at h3 ⊢
      simp at h3
      have := ih e.on h3 (by omega)
      simpa using this
     ·simp at hb; simp [hb]
    rw [hr] at hm
    cases hm
 have atEnd : ∀ (listed : Array Bool) (a : Act) (w : World) (γ : Γ), OnWay l a0 (I γ) (G γ) listed a w -> (∀ i, i < l.length -> listed.getD i false = true) -> Q .normal a w := by
  intro listed a w γ h hall
  have hg : (fun j => listed.getD j false) = fun j => decide (j < l.length) := by
   funext j
   by_cases hj : j < l.length
   ·simp only [hall j hj, decide_eq_true hj]
   ·have : ¬ j < listed.size := by rw [h.size]; exact hj
    simp [hj, this]
  have hlt : ∀ {j : Nat} {oj : Oper}, l[j]? = some oj -> j < l.length := fun hj => (List.getElem?_eq_some_iff.1 hj).1
  have hq := hend γ (fun j => match (l[j]?).bind (·.dst) with | some d => a.eval (.tmp d) | none => undef) w
   (fun j oj hj hne => by
    cases hd : oj.dst with
    | none => exact absurd hd hne
    | some d =>
     simp only [hj, Option.bind_some, hd]
     exact h.slots j oj d (by simpa using hj) hd (hall j (hlt hj)))
   (fun j oj hj hd => h.mute j oj (by simpa using hj) hd (hall j (hlt hj)))
   (hg ▸ h.glob)
  have ea : putAll (fun j => match (l[j]?).bind (·.dst) with | some d => a.eval (.tmp d) | none => undef) 0 l a0 = a := by
   have hsz := putAll_size (fun j => match (l[j]?).bind (·.dst) with | some d => a.eval (.tmp d) | none => undef) l 0 a0
   have hdf := putAll_defers (fun j => match (l[j]?).bind (·.dst) with | some d => a.eval (.tmp d) | none => undef) l 0 a0
   have htm : (putAll (fun j => match (l[j]?).bind (·.dst) with | some d => a.eval (.tmp d) | none => undef) 0 l a0).tmps = a.tmps := by
    apply Array.ext_getElem?
    intro t
    by_cases hx : ∃ (j : Nat) (oj : Oper), l[j]? = some oj /\ oj.dst = some t
    ·obtain ⟨j, oj, hj, hd⟩ := hx
     have hb := hin' j oj t hj hd
     rw [putAll_at _ l 0 a0 j oj t hnd hj hd hb]
     simp only [Nat.zero_add, hj, Option.bind_some, hd]
     have : t < a.tmps.size := by rw [h.tsize]; exact hb
     simp [Act.eval, this]
    ·rw [putAll_other _ t l 0 a0 (fun o ho e => by
      obtain ⟨j, hj⟩ := List.getElem?_of_mem ho
      exact hx ⟨j, o, hj, e⟩)]
     exact (h.other t (fun j oj hj hd => (hx ⟨j, oj, by simpa using hj, hd⟩).elim)).symm
   rw [← h.defers] at hdf
   cases hp : putAll (fun j => match (l[j]?).bind (·.dst) with | some d => a.eval (.tmp d) | none => undef) 0 l a0 with
   | mk tm df =>
    rw [hp] at htm hdf
    cases a; simp at htm hdf; simp [htm, hdf]
  rw [ea] at hq
  exact hq
 intro fuel
 induction fuel with
 | zero =>
  intro listed a w γ h hc
  have hall : ∀ i, i < l.length -> listed.getD i false = true := by
   intro i hi
   by_cases hl : listed.getD i false = true
   ·exact hl
   ·exfalso
    have : i ∈ (List.range l.length).filter fun i => !listed.getD i false := List.mem_filter.2 ⟨List.mem_range.2 hi, by simpa using hl⟩
    have := List.length_pos_of_mem this
    omega
  refine ⟨?_, atEnd listed a w γ h hall⟩
  unfold Region.ready
  rw [List.filter_eq_nil_iff]
  intro i hi
  have hi' : i < l.length := by simpa using hi
  have h1 := hall i hi'
  have : i < listed.size := by rw [h.size]; exact hi'
  simp [this] at h1 ⊢
  intro hx; rw [h1] at hx; cases hx
 | succ fuel ih =>
  intro listed a w γ h hc
  refine ⟨fun hr => atEnd listed a w γ h (full listed h.size hr), fun i hi => ?_⟩
  unfold Region.ready at hi
  obtain ⟨hi1, hi2⟩ := List.mem_filter.1 hi
  have hil : i < l.length := by simpa using hi1
  have ho : l.toArray[i]? = some l[i] := by simp [hil]
  have hisz : i < listed.size := by rw [h.size]; exact hil
  rw [ho] at hi2
  simp only [Option.map_some, Option.getD_some, Bool.and_eq_true, Bool.not_eq_true', Array.all_eq_true_iff_forall_mem, Bool.or_eq_true] at hi2
  obtain ⟨hu, qb⟩ := hi2
  have hu' : listed.getD i false = false := by simp [hisz] at hu ⊢; exact hu
  have hst := hs.get (i := i) (o := l[i]) (by simp [hil])
  rw [Nat.zero_add] at hst
  have hdeps : ∀ e ∈ (l[i]).after, Region.binds .any e = true -> listed.getD e.on false = true := fun e he hb => by
   rcases qb e he with h1 | h1
   ·rw [hb] at h1; cases h1
   ·exact h1
  have hcount : ((List.range l.length).filter fun j => !(listed.setIfInBounds i true).getD j false).length ≤ fuel := by
   have hsub : ((List.range l.length).filter fun j => !(listed.setIfInBounds i true).getD j false).length < ((List.range l.length).filter fun j => !listed.getD j false).length := by
    have e1 : ((List.range l.length).filter fun j => !(listed.setIfInBounds i true).getD j false) = (((List.range l.length).filter fun j => !listed.getD j false).filter fun j => !(j == i)) := by
     rw [List.filter_filter]
     congr 1
     funext j
     rw [getD_set listed i j hisz]
     cases listed.getD j false <;> cases (j == i) <;> rfl
    rw [e1]
    refine List.length_filter_lt_length_iff_exists.2 ⟨i, List.mem_filter.2 ⟨List.mem_range.2 hil, by rw [hu']; rfl⟩, by simp⟩
   omega
  have hnext : ∀ γ' v w', I γ' i v w' -> G γ' (dn (fun j => listed.getD j false) i) w' -> (∀ j, j ≠ i -> listed.getD j false = true -> ∀ u, I γ j u w -> I γ' j u w') -> wpAny P .any l.toArray Q fuel (listed.setIfInBounds i true) (a.put (l[i]).dst v) w' := by
   intro γ' v w' hI hG hst'
   refine ih _ _ _ γ' ⟨by simpa using h.size, by rw [put_size]; exact h.tsize, by rw [put_defers']; exact h.defers, ?_, ?_, ?_, ?_, ?_⟩ hcount
   ·intro j oj hj hl e he hb
    rw [getD_set listed i _ hisz] at hl ⊢
    by_cases hji : j = i
    ·subst hji
     rw [ho] at hj; cases hj
     rw [hdeps e he hb]; rfl
    ·have : (j == i) = false := by simpa using hji
     rw [this, Bool.or_false] at hl
     rw [h.closed j oj hj hl e he hb]; rfl
   ·intro j oj d hj hd hl
    rw [getD_set listed i _ hisz] at hl
    have hb : d < a.tmps.size := by rw [h.tsize]; exact hin' j oj d (by simpa using hj) hd
    by_cases hji : j = i
    ·subst hji
     rw [ho] at hj; cases hj
     have : (a.put (l[j]).dst v).eval (.tmp d) = v := by rw [hd]; simp [Act.eval, Act.put, hb]
     rw [this]; exact hI
    ·have hx : (j == i) = false := by simpa using hji
     rw [hx, Bool.or_false] at hl
     have hne : (l[i]).dst ≠ some d := fun e => hji (dst_inj hnd (by simpa using hj) (by simp [hil]) hd e)
     rw [eval_eq _ a d (put_tmps_ne a v hne)]
     exact hst' j hji hl _ (h.slots j oj d hj hd hl)
   ·intro j oj hj hd hl
    rw [getD_set listed i _ hisz] at hl
    by_cases hji : j = i
    ·subst hji; exact ⟨v, hI⟩
    ·have hx : (j == i) = false := by simpa using hji
     rw [hx, Bool.or_false] at hl
     obtain ⟨u, hu⟩ := h.mute j oj hj hd hl
     exact ⟨u, hst' j hji hl u hu⟩
   ·intro t ht
    have hne : (l[i]).dst ≠ some t := fun e => by
     have := ht i l[i] ho e
     rw [getD_set listed i _ hisz] at this
     simp at this
    rw [put_tmps_ne a v hne]
    refine h.other t fun j oj hj hd => ?_
    have := ht j oj hj hd
    rw [getD_set listed i _ hisz] at this
    simp only [Bool.or_eq_false_iff] at this
    exact this.1
   ·have : (fun j => (listed.setIfInBounds i true).getD j false) = dn (fun j => listed.getD j false) i := by
     funext j
     rw [getD_set listed i _ hisz]; rfl
    rw [this]; exact hG
  have hstep := hst γ (fun j => listed.getD j false) a w (wpAny P .any l.toArray Q fuel (listed.setIfInBounds i true)) hu'
   (fun j k hw hl => by
    cases hj : l.toArray[j]? with
    | none => rw [hj] at hw; cases hw
    | some oj =>
     rw [hj] at hw
     obtain ⟨e, he, hb, hk⟩ := waitsOn_spec hw
     rw [← hk]; exact h.closed j oj hj hl e he hb)
   (fun j d hd hl => by
    cases hj : l.toArray[j]? with
    | none => rw [hj] at hd; cases hd
    | some oj => rw [hj] at hd; have := h.slots j oj d hj hd hl; simpa [Act.eval] using this)
   (fun t ht => congrArg (·.getD undef) (h.other t (fun j oj hj hd => by
    have h1 := List.all_eq_true.1 ht oj (List.mem_of_getElem? (by simpa using hj))
    rw [hd] at h1; simp at h1)))
   (fun k hw => by
    obtain ⟨e, he, hb, hk⟩ := waitsOn_spec hw
    rw [← hk]; exact hdeps e he hb) h.glob hnext
  unfold wpOp
  rw [ho]
  simp only
  split
  ·rename_i hw; rw [if_pos hw] at hstep; exact .inl hstep
  ·rename_i hw; rw [if_neg hw] at hstep; exact hstep
theorem wp_region_ghost {id : Nat} {w : World} {Γ : Type} (I : Γ -> Nat -> Value -> World -> Prop) (G : Γ -> (Nat -> Bool) -> World -> Prop) (hm : P.follows .mixedOrders = true) (ht : tidy l a0.tmps.size = true)
  (γ0 : Γ) (h0 : G γ0 (fun _ => false) w.drew) (hs : StepsOkG P l.toArray Q a0 I G 0 l)
  (hend : ∀ (γ : Γ) (vs : Nat -> Value) (w' : World), (∀ j oj, l[j]? = some oj -> oj.dst ≠ none -> I γ j (vs j) w') -> (∀ j oj, l[j]? = some oj -> oj.dst = none -> ∃ u, I γ j u w') -> G γ (fun j => decide (j < l.length)) w' -> Q .normal (putAll vs 0 l a0) w') :
  (Code.region id l.toArray true).wp P Q a0 w := by
 refine wp_region_any hm (wpAny_ofG ht hs hend _ _ _ _ γ0 ?_ ?_)
 ·have hf : ∀ j, (Array.replicate l.toArray.size false).getD j false = false := fun j => by
   simp only [Array.getD_eq_getD_getElem?, Array.getElem?_replicate]
   split <;> rfl
  refine ⟨by simp, rfl, rfl, ?_, ?_, ?_, ?_, ?_⟩
  ·intro j oj hj hl; rw [hf] at hl; cases hl
  ·intro j oj d hj hd hl; rw [hf] at hl; cases hl
  ·intro j oj hj hd hl; rw [hf] at hl; cases hl
  ·intro t _; rfl
  ·have : (fun j => (Array.replicate l.toArray.size false).getD j false) = fun _ => false := funext hf
   rw [this]; exact h0
 ·exact Nat.le_trans (List.length_filter_le _ _) (by simp)
end
def Fact.keepN (P : Value -> World -> Prop) (hP : ∀ v w w', P v w -> Chg No w w' -> P v w') : Fact :=
 ⟨P, fun S _ => ∀ k, ¬ S k, fun S v w w' h hc hs => hP v w w' h (hc.mono (fun i _ e => hs i e)), fun _ _ e => e⟩
theorem OwnR.empty {w : World} {base e size b : Nat} (hb : base ≤ b) (h : Blk w b [] e) : OwnR w base e size (.slice (some ⟨b, 0, none⟩) 0 0) [] := by
 exact ⟨by simp, by simp, .inr ⟨b, 0, #[], rfl, hb, h, by simp, by simp [maxLen], by simp, by simp⟩⟩
theorem wp_appendEmpty {P : Program} {o : Oper} {a : Act} {w : World} {K : Act -> World -> Prop} {Q : Exit -> Act -> World -> Prop} {t e size bytes base : Nat} (hT : ElemTy P t e size bytes) {s x : Operand}
  (ho : o.op = .call { callee := .builtin .append, args := #[s, x], argTypes := #[t, t] }) {b : Nat} (hs : a.eval s = .slice (some ⟨b, 0, none⟩) 0 0) (hb : base ≤ b) (hblk : Blk w b [] e)
  {ok : Nat -> Prop} {xv : Value} {news : List (List Value)} (hxv : a.eval x = xv) (hx : RowAt ok w xv size news) (h1 : ∀ r ∈ news, r.all (·.oneCell') = true)
  (hn : news.length ≤ 1099511627776) (hby : bytes ≤ 128) (hbase : base ≤ w.heap.size)
  (h : ∀ v' w', OwnR w' base e size v' news -> Chg No w w' -> K (a.put o.dst v') w') : o.wp P a w K Q := by
 have hown : OwnR w base e size (.slice (some ⟨b, 0, none⟩) 0 0) [] := OwnR.empty hb hblk
 refine wp_appendRows hT ho hs hown hxv hx h1 (by simpa using hn) hby hbase fun v' w' hown' hc hv' hold => ?_
 refine h v' w' (by simpa using hown') ⟨hc.os, hc.tape, hc.output, hc.size, fun k hk _ => ?_⟩
 by_cases e1 : k = b
 ·subst e1
  have h2 : w.heap[k]? = _ := hblk
  rcases hold.2.2 with ⟨h3, -⟩ | ⟨g, cap, cur, h3, -, h4, -, -, h5, -⟩
  ·cases h3
  ·cases h3
   have h6 : cur = #[] := Array.eq_empty_of_size_eq_zero (by rw [h5]; simp)
   rw [h4, h6, h2]
 ·exact hc.block k hk (fun e2 => e1 (by have e3 : (some b : Option Nat) = some k := e2; exact (Option.some.inj e3).symm))
theorem wp_insertB {o : Oper} {a : Act} {w : World} {K' : Act -> World -> Prop} {Q : Exit -> Act -> World -> Prop} {m x v : Operand} (hop : o.op = Op.insert 67 m x v) {b n : Nat} {f : K -> Option Value} (hm : a.eval m = .map (some b)) (hb : MapB w b n f) (hn : n < maxLen)
  {k : K} {u : Value} (hx : a.eval x = .string k) (hk : k.size ≤ maxLen) (hv : a.eval v = u)
  (hK : ∀ w', MapB w' b (n + 1) (fun z => if z = k then some u else f z) -> Chg (· = b) w w' -> w'.heap.size = w.heap.size -> K' (a.put o.dst undef) w') : o.wp Tryz.prog a w K' Q := by
 obtain ⟨D, h1, h2⟩ := hb
 obtain ⟨w', hrun, r1, r2⟩ := h1.store keyed9 Tryz.underlying67 hn (keyOf_klit hk) (show RV u = some (.held u, []) from rfl)
 unfold Oper.wp
 simp [execOp, hop, hm, hx, hv, hrun, Result.andThen]
 refine hK w' ⟨_, r1, fun z => ?_⟩ ((Chg.grown r2.grown).mono (fun i _ e => (Option.some.inj e).symm)) ?_
 ·simp only [mv_put h1.isMap, h2]
 ·obtain ⟨es, c, es', c', e1, rfl⟩ := r2
  simp [ChangeMaps.setBlock]
structure AG (q : Nat) (mk : Value -> List Value) (ty : TypeId) (B e : Nat) (iv : Value) (rows : List (List Value)) (row : List Value) (wr w : World) (da ds : Bool) : Prop where
 chg : Chg (fun b => b = q ∨ iv.ownBlock = some b) wr w
 own : da = false -> OwnR w B e 1 iv rows
 box : ∃ l', Blk w q (mk l') ty /\ (ds = false -> l' = iv) /\ (ds = true -> OwnR w B e 1 l' (rows ++ [row]) /\ (l'.ownBlock = iv.ownBlock ∨ ∀ k, l'.ownBlock = some k -> wr.heap.size ≤ k))
def Fact.ownN (B e : Nat) (iv : Value) (rows : List (List Value)) (row : List Value) (wr : World) : Fact :=
 ⟨fun v w => OwnR w B e 1 v (rows ++ [row]) /\ (v.ownBlock = iv.ownBlock ∨ ∀ k, v.ownBlock = some k -> wr.heap.size ≤ k), fun S w => ∀ k, S k -> B ≤ k -> ¬ ∃ cur, w.heap[k]? = some (.cells cur e (0, 0)),
  fun S v w w' h hc hs => ⟨h.1.chg hc (fun k hk hS => by obtain ⟨h1, -, h2⟩ := h.1.elem hk; exact hs k hS h1 h2), h.2⟩, fun _ _ e => e.elim⟩
section
variable {q : Nat} {mk : Value -> List Value} {ty : TypeId} {B e : Nat} {iv : Value} {rows : List (List Value)} {row row' : List Value} {wr w w' : World} {da ds : Bool}
theorem AG.start (hown : OwnR wr B e 1 iv rows) (hb : Blk wr q (mk iv) ty) : AG q mk ty B e iv rows row wr wr.drew false false :=
 ⟨(Chg.refl _ wr).drew, fun _ => hown.chg ((Chg.refl No wr).drew) (fun _ _ e => e), iv, hb.drew, fun _ => rfl, fun e => (by cases e)⟩
theorem AG.rerow (g : AG q mk ty B e iv rows row wr w da false) : AG q mk ty B e iv rows row' wr w da false := by
 obtain ⟨l', h1, h2, h3⟩ := g.box
 exact ⟨g.chg, g.own, l', h1, h2, fun e => (by cases e)⟩
theorem OwnR.notTy {v : Value} {rs : List (List Value)} (h : OwnR w B e 1 v rs) (hne : e ≠ ty) {cs : List Value} (hb : Blk w q cs ty) : v.ownBlock ≠ some q := fun e1 => by
 obtain ⟨-, -, cur, h2⟩ := h.elem e1
 have h3 : w.heap[q]? = _ := hb
 rw [h3] at h2
 cases h2
 exact hne rfl
theorem AG.chgNo (g : AG q mk ty B e iv rows row wr w da ds) (hc : Chg No w w') : AG q mk ty B e iv rows row wr w' da ds := by
 obtain ⟨l', h1, h2, h3⟩ := g.box
 exact ⟨g.chg.trans' hc, fun e => (g.own e).chg hc (fun _ _ e => e), l', h1.chg hc id, h2, fun e => ⟨(h3 e).1.chg hc (fun _ _ e => e), (h3 e).2⟩⟩
theorem AG.chgNew {t : Nat} (g : AG q mk ty B e iv rows row wr w da false) (hc : Chg (· = t) w w') (ht : wr.heap.size ≤ t) (hq : t ≠ q) (hnt : ¬ ∃ cur, w.heap[t]? = some (.cells cur e (0, 0))) : AG q mk ty B e iv rows row wr w' da false := by
 obtain ⟨l', h1, h2, h3⟩ := g.box
 exact ⟨g.chg.trans hc (fun i hi e => by omega), fun e => (g.own e).chg hc (fun k hk e2 => hnt (e2 ▸ ((g.own e).elem hk).2.2)), l', h1.chg hc (fun e => hq e.symm), h2, fun e => (by cases e)⟩
theorem AG.app (g : AG q mk ty B e iv rows row wr w false false) (hne : e ≠ ty) (hc : Chg (fun b => iv.ownBlock = some b) w w') : AG q mk ty B e iv rows row wr w' true false := by
 obtain ⟨l', h1, h2, h3⟩ := g.box
 exact ⟨g.chg.trans hc (fun i _ e => .inr e), fun e => (by cases e), l', h1.chg hc (fun e => (g.own rfl).notTy hne h1 e), h2, fun e => (by cases e)⟩
theorem AG.store {v : Value} (g : AG q mk ty B e iv rows row wr w true false) (hne : e ≠ ty) (hb : Blk w' q (mk v) ty) (hc : Chg (· = q) w w') (hv : OwnR w B e 1 v (rows ++ [row])) (hvn : v.ownBlock = iv.ownBlock ∨ ∀ k, v.ownBlock = some k -> wr.heap.size ≤ k) : AG q mk ty B e iv rows row wr w' true true := by
 obtain ⟨l', h1, h2, h3⟩ := g.box
 exact ⟨g.chg.trans hc (fun i _ e => .inl e), fun e => (by cases e), v, hb, fun e => (by cases e), fun _ => ⟨hv.chg hc (fun k hk e => hv.notTy hne h1 (e ▸ hk)), hvn⟩⟩
end
theorem build154 (n v c a : K) (ta : Option Addr) (tn tc : Nat) (en : Bool) (w : World) : (Instr.build 154 #[(0, .string n), (1, .string v), (3, .string c), (7, .string a), (4, .slice ta tn tc), (5, .bool en)]).run Tryz.prog w =
  .ok (.agg #[.string n, .string v, .string ByteArray.empty, .string c, .slice ta tn tc, .bool en, .slice none 0 0, .string a]) w := by kernel_rfl
theorem run_build23_0 (w : World) : (Instr.buildSlice 23 0 #[]).run Tryz.prog w = .ok (.slice (some ⟨w.heap.size, 0, none⟩) 0 0) (w.alloc (.cells #[] 9)) := by kernel_rfl
theorem elem117 : ElemTy Tryz.prog 117 152 1 8 := by
 refine ⟨Tryz.underlying117, ?_, by decide⟩
 have h : (Tryz.prog.info? 152).map (fun i => (i.zero, i.size, i.bytes)) = some (some (.pointer none), 1, 8) := by kernel_rfl
 obtain ⟨i, h1, h2, h3, h4⟩ := info_parts h
 exact ⟨i, _, h1, h2, h3, h4, rfl⟩
def ChPost (ok : Nat -> Prop) (cs : List Value) (w : World) (p c L : Nat) (e : Ending) (w' : World) : Prop :=
 ∃ r : Bool, e = .returned (.bool r) /\ Chg (· = p) w w' /\ (r = true -> ∃ ch, ChJ ok w' cs ch /\ ChR L ch /\ cnt ch ≤ c /\ Blk w' p [.int .i64 ((c - cnt ch : Nat) : Int)] 3)
structure CL (ok : Nat -> Prop) (w : World) (p c L : Nat) (rows : List (List Value)) (W wr : World) (n : Nat) (js : List Ch) : Prop where
 le : n ≤ rows.length
 len : js.length = n
 val : ∀ (i : Nat) (r : List Value) (d : Ch), rows[i]? = some r -> js[i]? = some d -> ChJ (okB ok w) wr r d
 good : ∀ d ∈ js, ChR L d
 nd : (js.map Ch.name).Nodup
 cnt : 1 + cntL js ≤ c
 chg : Chg (· = p) W wr
 blk : Blk wr p [.int .i64 ((c - (1 + cntL js) : Nat) : Int)] 3
theorem CL.step {ok : Nat -> Prop} {w : World} {p c L : Nat} {rows : List (List Value)} {W wr : World} {n : Nat} {js : List Ch} (h : CL ok w p c L rows W wr n js) {r : List Value} (hr : rows[n]? = some r) {d : Ch} (hnp : ¬ ok p) {w' : World} (hv : ChJ (okB ok w) w' r d) (hw : ChR L d)
  (hnd : d.name ∉ js.map Ch.name) (hs : Go.Proofs.YtljaoopfomcaoaaGreatDoor.cnt d ≤ c - (1 + cntL js)) (hc : Chg (· = p) wr w') (hb : Blk w' p [.int .i64 ((c - (1 + cntL js) - Go.Proofs.YtljaoopfomcaoaaGreatDoor.cnt d : Nat) : Int)] 3) : CL ok w p c L rows W w' (n + 1) (js ++ [d]) := by
 have hlt : n < rows.length := (List.getElem?_eq_some_iff.1 hr).1
 have h1 := h.cnt
 have hsa : cntL (js ++ [d]) = cntL js + Go.Proofs.YtljaoopfomcaoaaGreatDoor.cnt d := by rw [cntL_append]; simp [cntL]
 refine ⟨hlt, by simp [h.len], fun i r' x hi hx => ?_, fun x hx => ?_, ?_, by rw [hsa]; omega, h.chg.trans hc (fun i _ e => e), by rw [hsa, show c - (1 + (cntL js + Go.Proofs.YtljaoopfomcaoaaGreatDoor.cnt d)) = c - (1 + cntL js) - Go.Proofs.YtljaoopfomcaoaaGreatDoor.cnt d by omega]; exact hb⟩
 ·by_cases hi2 : i < js.length
  ·rw [List.getElem?_append_left hi2] at hx
   exact (h.val i r' x hi hx).chg hc (fun b hb e => hnp (e ▸ hb.1))
  ·have : i = js.length := by
    have := (List.getElem?_eq_some_iff.1 hx).1
    simp at this
    omega
   subst this
   rw [List.getElem?_append_right (Nat.le_refl _), Nat.sub_self] at hx
   cases hx
   rw [h.len, hr] at hi
   cases hi
   exact hv
 ·rcases List.mem_append.1 hx with hx | hx
  ·exact h.good x hx
  ·rw [List.mem_singleton.1 hx]; exact hw
 ·rw [List.map_append]
  refine List.nodup_append.2 ⟨h.nd, by simp, fun a ha b hb e => ?_⟩
  have : b = d.name := by simpa using hb
  exact hnd (by rw [← this, ← e]; exact ha)
theorem apartW.symm {a b : Want} (h : apartW a b) : apartW b a := ⟨h.1.symm, h.2.1.symm, h.2.2.2.symm, h.2.2.1.symm⟩
theorem ch_raw_name {ok : Nat -> Prop} {w : World} {rn rv rk rb ri rf rt rkv rlv rdv rwv} {d : Ch} (h : ChJ ok w (cells11 rn rv rk rb ri rf rt rkv rlv rdv rwv) d) : d.name = rn := by
 cases h; rfl
theorem ChJ.of {ok : Nat -> Prop} {w : World} {name ver : K} {k : Int} {b : Bool} {i : Int} {f : Nat} {t : K} {kv lv dv wv : Value} {vals : J} {drows wrows : List (List Value)} {deps : List Ch} {wants : List Want}
  (hv : ValJ ok w (cells7 k b i f t kv lv) vals) (hd : RowAt ok w dv 11 drows) (hn : drows.length = deps.length) (h : ∀ (n : Nat) (r : List Value) (d : Ch), drows[n]? = some r -> deps[n]? = some d -> ChJ ok w r d)
  (hw : RowAt ok w wv 7 wrows) (hm : wrows.length = wants.length) (hx : ∀ (n : Nat) (r : List Value) (x : Want), wrows[n]? = some r -> wants[n]? = some x -> WantJ ok w r x) : ChJ ok w (cells11 name ver k b i f t kv lv dv wv) (.mk name ver vals deps wants) := .mk hv hd hn h hw hm hx
theorem chRight_any (L : Nat) : ∀ (ok : Nat -> Prop) (cs : List Value) (w : World) (p c : Nat), RawC ok w cs -> Blk w p [.int .i64 (c : Int)] 3 -> ¬ ok p -> c ≤ 40 -> L ≤ 4000 ->
  Calls Tryz.prog 72 #[.agg cs.toArray, .int .i64 (L : Int), .pointer (some ⟨p, 0, none⟩)] w (ChPost ok cs w p c L) := by
 induction L with
 | zero =>
  intro ok cs w p c h hp hnp hc hL
  obtain ⟨name, ver, k, b, i, f, t, kv, lv, dv, wv, rfl, -, -, -, -, -, -⟩ := h.cells
  have hc0 : (c : Int) ≤ 40 := by omega
  have hpc : w.cell? ⟨p, 0, none⟩ = some (.int .i64 (c : Int)) := hp.cell 0
  have hpf := hp.frozen 0
  have hpl := hp.lt
  have HP := Hd hp
  have hfacts : ∀ W, ((w.setCell ⟨p, 0, none⟩ (.int .i64 ((c : Int) - 1))).alloc (.cells (cells11 name ver k b i f t kv lv dv wv).toArray 30)) = W ->
    Blk W p [.int .i64 ((c : Int) - 1)] 3 /\ Chg (· = p) w W := by
   rintro W rfl
   obtain ⟨h1, h2, h3⟩ := HP.out.setCell 0 (.int .i64 ((c : Int) - 1))
   exact ⟨h1.alloc _, h2.alloc _⟩
  have HF := Hd hfacts
  clear hfacts hp h hc
  go_enter Tryz.func72, Tryz.ntmps72
  unfold cells11
  go_upto_region 2 with fail
  generalize hgw : World.alloc _ _ = W
  obtain ⟨b1, c1⟩ := HF.out W hgw
  clear hgw HF
  have HCS := Hd c1
  have q0 : W.cell? ⟨p, 0, none⟩ = some (.int .i64 ((c : Int) - 1)) := b1.cell 0
  clear b1 c1 hpc hpf
  by_cases h0 : (c : Int) - 1 < 0
  ·go_wp2
   go_ret
   exact ⟨false, rfl, HCS.out, fun h => by cases h⟩
  ·go_wp2
   go_ret
   exact ⟨false, rfl, HCS.out, fun h => by cases h⟩
 | succ L ih =>
  intro ok cs w p c h hp hnp hc hL
  have IH := Hd ih
  obtain ⟨name, ver, k, b, i, f, t, kv, lv, dv, wv, rfl, hsn, hsv, hv, ⟨hdcap, hwcap⟩, ⟨drows, hd, hdr⟩, ⟨wrows, xs, hw, hm, hwr, hws⟩⟩ := (h.mono (ok' := okB ok w) (fun b hb h => ⟨h, hb⟩)).cells
  have HSN := Hd hsn
  have HSV := Hd hsv
  have HV := Hd hv
  have HD := Hd hd
  have HDR := Hd hdr
  have HW := Hd hw
  have HM := Hd hm
  have HWR := Hd hwr
  have HWS := Hd hws
  have HNP := Hd hnp
  have HC := Hd hc
  have HL := Hd hL
  have hd1 := hd.1
  have hw1 := hw.1
  have hc0 : (c : Int) ≤ 40 := by omega
  have hL1 : ¬ (L : Int) + 1 < 1 := by omega
  have hL2 : decide ((L : Int) + 1 < 1) = false := decide_eq_false hL1
  obtain ⟨-, -, da, dc, rfl, -, -⟩ := hd
  obtain ⟨-, -, wa, wc_, rfl, -, -⟩ := hw
  have HDCAP := Hd (hdcap _ _ _ rfl)
  have HWCAP := Hd (hwcap _ _ _ rfl)
  clear hdcap hwcap
  unfold maxLen at hd1 hw1
  have hpc : w.cell? ⟨p, 0, none⟩ = some (.int .i64 (c : Int)) := hp.cell 0
  have hpf := hp.frozen 0
  have hpl := hp.lt
  have HP := Hd hp
  have hfacts : ∀ W, ((w.setCell ⟨p, 0, none⟩ (.int .i64 ((c : Int) - 1))).alloc (.cells (cells11 name ver k b i f t kv lv (.slice da drows.length dc) (.slice wa wrows.length wc_)).toArray 30)) = W ->
    Blk W p [.int .i64 ((c : Int) - 1)] 3 /\ Chg (· = p) w W /\ Blk W w.heap.size (cells11 name ver k b i f t kv lv (.slice da drows.length dc) (.slice wa wrows.length wc_)) 30 := by
   rintro W rfl
   obtain ⟨h1, h2, h3⟩ := HP.out.setCell 0 (.int .i64 ((c : Int) - 1))
   refine ⟨h1.alloc _, h2.alloc _, ?_⟩
   have h4 := Blk.new (w.setCell ⟨p, 0, none⟩ (.int .i64 ((c : Int) - 1))) (cells11 name ver k b i f t kv lv (.slice da drows.length dc) (.slice wa wrows.length wc_)) 30
   rwa [h3] at h4
  have HF := Hd hfacts
  have HPL := Hd hpl
  clear hfacts hp h hv hdr hm hwr hws hsn hsv hnp ih hL hc
  go_enter Tryz.func72, Tryz.ntmps72
  unfold cells11
  go_upto_region 2 with fail
  generalize hgw : World.alloc _ _ = W
  obtain ⟨b1, c1, bx⟩ := HF.out W hgw
  clear hgw HF
  have HB1 := Hd b1
  have HCS := Hd c1
  have HBX0 := Hd bx
  have q0 : W.cell? ⟨p, 0, none⟩ = some (.int .i64 ((c : Int) - 1)) := b1.cell 0
  clear b1 c1 bx hpc hpf hpl
  by_cases h0 : (c : Int) - 1 < 0
  ·go_wp2
   go_ret
   exact ⟨false, rfl, HCS.out, fun h => by cases h⟩
  have HC1 := Hd (show 1 ≤ c by omega)
  have HBN := Hd (show Blk W p [.int .i64 ((c - 1 : Nat) : Int)] 3 by rw [Int.natCast_sub HC1.out]; exact HB1.out)
  have HVW := Hd (HV.out.chg HCS.out (fun b hb e => HNP.out (e ▸ hb.1)))
  go_cut [65] from 22 to 65 (fun s65 wc => ∃ r : Bool, s65 = .bool r /\ Chg No W wc /\ (r = false -> (∃ j, ValJ (okB ok w) wc (cells7 k b i f t kv lv) j /\ Wf 400 50 j /\ sz j ≤ 400 /\ (j = .null ∨ isT j = true)) /\ PlainS name /\ Ver ver /\ drows.length ≤ 20))
  case first =>
   have b2 := HBX0.out.vals11
   go_wp2_with (first | (with_reducible refine wpList_loadAggG rfl agg26 rfl rfl b2 rfl ?_) | (with_reducible refine wpList_loadAgg rfl agg26 rfl rfl b2 rfl ?_))
   refine (right_any HVW.out 400 (by decide)).mono ?_
   rintro e w3 ⟨r1, rfl, hc3, hp3⟩
   have HC3 := Hd hc3
   have HP3 := Hd hp3
   clear hc3 hp3 b2
   cases r1 with
   | false =>
    go_wp2_with fail
    go_meet
    exact ⟨true, rfl, HC3.out, fun h => by cases h⟩
   | true =>
    obtain ⟨j, hj1, hj2, hj3⟩ := HP3.out rfl
    have HJK := Hd hj1.kindN
    have HJ := Hd (show ∀ w', Chg No w3 w' -> (j = .null ∨ isT j = true) -> ∃ j, ValJ (okB ok w) w' (cells7 k b i f t kv lv) j /\ Wf 400 50 j /\ sz j ≤ 400 /\ (j = .null ∨ isT j = true) from fun w' hc hk => ⟨j, hj1.chg hc (fun _ _ e => e), hj2.mono hj3 (Nat.le_refl _), hj3, hk⟩)
    have hbx := HBX0.out.chg HC3.out id
    have HBX3 := Hd hbx
    have q2 : w3.cell? ⟨w.heap.size, 2, none⟩ = some (.int .i64 k) := hbx.cell 2
    clear hj1 hj2 hj3 hbx
    by_cases hk0 : k = 0
    ·subst hk0
     have q3 : w3.cell? ⟨w.heap.size, 0, none⟩ = some (.string name) := HBX3.out.cell 0
     have HJ2 := Hd (fun w' hc => HJ.out w' hc (.inl (HJK.out.1 rfl)))
     go_wp2_with fail
     clear q2 q3
     refine (chPlain_any name HSN.out.ok _).mono ?_
     rintro e w5 ⟨r2, rfl, hw5, hp5⟩
     obtain rfl := hw5.symm
     have HP5 := Hd hp5
     clear hw5 hp5
     cases r2 with
     | false =>
      go_wp2_with fail
      go_meet
      exact ⟨true, rfl, HC3.out, fun h => by cases h⟩
     | true =>
      have q1 := HBX3.out.cell 1
      simp only [cells11, List.getElem?_cons_succ, List.getElem?_cons_zero] at q1
      go_wp2_with fail
      refine (version_any ver (by have := HSV.out; unfold kSm at this; omega) _).mono ?_
      rintro e w6 ⟨r3, rfl, hc6, hp6⟩
      have HC6 := Hd hc6
      have HP6 := Hd hp6
      have q9 := (HBX3.out.chg hc6 id).cell 9
      simp only [cells11, List.getElem?_cons_succ, List.getElem?_cons_zero] at q9
      clear hc6 hp6 q1
      cases r3 with
      | false =>
       go_wp2_with fail
       go_meet
       exact ⟨true, rfl, HC3.out.trans' HC6.out, fun h => by cases h⟩
      | true =>
       rcases Decidable.em ((20 : Int) < (drows.length : Int)) with h20 | h20
       ·go_wp2_with fail
        go_meet
        exact ⟨true, rfl, HC3.out.trans' HC6.out, fun h => by cases h⟩
       ·go_wp2_with fail
        go_meet
        exact ⟨false, by rw [decide_eq_false (by omega)], HC3.out.trans' HC6.out, fun _ => ⟨HJ2.out _ HC6.out, HP5.out trivial, HP6.out trivial, by omega⟩⟩
    ·have hk0b : (k != 0) = true := by simpa using hk0
     have b2 := HBX3.out.vals11
     clear hk0
     go_wp2_with (first | (with_reducible refine wpList_loadAggG rfl agg26 rfl rfl b2 rfl ?_) | (with_reducible refine wpList_loadAgg rfl agg26 rfl rfl b2 rfl ?_))
     refine (isTable_any k i b f t kv lv w3).mono ?_
     rintro e w4 ⟨rfl, hc4⟩
     have HC4 := Hd hc4
     clear hc4 b2 q2
     by_cases hk7 : k = 7
     ·subst hk7
      have HJ2 := Hd (fun w' hc => HJ.out w' hc (.inr (HJK.out.2.1 rfl)))
      have HC3 := Hd (HC3.out.trans' HC4.out)
      have HJ2 := Hd (fun w' (hc : Chg No w4 w') => HJ2.out w' (HC4.out.trans' hc))
      have HBX3 := Hd (HBX3.out.chg HC4.out id)
      have q3 : w4.cell? ⟨w.heap.size, 0, none⟩ = some (.string name) := HBX3.out.cell 0
      go_wp2_with fail
      clear q3 hk0b
      refine (chPlain_any name HSN.out.ok _).mono ?_
      rintro e w5 ⟨r2, rfl, hw5, hp5⟩
      obtain rfl := hw5.symm
      have HP5 := Hd hp5
      clear hw5 hp5
      cases r2 with
      | false =>
       go_wp2_with fail
       go_meet
       exact ⟨true, rfl, HC3.out, fun h => by cases h⟩
      | true =>
       have q1 := HBX3.out.cell 1
       simp only [cells11, List.getElem?_cons_succ, List.getElem?_cons_zero] at q1
       go_wp2_with fail
       refine (version_any ver (by have := HSV.out; unfold kSm at this; omega) _).mono ?_
       rintro e w6 ⟨r3, rfl, hc6, hp6⟩
       have HC6 := Hd hc6
       have HP6 := Hd hp6
       have q9 := (HBX3.out.chg hc6 id).cell 9
       simp only [cells11, List.getElem?_cons_succ, List.getElem?_cons_zero] at q9
       clear hc6 hp6 q1
       cases r3 with
       | false =>
        go_wp2_with fail
        go_meet
        exact ⟨true, rfl, HC3.out.trans' HC6.out, fun h => by cases h⟩
       | true =>
        rcases Decidable.em ((20 : Int) < (drows.length : Int)) with h20 | h20
        ·go_wp2_with fail
         go_meet
         exact ⟨true, rfl, HC3.out.trans' HC6.out, fun h => by cases h⟩
        ·go_wp2_with fail
         go_meet
         exact ⟨false, by rw [decide_eq_false (by omega)], HC3.out.trans' HC6.out, fun _ => ⟨HJ2.out _ HC6.out, HP5.out trivial, HP6.out trivial, by omega⟩⟩
     ·have hk7b : (k == 7) = false := by simpa using hk7
      clear hk7
      go_wp2_with fail
      go_meet
      exact ⟨true, rfl, HC3.out.trans' HC4.out, fun h => by cases h⟩
  case rest =>
   obtain ⟨r, rfl, hcw, hgood⟩ := hcut
   have HCW := Hd hcw
   have HGOOD := Hd hgood
   clear hcw hgood q0
   cases r with
   | true =>
    go_wp2
    go_ret
    exact ⟨false, rfl, HCS.out.trans' HCW.out, fun h => by cases h⟩
   | false =>
    obtain ⟨⟨vals, hvv, hvw, hvs, hvk⟩, hpn, hvr, h20⟩ := HGOOD.out rfl
    have HVV := Hd hvv
    have HVG := Hd (show Wf 400 50 vals /\ sz vals ≤ 400 /\ (vals = .null ∨ isT vals = true) from ⟨hvw, hvs, hvk⟩)
    have HPN := Hd hpn
    have HVR := Hd hvr
    have HBXC := Hd (HBX0.out.chg HCW.out id)
    have HBP := Hd (HBN.out.chg HCW.out id)
    have HCS := Hd (HCS.out.trans' HCW.out)
    have q9 : wc.cell? ⟨w.heap.size, 9, none⟩ = some (.slice da drows.length dc) := HBXC.out.cell 9
    have HPX := Hd (show p ≠ w.heap.size by have := HPL.out; omega)
    clear hvv hvw hvs hvk hpn hvr HGOOD
    go_wp2_with fail
    clear q9
    go_loopw [69] (fun ct wr => ∃ (n : Nat) (js : List Ch), ct = .int .i64 n /\ CL ok w p c L drows wc wr n js) (fun ct _ => drows.length - (intOf ct).toNat)
    case atStart => exact ⟨0, [], rfl, Nat.zero_le _, rfl, fun i r x _ h => (by simp at h), fun x h => (by cases h), by simp, by have := HC1.out; simp [cntL]; omega, Chg.refl _ _, HBP.out⟩
    case round =>
     obtain ⟨n, js, rfl, qd⟩ := hrel
     have HCL := Hd qd
     clear qd
     by_cases hlt : n < drows.length
     ·obtain ⟨r, hr0⟩ : ∃ r, drows[n]? = some r := ⟨_, List.getElem?_eq_getElem hlt⟩
      have hraw := HDR.out r (List.mem_of_getElem? hr0)
      have HRAW := Hd (hraw.chg HCS.out (fun b hb e => HNP.out (e ▸ hb.1)))
      obtain ⟨lb, lo, rfl, hlok, hlc⟩ := HD.out.at (i := n) (r := r) hr0
      have hlc := (hlc.chg HCS.out (fun e => HNP.out (e ▸ hlok.1))).chg HCL.out.chg (fun e => HNP.out (e ▸ hlok.1))
      obtain ⟨hrl, hro⟩ := hraw.one
      obtain ⟨rn, rv, rk, rb, ri, rf, rt, rkv, rlv, rdv, rwv, rfl, -, -, -, -, -, -⟩ := hraw.cells
      have HR0 := Hd hr0
      have h64 : (n : Int) < (drows.length : Int) := by omega
      have hcap : (n : Int) ≤ (dc : Int) := by have := HDCAP.out; omega
      have hcn : dc ≠ 0 := by have := HDCAP.out; omega
      have k9 : (wr.alloc (.cells (cells11 rn rv rk rb ri rf rt rkv rlv rdv rwv).toArray 30)).cell? ⟨w.heap.size, 9, none⟩ = some (.slice (some ⟨lb, lo, none⟩) drows.length dc) := ((HBXC.out.chg HCL.out.chg (fun e => HPX.out e.symm)).alloc _).cell 9
      obtain ⟨g8, hg8⟩ : ∃ g, g = wr.heap.size := ⟨_, rfl⟩
      have HG8 := Hd hg8
      clear hr0 hlok hg8
      go_upto_region 8 with (first | (with_reducible refine wpList_loadAgg rfl agg30 rfl rfl hlc hrl ?_) | (with_reducible refine wpList_storeNew rfl agg30 rfl rfl rfl rfl hrl hro ?_))
      obtain ⟨W2, hW2⟩ : ∃ W2, W2 = wr.alloc (.cells (cells11 rn rv rk rb ri rf rt rkv rlv rdv rwv).toArray 30) := ⟨_, rfl⟩
      have hb8 := Blk.newAt HG8.out (cells11 rn rv rk rb ri rf rt rkv rlv rdv rwv) 30
      rw [← hW2] at hb8 ⊢
      rw [← HG8.out]
      have HB8 := Hd hb8
      have HC2 := Hd (show Chg No wr W2 by rw [hW2]; exact (Chg.refl No wr).alloc _)
      clear k9 hb8 hW2 hlc hrl hro
      go_loopw [79] (fun ct wr => ∃ m : Nat, ct = .int .i64 m /\ m ≤ n /\ (∀ d ∈ js.take m, d.name ≠ rn) /\ Chg No W2 wr) (fun ct _ => n - (intOf ct).toNat)
      case atStart => exact ⟨0, rfl, Nat.zero_le _, by simp, Chg.refl _ _⟩
      case round =>
       obtain ⟨m, rfl, hmn, hnot, hc3⟩ := hrel
       have HNOT := Hd hnot
       have HC3 := Hd hc3
       clear hnot hc3
       by_cases hlm : m < n
       ·obtain ⟨r2, hr2⟩ : ∃ r, drows[m]? = some r := ⟨_, List.getElem?_eq_getElem (by omega)⟩
        obtain ⟨d2, hd2⟩ : ∃ d, js[m]? = some d := ⟨_, List.getElem?_eq_getElem (by rw [HCL.out.len]; exact hlm)⟩
        have hch2 := HCL.out.val m r2 d2 hr2 hd2
        have HD2 := Hd hd2
        obtain ⟨lb2, lo2, he2, hlok2, hlc2⟩ := HD.out.at (i := m) (r := r2) hr2
        cases he2
        have hlc2 := (((hlc2.chg HCS.out (fun e => HNP.out (e ▸ hlok2.1))).chg HCL.out.chg (fun e => HNP.out (e ▸ hlok2.1))).chg HC2.out id).chg HC3.out id
        obtain ⟨hrl2, hro2⟩ := hch2.one
        obtain ⟨rn2, rv2, rk2, rb2, ri2, rf2, rt2, rkv2, rlv2, rdv2, rwv2, rfl, hnm2, -⟩ := hch2.cells
        have HNM2 := Hd hnm2
        have h66 : (m : Int) < (n : Int) := by omega
        clear hr2 hd2 hch2 hnm2 hlok2
        have k8 : (wr.alloc (.cells (cells11 rn2 rv2 rk2 rb2 ri2 rf2 rt2 rkv2 rlv2 rdv2 rwv2).toArray 30)).cell? ⟨g8, 0, none⟩ = some (.string rn) := ((HB8.out.chg HC3.out id).alloc _).cell 0
        have q8 : (wr.alloc (.cells (cells11 rn2 rv2 rk2 rb2 ri2 rf2 rt2 rkv2 rlv2 rdv2 rwv2).toArray 30)).cell? ⟨wr.heap.size, 0, none⟩ = some (.string rn2) := (Blk.new wr _ 30).cell 0
        by_cases heq : rn = rn2
        ·have hkb : (rn.toList == rn2.toList) = true := by rw [toList_beq]; simpa using heq
         clear heq
         go_wp2_with (first | (with_reducible refine wpList_loadAgg rfl agg30 rfl rfl hlc2 hrl2 ?_) | (with_reducible refine wpList_storeNew rfl agg30 rfl rfl rfl rfl hrl2 hro2 ?_))
         go_ret
         exact ⟨false, rfl, (((HCS.out.trans HCL.out.chg (fun _ _ e => e)).trans' HC2.out).trans' HC3.out).alloc _, fun h => by cases h⟩
        ·have hkb : (rn.toList == rn2.toList) = false := by rw [toList_beq]; simpa using heq
         have HNE := Hd heq
         clear heq
         go_wp2_with (first | (with_reducible refine wpList_loadAgg rfl agg30 rfl rfl hlc2 hrl2 ?_) | (with_reducible refine wpList_storeNew rfl agg30 rfl rfl rfl rfl hrl2 hro2 ?_))
         go_roundw
         case rel => exact ⟨m + 1, by go_num, by omega, mem_take_succ HD2.out HNOT.out (by rw [HNM2.out]; exact fun e => HNE.out e.symm), HC3.out.alloc _⟩
         case measure => simp [intOf]; omega
       ·have h66 : ¬ (m : Int) < (n : Int) := by omega
        have HNIN := Hd (show rn ∉ js.map Ch.name from fun hm => by
         obtain ⟨d, hd, he⟩ := List.mem_map.1 hm
         exact mem_take_all (P := fun d => Ch.name d ≠ rn) (by rw [HCL.out.len]; omega) HNOT.out d hd he)
        have b8 := (HB8.out.chg HC3.out id).cells
        have HCR := Hd (HC2.out.trans' HC3.out)
        have hLb : (L : Int) ≤ 4000 := by have := HL.out; omega
        go_wp2_with (first | (with_reducible refine wpList_loadAgg rfl agg30 rfl rfl b8 rfl ?_))
        clear hLb
        have hcall := IH.out (okB ok w) (cells11 rn rv rk rb ri rf rt rkv rlv rdv rwv) wr p (c - (1 + cntL js)) (((HRAW.out.chg HCL.out.chg (fun b hb e => HNP.out (e ▸ hb.1))).chg HCR.out (fun _ _ e => e)).mono (fun b _ h => h)) (HCL.out.blk.chg HCR.out id) (fun h => HNP.out h.1) (by have := HC.out; omega) (by have := HL.out; omega)
        refine Calls.mono hcall ?_
        rintro e w7 ⟨rr, rfl, hc7, hp7⟩
        have HC7 := Hd ((HCR.out.mono (S' := (· = p)) (fun _ _ e => e.elim)).trans hc7 (fun _ _ e => e))
        have HP7 := Hd hp7
        clear hc7 hp7 hcall b8
        cases rr with
        | false =>
         go_wp2
         go_ret
         exact ⟨false, rfl, (HCS.out.trans HCL.out.chg (fun _ _ e => e)).trans HC7.out (fun _ _ e => e), fun h => by cases h⟩
        | true =>
         have hst : ∃ d, CL ok w p c L drows wc w7 (n + 1) (js ++ [d]) := by
          obtain ⟨d, h1, h2, h3, h4⟩ := HP7.out rfl
          exact ⟨d, HCL.out.step HR0.out HNP.out h1 h2 (by rw [ch_raw_name h1]; exact HNIN.out) h3 HC7.out h4⟩
         have HST := Hd hst
         clear hst
         go_wp2_with fail
         go_roundw
         case rel =>
          obtain ⟨d, hd⟩ := HST.out
          exact ⟨n + 1, js ++ [d], by go_num, hd⟩
         case measure => simp [intOf]; omega
     ·have hnl : n = drows.length := Nat.le_antisymm HCL.out.le (Nat.not_lt.1 hlt)
      subst hnl
      have h64 : ¬ ((drows.length : Nat) : Int) < (drows.length : Int) := by omega
      have HB0 := Hd (HBXC.out.chg HCL.out.chg (fun e => HPX.out e.symm))
      have HCS := Hd (HCS.out.trans HCL.out.chg (fun _ _ e => e))
      have q10 : wr.cell? ⟨w.heap.size, 10, none⟩ = some (.slice wa wrows.length wc_) := HB0.out.cell 10
      obtain ⟨W3, hW3⟩ : ∃ W3, W3 = wr := ⟨_, rfl⟩
      have HCL3 := Hd (show CL ok w p c L drows wc W3 drows.length js by rw [hW3]; exact HCL.out)
      rw [← hW3] at q10 HB0 HCS ⊢
      clear hW3 HCL
      go_wp2_with fail
      clear q10
      go_loopw [99] (fun ct wr => ∃ n : Nat, ct = .int .i64 n /\ n ≤ wrows.length /\ n ≤ c - (1 + cntL js) /\ (∀ x ∈ xs.take n, WantR x) /\ (xs.take n).Pairwise (fun a b => apartW b a) /\ (∀ x ∈ xs.take n, ∀ d ∈ js, x.alias_ ≠ d.name) /\ Chg (· = p) W3 wr /\ Blk wr p [.int .i64 ((c - (1 + cntL js) - n : Nat) : Int)] 3) (fun ct _ => wrows.length - (intOf ct).toNat)
      case atStart => exact ⟨0, rfl, Nat.zero_le _, Nat.zero_le _, by simp, by simp, by simp, Chg.refl _ _, HCL3.out.blk⟩
      case round =>
       obtain ⟨n, rfl, hnw, hnc, hgood, hpw, hal, hc3, hb3⟩ := hrel
       have HGOOD := Hd hgood
       have HPW := Hd hpw
       have HAL := Hd hal
       have HC3 := Hd hc3
       have HB3 := Hd hb3
       have HNC := Hd hnc
       clear hgood hpw hal hc3 hb3 hnc
       by_cases hlt : n < wrows.length
       ·obtain ⟨r, hr0⟩ : ∃ r, wrows[n]? = some r := ⟨_, List.getElem?_eq_getElem hlt⟩
        obtain ⟨x, hx⟩ : ∃ x, xs[n]? = some x := ⟨_, List.getElem?_eq_getElem (by rw [← HM.out]; exact hlt)⟩
        have hwj := HWR.out n r x hr0 hx
        have hws := HWS.out x (List.mem_of_getElem? hx)
        obtain ⟨lb, lo, rfl, hlok, hlc⟩ := HW.out.at (i := n) (r := r) hr0
        have hlc := (hlc.chg HCS.out (fun e => HNP.out (e ▸ hlok.1))).chg HC3.out (fun e => HNP.out (e ▸ hlok.1))
        obtain ⟨hrl, hro⟩ := hwj.len
        obtain ⟨xtv, xiv, rfl, htv, hiv⟩ := hwj
        have HSM := Hd hws
        have HX := Hd hx
        have hiv1 := hiv.1
        obtain ⟨-, -, ia, ic, rfl, -, -⟩ := hiv
        simp only [impRows, List.length_map] at hiv1 hlc hrl hro
        unfold maxLen at hiv1
        obtain ⟨m, hmdef⟩ : ∃ m, m = c - (1 + cntL js) - n := ⟨_, rfl⟩
        have HMD := Hd hmdef
        have hb3 := HB3.out
        rw [← hmdef] at hb3
        have HB3m := Hd hb3
        have hm40 : (m : Int) ≤ 40 := by have := HC.out; omega
        have hpc : wr.cell? ⟨p, 0, none⟩ = some (.int .i64 (m : Int)) := hb3.cell 0
        have hpf := hb3.frozen 0
        have hpl := hb3.lt
        have h64 : (n : Int) < (wrows.length : Int) := by omega
        have hfacts : ∀ W, ((wr.setCell ⟨p, 0, none⟩ (.int .i64 ((m : Int) - 1))).alloc (.cells (cellsW x xtv (.slice ia x.imports.length ic)).toArray 79)) = W ->
          Blk W p [.int .i64 ((m : Int) - 1)] 3 /\ Chg (· = p) wr W /\ Blk W wr.heap.size (cellsW x xtv (.slice ia x.imports.length ic)) 79 := by
         rintro W rfl
         obtain ⟨h1, h2, h3⟩ := HB3m.out.setCell 0 (.int .i64 ((m : Int) - 1))
         refine ⟨h1.alloc _, h2.alloc _, ?_⟩
         have h4 := Blk.new (wr.setCell ⟨p, 0, none⟩ (.int .i64 ((m : Int) - 1))) (cellsW x xtv (.slice ia x.imports.length ic)) 79
         rwa [h3] at h4
        have HF := Hd hfacts
        have HGX := Hd (show p ≠ wr.heap.size by omega)
        clear hx hr0 hws hlok htv hmdef hb3 hfacts
        go_upto_region 20 with (first | (with_reducible refine wpList_loadAgg rfl agg79 rfl rfl hlc hrl ?_) | (with_reducible refine wpList_storeNew rfl agg79 rfl rfl rfl rfl hrl hro ?_))
        generalize hgw : World.alloc _ _ = W5
        obtain ⟨b5, c5, bx5⟩ := HF.out W5 hgw
        clear hgw HF
        obtain ⟨gx, hgx⟩ : ∃ g, g = wr.heap.size := ⟨_, rfl⟩
        rw [← hgx] at bx5 HGX ⊢
        have HB5 := Hd b5
        have HCS5 := Hd (HC3.out.trans c5 (fun _ _ e => e))
        have HBX5 := Hd bx5
        have q0 : W5.cell? ⟨p, 0, none⟩ = some (.int .i64 ((m : Int) - 1)) := b5.cell 0
        clear b5 c5 bx5 hpc hpf hpl hgx hlc hrl hro
        by_cases h0 : (m : Int) - 1 < 0
        ·go_wp2
         go_ret
         exact ⟨false, rfl, HCS.out.trans HCS5.out (fun _ _ e => e), fun h => by cases h⟩
        have HM1 := Hd (show 1 ≤ m by omega)
        have HBN5 := Hd (show Blk W5 p [.int .i64 ((m - 1 : Nat) : Int)] 3 by rw [Int.natCast_sub HM1.out]; exact HB5.out)
        go_cut [99, 141] from 99 to 191 (fun s99 s141 wc6 => s99 = .int .i64 n /\ ∃ r : Bool, s141 = .bool r /\ Chg No W5 wc6 /\ (r = false -> WantR x))
        case first =>
         have x6 : W5.cell? ⟨gx, 6, none⟩ = some (.slice ia x.imports.length ic) := HBX5.out.cell 6
         have x0 : W5.cell? ⟨gx, 0, none⟩ = some (.string x.name) := HBX5.out.cell 0
         rcases Decidable.em ((20 : Int) < (x.imports.length : Int)) with h20 | h20
         ·go_wp2_with fail
          go_meet
          exact ⟨rfl, true, rfl, Chg.refl _ _, fun h => by cases h⟩
         have h20b : decide ((20 : Int) < (x.imports.length : Int)) = false := decide_eq_false h20
         have H20 := Hd (show x.imports.length ≤ 20 by omega)
         clear h20
         go_wp2_with fail
         refine (chPlain_any x.name HSM.out.name.ok _).mono ?_
         rintro e w6 ⟨r2, rfl, hw6, hp6⟩
         obtain rfl := hw6.symm
         have HP6 := Hd hp6
         clear hw6 hp6 x6 x0
         cases r2 with
         | false =>
          go_wp2_with fail
          go_meet
          exact ⟨rfl, true, rfl, Chg.refl _ _, fun h => by cases h⟩
         | true =>
          have x1 : W5.cell? ⟨gx, 1, none⟩ = some (.string x.version) := HBX5.out.cell 1
          go_wp2_with fail
          refine (version_any x.version (by have := HSM.out.ver; unfold kSm at this; omega) _).mono ?_
          rintro e w7 ⟨r3, rfl, hc7, hp7⟩
          have HC7 := Hd hc7
          have HP7 := Hd hp7
          have x3 : w7.cell? ⟨gx, 3, none⟩ = some (.string x.alias_) := (HBX5.out.chg hc7 id).cell 3
          clear hc7 hp7 x1
          cases r3 with
          | false =>
           go_wp2_with fail
           go_meet
           exact ⟨rfl, true, rfl, HC7.out, fun h => by cases h⟩
          | true =>
           by_cases ha : x.alias_ = ByteArray.empty
           ·have hab : (x.alias_.toList == []) = true := by rw [lit0_beq]; simpa using ha
            have HA := Hd ha
            clear ha
            go_wp2_with fail
            go_meet
            exact ⟨rfl, false, rfl, HC7.out, fun _ => ⟨HSM.out, H20.out, HP6.out trivial, HP7.out trivial, .inl HA.out⟩⟩
           ·have hab : (x.alias_.toList == []) = false := by rw [lit0_beq]; simpa using ha
            clear ha
            go_wp2_with fail
            refine (chPlain_any x.alias_ HSM.out.ali.ok _).mono ?_
            rintro e w8 ⟨r4, rfl, hw8, hp8⟩
            obtain rfl := hw8.symm
            have HP8 := Hd hp8
            clear hw8 hp8 x3
            cases r4 with
            | false =>
             go_wp2_with fail
             go_meet
             exact ⟨rfl, true, rfl, HC7.out, fun h => by cases h⟩
            | true =>
             go_wp2_with fail
             go_meet
             exact ⟨rfl, false, rfl, HC7.out, fun _ => ⟨HSM.out, H20.out, HP6.out trivial, HP7.out trivial, .inr (HP8.out trivial)⟩⟩
        case rest =>
         obtain ⟨rfl, r, rfl, hc6, hwr6⟩ := hcut
         have HC6 := Hd hc6
         have HWR6 := Hd hwr6
         clear hc6 hwr6 q0
         cases r with
         | true =>
          go_wp2
          go_ret
          exact ⟨false, rfl, (HCS.out.trans HCS5.out (fun _ _ e => e)).trans' HC6.out, fun h => by cases h⟩
         | false =>
          have HWX := Hd (HWR6.out rfl)
          have HCS6 := Hd (HCS5.out.trans' HC6.out)
          have HB6 := Hd (HBN5.out.chg HC6.out id)
          have HBX := Hd (HBX5.out.chg HC6.out id)
          have HB06 := Hd (HB0.out.chg HCS6.out (fun e => HPX.out e.symm))
          have q10 : wc.cell? ⟨w.heap.size, 10, none⟩ = some (.slice (some ⟨lb, lo, none⟩) wrows.length wc_) := HB06.out.cell 10
          have hcap : (n : Int) ≤ (wc_ : Int) := by have := HWCAP.out; omega
          have hcn : wc_ ≠ 0 := by have := HWCAP.out; omega
          clear HWR6 HB3m HCS5 HBX5 HB5 HBN5 HC6
          go_wp2_with fail
          clear q10 hcap hcn
          go_loopw [147] (fun ct wr => ∃ m2 : Nat, ct = .int .i64 m2 /\ m2 ≤ n /\ (∀ y ∈ xs.take m2, apartW x y) /\ Chg No wc wr) (fun ct _ => n - (intOf ct).toNat)
          case atStart => exact ⟨0, rfl, Nat.zero_le _, by simp, Chg.refl _ _⟩
          case round =>
           obtain ⟨m2, rfl, hm2, hap, hc7⟩ := hrel
           have HAP := Hd hap
           have HC7 := Hd hc7
           clear hap hc7
           by_cases hlm : m2 < n
           ·obtain ⟨r2, hr2⟩ : ∃ r, wrows[m2]? = some r := ⟨_, List.getElem?_eq_getElem (by omega)⟩
            obtain ⟨y, hy⟩ : ∃ y, xs[m2]? = some y := ⟨_, List.getElem?_eq_getElem (by rw [← HM.out]; omega)⟩
            have hwj2 := HWR.out m2 r2 y hr2 hy
            obtain ⟨lb2, lo2, he2, hlok2, hlc2⟩ := HW.out.at (i := m2) (r := r2) hr2
            cases he2
            have hlc2 := ((hlc2.chg HCS.out (fun e => HNP.out (e ▸ hlok2.1))).chg HCS6.out (fun e => HNP.out (e ▸ hlok2.1))).chg HC7.out id
            obtain ⟨hrl2, hro2⟩ := hwj2.len
            obtain ⟨ytv, yiv, rfl, -, -⟩ := hwj2
            have HY := Hd hy
            have h66 : (m2 : Int) < (n : Int) := by omega
            clear hr2 hy hlok2
            obtain ⟨gy, hgy⟩ : ∃ g, g = wr.heap.size := ⟨_, rfl⟩
            have HGY := Hd hgy
            clear hgy
            go_upto_region 25 with (first | (with_reducible refine wpList_loadAgg rfl agg79 rfl rfl hlc2 hrl2 ?_) | (with_reducible refine wpList_storeNew rfl agg79 rfl rfl rfl rfl hrl2 hro2 ?_))
            obtain ⟨wx, hwx⟩ : ∃ wx, wx = wr.alloc (.cells (cellsW y ytv yiv).toArray 79) := ⟨_, rfl⟩
            have hby := Blk.newAt HGY.out (cellsW y ytv yiv) 79
            rw [← hwx] at hby ⊢
            rw [← HGY.out]
            have HBY := Hd hby
            have HCX := Hd (show Chg No wr wx by rw [hwx]; exact (Chg.refl No wr).alloc _)
            have HBX := Hd (HBX.out.chg (HC7.out.trans' HCX.out) id)
            clear hby hwx hlc2 hrl2 hro2
            obtain ⟨b1, hb1⟩ : ∃ b, (x.name.toList == y.name.toList) = b := ⟨_, rfl⟩
            obtain ⟨b2, hb2⟩ : ∃ b, ((named x).toList == (named y).toList) = b := ⟨_, rfl⟩
            obtain ⟨b3, hb3⟩ : ∃ b, (x.name.toList == (named y).toList) = b := ⟨_, rfl⟩
            obtain ⟨b4, hb4⟩ : ∃ b, ((named x).toList == y.name.toList) = b := ⟨_, rfl⟩
            have HB1 := Hd hb1
            have HB2 := Hd hb2
            have HB3 := Hd hb3
            have HB4 := Hd hb4
            clear hb1 hb2 hb3 hb4
            refine wp_region_inv (FI [.eq (.pointer (some ⟨gx, 0, none⟩)), .eq (.string x.name), .eq (.pointer (some ⟨gy, 0, none⟩)), .eq (.string y.name), .eq (.bool b1), .eq (.bool b1), .unless b1 (.eq (.agg (cellsW x xtv (.slice ia x.imports.length ic)).toArray)), .unless b1 (.eq (.string (named x))), .unless b1 (.eq (.agg (cellsW y ytv yiv).toArray)), .unless b1 (.eq (.string (named y))), .unless b1 (.eq (.bool b2)), .eq (.bool (b1 || b2)), .eq (.bool (b1 || b2)), .unless (b1 || b2) (.eq (.pointer (some ⟨gx, 0, none⟩))), .unless (b1 || b2) (.eq (.string x.name)), .unless (b1 || b2) (.eq (.agg (cellsW y ytv yiv).toArray)), .unless (b1 || b2) (.eq (.string (named y))), .unless (b1 || b2) (.eq (.bool b3)), .eq (.bool ((b1 || b2) || b3)), .eq (.bool (b1 || b2 || b3)), .unless (b1 || b2 || b3) (.eq (.agg (cellsW x xtv (.slice ia x.imports.length ic)).toArray)), .unless (b1 || b2 || b3) (.eq (.string (named x))), .unless (b1 || b2 || b3) (.eq (.pointer (some ⟨gy, 0, none⟩))), .unless (b1 || b2 || b3) (.eq (.string y.name)), .unless (b1 || b2 || b3) (.eq (.bool b4)), .eq (.bool ((b1 || b2 || b3) || b4))])
             (fun done w' => Chg No wx w') (by kernel_rfl) (by kernel_rfl) ((Chg.refl No _).drew) ?_ ?_
            ·refine ⟨?_, ?_, ?_, ?_, ?_, ?_, ?_, ?_, ?_, ?_, ?_, ?_, ?_, ?_, ?_, ?_, ?_, ?_, ?_, ?_, ?_, ?_, ?_, ?_, ?_, ?_, trivial⟩
             ·intro done a w1 K hd qd qe qf qb hG hK
              have e12 : a.tmps[12]?.getD undef = .pointer (some ⟨gx, 0, none⟩) := qf 12 rfl
              clear qd qe qf qb
              go_simp
              exact hK _ _ rfl (hG.trans' (Chg.refl No _)) (fun _ _ _ _ h => h)
             ·intro done a w1 K hd qd qe qf qb hG hK
              have e151 : a.tmps[151]?.getD undef = .pointer (some ⟨gx, 0, none⟩) := qe 0 151 rfl (qb 0 rfl)
              have c0 : w1.cell? ⟨gx, 0, none⟩ = some (.string x.name) := (HBX.out.chg hG id).cell 0
              clear qd qe qf qb
              go_simp
              exact hK _ _ rfl (hG.trans' (Chg.refl No _)) (fun _ _ _ _ h => h)
             ·intro done a w1 K hd qd qe qf qb hG hK
              have e14 : a.tmps[14]?.getD undef = .pointer (some ⟨gy, 0, none⟩) := qf 14 rfl
              clear qd qe qf qb
              go_simp
              exact hK _ _ rfl (hG.trans' (Chg.refl No _)) (fun _ _ _ _ h => h)
             ·intro done a w1 K hd qd qe qf qb hG hK
              have e153 : a.tmps[153]?.getD undef = .pointer (some ⟨gy, 0, none⟩) := qe 2 153 rfl (qb 2 rfl)
              have c0 : w1.cell? ⟨gy, 0, none⟩ = some (.string y.name) := (HBY.out.chg hG id).cell 0
              clear qd qe qf qb
              go_simp
              exact hK _ _ rfl (hG.trans' (Chg.refl No _)) (fun _ _ _ _ h => h)
             ·intro done a w1 K hd qd qe qf qb hG hK
              have e152 : a.tmps[152]?.getD undef = .string x.name := qe 1 152 rfl (qb 1 rfl)
              have e154 : a.tmps[154]?.getD undef = .string y.name := qe 3 154 rfl (qb 3 rfl)
              have hb1 := HB1.out
              clear qd qe qf qb
              go_simp
              exact hK _ _ rfl (hG.trans' (Chg.refl No _)) (fun _ _ _ _ h => h)
             ·intro done a w1 K hd qd qe qf qb hG hK
              have e155 : a.tmps[155]?.getD undef = .bool b1 := qe 4 155 rfl (qb 4 rfl)
              clear qd qe qf qb
              go_simp
              exact hK _ _ rfl (hG.trans' (Chg.refl No _)) (fun _ _ _ _ h => h)
             ·intro done a w1 K hd qd qe qf qb hG hK
              have eg : a.tmps[156]?.getD undef = .bool b1 := qe 5 156 rfl (qb 5 rfl)
              obtain ⟨c, hcv⟩ : ∃ c, c = b1 := ⟨_, rfl⟩
              rw [← hcv] at eg
              cases c with
              | true =>
               refine if_off rfl rfl eg ?_
               rw [← hcv] at hK
               exact hK undef _ trivial hG (fun _ _ _ _ h => h)
              | false =>
               refine if_on rfl rfl eg ?_
               rw [← hcv] at hK qe
               have e12 : a.tmps[12]?.getD undef = .pointer (some ⟨gx, 0, none⟩) := qf 12 rfl
               refine wp_loadAgg agg79 rfl (by simpa [Act.eval] using e12) (HBX.out.chg hG id).cells rfl ?_
               exact hK _ _ rfl (hG.trans' (Chg.refl No _)) (fun _ _ _ _ h => h)
             ·intro done a w1 K hd qd qe qf qb hG hK
              have eg : a.tmps[156]?.getD undef = .bool b1 := qe 5 156 rfl (qb 5 rfl)
              obtain ⟨c, hcv⟩ : ∃ c, c = b1 := ⟨_, rfl⟩
              rw [← hcv] at eg
              cases c with
              | true =>
               refine if_off rfl rfl eg ?_
               rw [← hcv] at hK
               exact hK undef _ trivial hG (fun _ _ _ _ h => h)
              | false =>
               refine if_on rfl rfl eg ?_
               rw [← hcv] at hK qe
               have e157 : a.tmps[157]?.getD undef = .agg (cellsW x xtv (.slice ia x.imports.length ic)).toArray := qe 6 157 rfl (qb 6 rfl)
               refine wp_callV1 Tryz.call78 rfl (by simpa [Act.eval] using e157) (chNamed_any x xtv (.slice ia x.imports.length ic) w1) ?_
               rintro e w2 ⟨rfl, hc⟩
               exact ⟨_, rfl, hK _ _ rfl (hG.trans' hc) (fun _ _ _ _ h => h.keepNo hc)⟩
             ·intro done a w1 K hd qd qe qf qb hG hK
              have eg : a.tmps[156]?.getD undef = .bool b1 := qe 5 156 rfl (qb 5 rfl)
              obtain ⟨c, hcv⟩ : ∃ c, c = b1 := ⟨_, rfl⟩
              rw [← hcv] at eg
              cases c with
              | true =>
               refine if_off rfl rfl eg ?_
               rw [← hcv] at hK
               exact hK undef _ trivial hG (fun _ _ _ _ h => h)
              | false =>
               refine if_on rfl rfl eg ?_
               rw [← hcv] at hK qe
               have e14 : a.tmps[14]?.getD undef = .pointer (some ⟨gy, 0, none⟩) := qf 14 rfl
               refine wp_loadAgg agg79 rfl (by simpa [Act.eval] using e14) (HBY.out.chg hG id).cells rfl ?_
               exact hK _ _ rfl (hG.trans' (Chg.refl No _)) (fun _ _ _ _ h => h)
             ·intro done a w1 K hd qd qe qf qb hG hK
              have eg : a.tmps[156]?.getD undef = .bool b1 := qe 5 156 rfl (qb 5 rfl)
              obtain ⟨c, hcv⟩ : ∃ c, c = b1 := ⟨_, rfl⟩
              rw [← hcv] at eg
              cases c with
              | true =>
               refine if_off rfl rfl eg ?_
               rw [← hcv] at hK
               exact hK undef _ trivial hG (fun _ _ _ _ h => h)
              | false =>
               refine if_on rfl rfl eg ?_
               rw [← hcv] at hK qe
               have e159 : a.tmps[159]?.getD undef = .agg (cellsW y ytv yiv).toArray := qe 8 159 rfl (qb 8 rfl)
               refine wp_callV1 Tryz.call78 rfl (by simpa [Act.eval] using e159) (chNamed_any y ytv yiv w1) ?_
               rintro e w2 ⟨rfl, hc⟩
               exact ⟨_, rfl, hK _ _ rfl (hG.trans' hc) (fun _ _ _ _ h => h.keepNo hc)⟩
             ·intro done a w1 K hd qd qe qf qb hG hK
              have eg : a.tmps[156]?.getD undef = .bool b1 := qe 5 156 rfl (qb 5 rfl)
              obtain ⟨c, hcv⟩ : ∃ c, c = b1 := ⟨_, rfl⟩
              rw [← hcv] at eg
              cases c with
              | true =>
               refine if_off rfl rfl eg ?_
               rw [← hcv] at hK
               exact hK undef _ trivial hG (fun _ _ _ _ h => h)
              | false =>
               refine if_on rfl rfl eg ?_
               rw [← hcv] at hK qe
               have e158 : a.tmps[158]?.getD undef = .string (named x) := qe 7 158 rfl (qb 7 rfl)
               have e160 : a.tmps[160]?.getD undef = .string (named y) := qe 9 160 rfl (qb 9 rfl)
               have hb2 := HB2.out
               clear qd qe qf qb eg hcv
               go_simp
               exact hK _ _ rfl (hG.trans' (Chg.refl No _)) (fun _ _ _ _ h => h)
             ·intro done a w1 K hd qd qe qf qb hG hK
              (cases b1) <;> first | (have e156 : a.tmps[156]?.getD undef = .bool true := qe 5 156 rfl (qb 5 rfl); clear qd qe qf qb; go_simp; exact hK _ _ rfl (hG.trans' (Chg.refl No _)) (fun _ _ _ _ h => h)) | (have e156 : a.tmps[156]?.getD undef = .bool false := qe 5 156 rfl (qb 5 rfl); have e161 : a.tmps[161]?.getD undef = .bool b2 := qe 10 161 rfl (qb 10 rfl); clear qd qe qf qb; go_simp; exact hK _ _ rfl (hG.trans' (Chg.refl No _)) (fun _ _ _ _ h => h))
             ·intro done a w1 K hd qd qe qf qb hG hK
              have e162 : a.tmps[162]?.getD undef = .bool (b1 || b2) := qe 11 162 rfl (qb 11 rfl)
              clear qd qe qf qb
              go_simp
              exact hK _ _ rfl (hG.trans' (Chg.refl No _)) (fun _ _ _ _ h => h)
             ·intro done a w1 K hd qd qe qf qb hG hK
              have eg : a.tmps[163]?.getD undef = .bool (b1 || b2) := qe 12 163 rfl (qb 12 rfl)
              obtain ⟨c, hcv⟩ : ∃ c, c = (b1 || b2) := ⟨_, rfl⟩
              rw [← hcv] at eg
              cases c with
              | true =>
               refine if_off rfl rfl eg ?_
               rw [← hcv] at hK
               exact hK undef _ trivial hG (fun _ _ _ _ h => h)
              | false =>
               refine if_on rfl rfl eg ?_
               rw [← hcv] at hK qe
               have e12 : a.tmps[12]?.getD undef = .pointer (some ⟨gx, 0, none⟩) := qf 12 rfl
               clear qd qe qf qb eg hcv
               go_simp
               exact hK _ _ rfl (hG.trans' (Chg.refl No _)) (fun _ _ _ _ h => h)
             ·intro done a w1 K hd qd qe qf qb hG hK
              have eg : a.tmps[163]?.getD undef = .bool (b1 || b2) := qe 12 163 rfl (qb 12 rfl)
              obtain ⟨c, hcv⟩ : ∃ c, c = (b1 || b2) := ⟨_, rfl⟩
              rw [← hcv] at eg
              cases c with
              | true =>
               refine if_off rfl rfl eg ?_
               rw [← hcv] at hK
               exact hK undef _ trivial hG (fun _ _ _ _ h => h)
              | false =>
               refine if_on rfl rfl eg ?_
               rw [← hcv] at hK qe
               have e164 : a.tmps[164]?.getD undef = .pointer (some ⟨gx, 0, none⟩) := qe 13 164 rfl (qb 13 rfl)
               have c0 : w1.cell? ⟨gx, 0, none⟩ = some (.string x.name) := (HBX.out.chg hG id).cell 0
               clear qd qe qf qb eg hcv
               go_simp
               exact hK _ _ rfl (hG.trans' (Chg.refl No _)) (fun _ _ _ _ h => h)
             ·intro done a w1 K hd qd qe qf qb hG hK
              have eg : a.tmps[163]?.getD undef = .bool (b1 || b2) := qe 12 163 rfl (qb 12 rfl)
              obtain ⟨c, hcv⟩ : ∃ c, c = (b1 || b2) := ⟨_, rfl⟩
              rw [← hcv] at eg
              cases c with
              | true =>
               refine if_off rfl rfl eg ?_
               rw [← hcv] at hK
               exact hK undef _ trivial hG (fun _ _ _ _ h => h)
              | false =>
               refine if_on rfl rfl eg ?_
               rw [← hcv] at hK qe
               have e14 : a.tmps[14]?.getD undef = .pointer (some ⟨gy, 0, none⟩) := qf 14 rfl
               refine wp_loadAgg agg79 rfl (by simpa [Act.eval] using e14) (HBY.out.chg hG id).cells rfl ?_
               exact hK _ _ rfl (hG.trans' (Chg.refl No _)) (fun _ _ _ _ h => h)
             ·intro done a w1 K hd qd qe qf qb hG hK
              have eg : a.tmps[163]?.getD undef = .bool (b1 || b2) := qe 12 163 rfl (qb 12 rfl)
              obtain ⟨c, hcv⟩ : ∃ c, c = (b1 || b2) := ⟨_, rfl⟩
              rw [← hcv] at eg
              cases c with
              | true =>
               refine if_off rfl rfl eg ?_
               rw [← hcv] at hK
               exact hK undef _ trivial hG (fun _ _ _ _ h => h)
              | false =>
               refine if_on rfl rfl eg ?_
               rw [← hcv] at hK qe
               have e166 : a.tmps[166]?.getD undef = .agg (cellsW y ytv yiv).toArray := qe 15 166 rfl (qb 15 rfl)
               refine wp_callV1 Tryz.call78 rfl (by simpa [Act.eval] using e166) (chNamed_any y ytv yiv w1) ?_
               rintro e w2 ⟨rfl, hc⟩
               exact ⟨_, rfl, hK _ _ rfl (hG.trans' hc) (fun _ _ _ _ h => h.keepNo hc)⟩
             ·intro done a w1 K hd qd qe qf qb hG hK
              have eg : a.tmps[163]?.getD undef = .bool (b1 || b2) := qe 12 163 rfl (qb 12 rfl)
              obtain ⟨c, hcv⟩ : ∃ c, c = (b1 || b2) := ⟨_, rfl⟩
              rw [← hcv] at eg
              cases c with
              | true =>
               refine if_off rfl rfl eg ?_
               rw [← hcv] at hK
               exact hK undef _ trivial hG (fun _ _ _ _ h => h)
              | false =>
               refine if_on rfl rfl eg ?_
               rw [← hcv] at hK qe
               have e165 : a.tmps[165]?.getD undef = .string x.name := qe 14 165 rfl (qb 14 rfl)
               have e167 : a.tmps[167]?.getD undef = .string (named y) := qe 16 167 rfl (qb 16 rfl)
               have hb3 := HB3.out
               clear qd qe qf qb eg hcv
               go_simp
               exact hK _ _ rfl (hG.trans' (Chg.refl No _)) (fun _ _ _ _ h => h)
             ·intro done a w1 K hd qd qe qf qb hG hK
              (cases b1 <;> cases b2) <;> first | (have e163 : a.tmps[163]?.getD undef = .bool true := qe 12 163 rfl (qb 12 rfl); clear qd qe qf qb; go_simp; exact hK _ _ rfl (hG.trans' (Chg.refl No _)) (fun _ _ _ _ h => h)) | (have e163 : a.tmps[163]?.getD undef = .bool false := qe 12 163 rfl (qb 12 rfl); have e168 : a.tmps[168]?.getD undef = .bool b3 := qe 17 168 rfl (qb 17 rfl); clear qd qe qf qb; go_simp; exact hK _ _ rfl (hG.trans' (Chg.refl No _)) (fun _ _ _ _ h => h))
             ·intro done a w1 K hd qd qe qf qb hG hK
              have e169 : a.tmps[169]?.getD undef = .bool (b1 || b2 || b3) := qe 18 169 rfl (qb 18 rfl)
              clear qd qe qf qb
              go_simp
              exact hK _ _ rfl (hG.trans' (Chg.refl No _)) (fun _ _ _ _ h => h)
             ·intro done a w1 K hd qd qe qf qb hG hK
              have eg : a.tmps[170]?.getD undef = .bool (b1 || b2 || b3) := qe 19 170 rfl (qb 19 rfl)
              obtain ⟨c, hcv⟩ : ∃ c, c = (b1 || b2 || b3) := ⟨_, rfl⟩
              rw [← hcv] at eg
              cases c with
              | true =>
               refine if_off rfl rfl eg ?_
               rw [← hcv] at hK
               exact hK undef _ trivial hG (fun _ _ _ _ h => h)
              | false =>
               refine if_on rfl rfl eg ?_
               rw [← hcv] at hK qe
               have e12 : a.tmps[12]?.getD undef = .pointer (some ⟨gx, 0, none⟩) := qf 12 rfl
               refine wp_loadAgg agg79 rfl (by simpa [Act.eval] using e12) (HBX.out.chg hG id).cells rfl ?_
               exact hK _ _ rfl (hG.trans' (Chg.refl No _)) (fun _ _ _ _ h => h)
             ·intro done a w1 K hd qd qe qf qb hG hK
              have eg : a.tmps[170]?.getD undef = .bool (b1 || b2 || b3) := qe 19 170 rfl (qb 19 rfl)
              obtain ⟨c, hcv⟩ : ∃ c, c = (b1 || b2 || b3) := ⟨_, rfl⟩
              rw [← hcv] at eg
              cases c with
              | true =>
               refine if_off rfl rfl eg ?_
               rw [← hcv] at hK
               exact hK undef _ trivial hG (fun _ _ _ _ h => h)
              | false =>
               refine if_on rfl rfl eg ?_
               rw [← hcv] at hK qe
               have e171 : a.tmps[171]?.getD undef = .agg (cellsW x xtv (.slice ia x.imports.length ic)).toArray := qe 20 171 rfl (qb 20 rfl)
               refine wp_callV1 Tryz.call78 rfl (by simpa [Act.eval] using e171) (chNamed_any x xtv (.slice ia x.imports.length ic) w1) ?_
               rintro e w2 ⟨rfl, hc⟩
               exact ⟨_, rfl, hK _ _ rfl (hG.trans' hc) (fun _ _ _ _ h => h.keepNo hc)⟩
             ·intro done a w1 K hd qd qe qf qb hG hK
              have eg : a.tmps[170]?.getD undef = .bool (b1 || b2 || b3) := qe 19 170 rfl (qb 19 rfl)
              obtain ⟨c, hcv⟩ : ∃ c, c = (b1 || b2 || b3) := ⟨_, rfl⟩
              rw [← hcv] at eg
              cases c with
              | true =>
               refine if_off rfl rfl eg ?_
               rw [← hcv] at hK
               exact hK undef _ trivial hG (fun _ _ _ _ h => h)
              | false =>
               refine if_on rfl rfl eg ?_
               rw [← hcv] at hK qe
               have e14 : a.tmps[14]?.getD undef = .pointer (some ⟨gy, 0, none⟩) := qf 14 rfl
               clear qd qe qf qb eg hcv
               go_simp
               exact hK _ _ rfl (hG.trans' (Chg.refl No _)) (fun _ _ _ _ h => h)
             ·intro done a w1 K hd qd qe qf qb hG hK
              have eg : a.tmps[170]?.getD undef = .bool (b1 || b2 || b3) := qe 19 170 rfl (qb 19 rfl)
              obtain ⟨c, hcv⟩ : ∃ c, c = (b1 || b2 || b3) := ⟨_, rfl⟩
              rw [← hcv] at eg
              cases c with
              | true =>
               refine if_off rfl rfl eg ?_
               rw [← hcv] at hK
               exact hK undef _ trivial hG (fun _ _ _ _ h => h)
              | false =>
               refine if_on rfl rfl eg ?_
               rw [← hcv] at hK qe
               have e173 : a.tmps[173]?.getD undef = .pointer (some ⟨gy, 0, none⟩) := qe 22 173 rfl (qb 22 rfl)
               have c0 : w1.cell? ⟨gy, 0, none⟩ = some (.string y.name) := (HBY.out.chg hG id).cell 0
               clear qd qe qf qb eg hcv
               go_simp
               exact hK _ _ rfl (hG.trans' (Chg.refl No _)) (fun _ _ _ _ h => h)
             ·intro done a w1 K hd qd qe qf qb hG hK
              have eg : a.tmps[170]?.getD undef = .bool (b1 || b2 || b3) := qe 19 170 rfl (qb 19 rfl)
              obtain ⟨c, hcv⟩ : ∃ c, c = (b1 || b2 || b3) := ⟨_, rfl⟩
              rw [← hcv] at eg
              cases c with
              | true =>
               refine if_off rfl rfl eg ?_
               rw [← hcv] at hK
               exact hK undef _ trivial hG (fun _ _ _ _ h => h)
              | false =>
               refine if_on rfl rfl eg ?_
               rw [← hcv] at hK qe
               have e172 : a.tmps[172]?.getD undef = .string (named x) := qe 21 172 rfl (qb 21 rfl)
               have e174 : a.tmps[174]?.getD undef = .string y.name := qe 23 174 rfl (qb 23 rfl)
               have hb4 := HB4.out
               clear qd qe qf qb eg hcv
               go_simp
               exact hK _ _ rfl (hG.trans' (Chg.refl No _)) (fun _ _ _ _ h => h)
             ·intro done a w1 K hd qd qe qf qb hG hK
              (cases b1 <;> cases b2 <;> cases b3) <;> first | (have e170 : a.tmps[170]?.getD undef = .bool true := qe 19 170 rfl (qb 19 rfl); clear qd qe qf qb; go_simp; exact hK _ _ rfl (hG.trans' (Chg.refl No _)) (fun _ _ _ _ h => h)) | (have e170 : a.tmps[170]?.getD undef = .bool false := qe 19 170 rfl (qb 19 rfl); have e175 : a.tmps[175]?.getD undef = .bool b4 := qe 24 175 rfl (qb 24 rfl); clear qd qe qf qb; go_simp; exact hK _ _ rfl (hG.trans' (Chg.refl No _)) (fun _ _ _ _ h => h))
            ·intro vs w2 hvs hvn hG
             have e176 : vs 25 = .bool (b1 || b2 || b3 || b4) := hvs 25 _ rfl (by simp)
             have HW2 := Hd hG
             obtain ⟨W2, hW2⟩ : ∃ W2, W2 = w2 := ⟨_, rfl⟩
             rw [← hW2] at HW2 ⊢
             clear hvs hvn hG hW2
             simp only [putAll, Act.put, List.setIfInBounds_toArray, List.set_cons_succ, List.set_cons_zero, e176]
             generalize hbb : (b1 || b2 || b3 || b4) = bb
             have HBB := Hd hbb
             clear hbb e176
             cases bb with
             | true =>
              go_wp2
              go_ret
              exact ⟨false, rfl, (((HCS.out.trans HCS6.out (fun _ _ e => e)).trans' HC7.out).trans' HCX.out).trans' HW2.out, fun h => by cases h⟩
             | false =>
              have HXY := Hd (show apartW x y by
               have h := HBB.out
               simp only [Bool.or_eq_false_iff] at h
               obtain ⟨⟨⟨h1, h2⟩, h3⟩, h4⟩ := h
               have e1 := HB1.out; have e2 := HB2.out; have e3 := HB3.out; have e4 := HB4.out
               rw [h1, toList_beq] at e1; rw [h2, toList_beq] at e2; rw [h3, toList_beq] at e3; rw [h4, toList_beq] at e4
               exact ⟨of_decide_eq_false e1, of_decide_eq_false e2, of_decide_eq_false e3, of_decide_eq_false e4⟩)
              go_wp2_with fail
              go_roundw
              case rel => exact ⟨m2 + 1, by go_num, by omega, mem_take_succ HY.out HAP.out HXY.out, HC7.out.trans' (HCX.out.trans' HW2.out)⟩
              case measure => simp [intOf]; omega
           ·have h66 : ¬ (m2 : Int) < (n : Int) := by omega
            have HAP2 := Hd (show ∀ y ∈ xs.take n, apartW x y by
             rw [show n = m2 by omega]; exact HAP.out)
            have q9 : wr.cell? ⟨w.heap.size, 9, none⟩ = some (.slice da drows.length dc) := (HB06.out.chg HC7.out id).cell 9
            have HCR := Hd (HCS6.out.trans' HC7.out)
            have HBR := Hd (HB6.out.chg HC7.out id)
            have HBX := Hd (HBX.out.chg HC7.out id)
            obtain ⟨W8, hW8⟩ : ∃ W8, W8 = wr := ⟨_, rfl⟩
            rw [← hW8] at q9 HCR HBR HBX ⊢
            clear hW8 HAP HC7
            go_wp2_with fail
            clear q9
            go_loopw [181] (fun ct wr => ∃ q : Nat, ct = .int .i64 q /\ q ≤ drows.length /\ (∀ d ∈ js.take q, x.alias_ ≠ d.name) /\ Chg No W8 wr) (fun ct _ => drows.length - (intOf ct).toNat)
            case atStart => exact ⟨0, rfl, Nat.zero_le _, by simp, Chg.refl _ _⟩
            case round =>
             obtain ⟨q, rfl, hq, hne, hc9⟩ := hrel
             have HNE := Hd hne
             have HC9 := Hd hc9
             clear hne hc9
             by_cases hlq : q < drows.length
             ·obtain ⟨r3, hr3⟩ : ∃ r, drows[q]? = some r := ⟨_, List.getElem?_eq_getElem hlq⟩
              obtain ⟨d3, hd3⟩ : ∃ d, js[q]? = some d := ⟨_, List.getElem?_eq_getElem (by rw [HCL3.out.len]; exact hlq)⟩
              have hch3 := HCL3.out.val q r3 d3 hr3 hd3
              have HD3 := Hd hd3
              obtain ⟨lb3, lo3, rfl, hlok3, hlc3⟩ := HD.out.at (i := q) (r := r3) hr3
              have hlc3 := ((hlc3.chg HCS.out (fun e => HNP.out (e ▸ hlok3.1))).chg HCR.out (fun e => HNP.out (e ▸ hlok3.1))).chg HC9.out id
              obtain ⟨hrl3, hro3⟩ := hch3.one
              obtain ⟨rn3, rv3, rk3, rb3, ri3, rf3, rt3, rkv3, rlv3, rdv3, rwv3, rfl, hnm3, -⟩ := hch3.cells
              have HNM3 := Hd hnm3
              have h67 : (q : Int) < (drows.length : Int) := by omega
              clear hr3 hd3 hch3 hnm3 hlok3
              have y0 : (wr.alloc (.cells (cells11 rn3 rv3 rk3 rb3 ri3 rf3 rt3 rkv3 rlv3 rdv3 rwv3).toArray 30)).cell? ⟨wr.heap.size, 0, none⟩ = some (.string rn3) := (Blk.new wr _ 30).cell 0
              have x3 : (wr.alloc (.cells (cells11 rn3 rv3 rk3 rb3 ri3 rf3 rt3 rkv3 rlv3 rdv3 rwv3).toArray 30)).cell? ⟨gx, 3, none⟩ = some (.string x.alias_) := ((HBX.out.chg HC9.out id).alloc _).cell 3
              by_cases heq : x.alias_ = rn3
              ·have hkb : (x.alias_.toList == rn3.toList) = true := by rw [toList_beq]; simpa using heq
               clear heq
               go_wp2_with (first | (with_reducible refine wpList_loadAgg rfl agg30 rfl rfl hlc3 hrl3 ?_) | (with_reducible refine wpList_storeNew rfl agg30 rfl rfl rfl rfl hrl3 hro3 ?_))
               go_ret
               exact ⟨false, rfl, ((HCS.out.trans HCR.out (fun _ _ e => e)).trans' HC9.out).alloc _, fun h => by cases h⟩
              ·have hkb : (x.alias_.toList == rn3.toList) = false := by rw [toList_beq]; simpa using heq
               have HNQ := Hd heq
               clear heq
               go_wp2_with (first | (with_reducible refine wpList_loadAgg rfl agg30 rfl rfl hlc3 hrl3 ?_) | (with_reducible refine wpList_storeNew rfl agg30 rfl rfl rfl rfl hrl3 hro3 ?_))
               go_roundw
               case rel => exact ⟨q + 1, by go_num, by omega, mem_take_succ HD3.out HNE.out (by rw [HNM3.out]; exact HNQ.out), HC9.out.alloc _⟩
               case measure => simp [intOf]; omega
             ·have h67 : ¬ (q : Int) < (drows.length : Int) := by omega
              have HNE2 := Hd (mem_take_all (P := fun d => x.alias_ ≠ Ch.name d) (by rw [HCL3.out.len]; omega) HNE.out)
              go_wp2_with fail
              go_roundw
              case rel =>
               refine ⟨n + 1, by go_num, by omega, by have := HM1.out; have := HMD.out; omega, mem_take_succ HX.out HGOOD.out HWX.out, ?_, ?_, HCR.out.trans' HC9.out, ?_⟩
               ·rw [List.take_add_one, HX.out]
                refine List.pairwise_append.2 ⟨HPW.out, by simp, fun a ha b hb => ?_⟩
                obtain rfl : b = x := by simpa using hb
                exact HAP2.out a ha
               ·exact mem_take_succ (P := fun x => ∀ d ∈ js, x.alias_ ≠ Ch.name d) HX.out HAL.out HNE2.out
               ·rw [show c - (1 + cntL js) - (n + 1) = m - 1 by have := HMD.out; omega]
                exact HBR.out.chg HC9.out id
              case measure => simp [intOf]; omega
       ·have hnl : n = wrows.length := by omega
        subst hnl
        have h64 : ¬ ((wrows.length : Nat) : Int) < (wrows.length : Int) := by omega
        have hall : xs.take wrows.length = xs := List.take_of_length_le (by rw [HM.out]; exact Nat.le_refl _)
        have HG2 := Hd HGOOD.out
        have HP2 := Hd HPW.out
        have HA2 := Hd HAL.out
        rw [hall] at HG2 HP2 HA2
        clear hall HGOOD HPW HAL
        go_wp2
        go_ret
        refine ⟨true, rfl, HCS.out.trans HC3.out (fun _ _ e => e), fun _ => ⟨.mk name ver vals js xs, ?_, ?_, ?_, ?_⟩⟩
        ·have hnp : ∀ b, okB ok w b -> ¬ b = p := fun b hb e => HNP.out (e ▸ hb.1)
         refine ChJ.mono (ok := okB ok w) (ChJ.of ((HVV.out.chg HCL3.out.chg hnp).chg HC3.out hnp) ((HD.out.chg HCS.out hnp).chg HC3.out hnp) HCL3.out.len.symm (fun n r d h1 h2 => (HCL3.out.val n r d h1 h2).chg HC3.out hnp) ((HW.out.chg HCS.out hnp).chg HC3.out hnp) HM.out
          (fun n r x h1 h2 => ((HWR.out n r x h1 h2).chg HCS.out hnp).chg HC3.out hnp)) (fun b _ h => h.1)
        ·refine ⟨HVG.out, HPN.out, ⟨HVR.out, HSV.out⟩, by have := HCL3.out.len; show js.length ≤ 20; omega, HCL3.out.nd, HCL3.out.good, by have := HNC.out; have := HC.out; have := HM.out; show xs.length ≤ 40; omega, HG2.out, HP2.out.imp (fun h => apartW.symm h), HA2.out⟩
        ·have := HNC.out; have := HCL3.out.cnt; have := HM.out; simp only [cnt]; omega
        ·have h1 := HB3.out
         rw [show c - cnt (.mk name ver vals js xs) = c - (1 + cntL js) - wrows.length by have := HM.out; simp only [cnt]; omega]
         exact h1
theorem rightChart_any {ok : Nat -> Prop} {cs : List Value} {w : World} (h : RawC ok w cs) : Calls Tryz.prog 34 #[.agg cs.toArray] w (BoolPost w fun r w' => r = true -> ∃ ch, ChJ ok w' cs ch /\ ChR 6 ch /\ cnt ch ≤ 40) := by
 have H := Hd h
 have hl := h.one.1
 obtain ⟨name, ver, k, b, i, f, t, kv, lv, dv, wv, rfl, -⟩ := h.cells
 have hfacts : ∀ W, (w.alloc (.cells (cells11 name ver k b i f t kv lv dv wv).toArray 30)).alloc (.cells [.int .i64 (40 : Int)].toArray 3) = W ->
   Blk W w.heap.size (cells11 name ver k b i f t kv lv dv wv) 30 /\ Blk W (w.heap.size + 1) [.int .i64 (40 : Int)] 3 /\ Chg No w W := by
  rintro W rfl
  exact ⟨(Blk.new _ _ _).alloc _, Blk.newAt (by simp) _ _, ((Chg.refl No w).alloc _).alloc _⟩
 have HF := Hd hfacts
 clear h hfacts
 go_enter Tryz.func34, Tryz.ntmps34
 unfold cells11
 go_upto_region 2 with fail
 generalize hgw : World.alloc _ _ = W
 obtain ⟨b0, b1, c1⟩ := HF.out W hgw
 clear hgw HF
 have HB1 := Hd b1
 have HC1 := Hd c1
 clear b1 c1
 go_wp2_with (first | (with_reducible refine wpList_loadAgg rfl agg30 rfl rfl b0.cells rfl ?_))
 have hcall := chRight_any 6 (okB ok w) (cells11 name ver k b i f t kv lv dv wv) W (w.heap.size + 1) 40 ((H.out.mono (ok' := okB ok w) (fun b hb h => ⟨h, hb⟩)).chg HC1.out (fun _ _ e => e)) HB1.out (fun h => by have := h.2; omega) (by decide) (by decide)
 refine Calls.mono hcall ?_
 rintro e w5 ⟨r, rfl, hc5, hp5⟩
 have HC5 := Hd hc5
 have HP5 := Hd hp5
 clear hcall hc5 hp5
 go_wp2_with fail
 go_ret
 refine ⟨r, rfl, HC1.out.trans HC5.out (fun i hi e => by omega), fun h => ?_⟩
 obtain ⟨ch, h1, h2, h3, -⟩ := HP5.out h
 exact ⟨ch, h1.mono (fun b _ hb => hb.1), h2, h3⟩
def YesPost (w : World) (e : Ending) (w' : World) : Prop := e = .returned (.bool true) /\ Chg No w w'
theorem kSm.int {k : K} (h : kSm k) : ¬ (2147483647 : Int) < (k.size : Int) := by unfold kSm at h; omega
abbrev cellsI (i : Imp) : List Value := [.string i.plain, .string i.child, .string i.parent, .bool i.isMap]
theorem zzFits11_any (i : Imp) (h : kSm i.plain /\ kSm i.child /\ kSm i.parent) (w : World) : Calls Tryz.prog 128 #[.agg (cellsI i).toArray] w (YesPost w) := by
 have h1 := h.1.int
 have h2 := h.2.1.int
 have h3 := h.2.2.int
 have hfacts : ∀ W, (w.alloc (.cells (cellsI i).toArray 110)) = W -> Blk W w.heap.size (cellsI i) 110 /\ Chg No w W := by
  rintro W rfl
  exact ⟨Blk.new _ _ _, (Chg.refl No w).alloc _⟩
 have HF := Hd hfacts
 clear hfacts h
 go_enter Tryz.func128, Tryz.ntmps128
 unfold cellsI
 go_upto_region 1 with fail
 generalize hgw : World.alloc _ _ = W
 obtain ⟨b0, c1⟩ := HF.out W hgw
 clear hgw HF
 have k0 : W.cell? ⟨w.heap.size, 0, none⟩ = some (.string i.plain) := b0.cell 0
 have k1 : W.cell? ⟨w.heap.size, 1, none⟩ = some (.string i.child) := b0.cell 1
 have k2 : W.cell? ⟨w.heap.size, 2, none⟩ = some (.string i.parent) := b0.cell 2
 have HC1 := Hd c1
 clear b0 c1
 go_wp2
 go_ret
 exact ⟨rfl, HC1.out⟩
theorem zzFits10_any {ok : Nat -> Prop} {v : Value} {w : World} {l : List Imp} (h : RowAt ok w v 4 (impRows l)) (hl : l.length ≤ 1048576) (hs : ∀ i ∈ l, kSm i.plain /\ kSm i.child /\ kSm i.parent) : Calls Tryz.prog 107 #[v] w (YesPost w) := by
 have H := Hd h
 have HS := Hd hs
 obtain ⟨-, -, a, c, rfl, -, -⟩ := h
 simp only [impRows, List.length_map] at H ⊢
 have hb : ¬ (2147483647 : Int) < (l.length : Int) := by omega
 clear hs
 go_enter Tryz.func107, Tryz.ntmps107
 go_wp2_with fail
 go_loopw [10] (fun ct wr => ∃ n : Nat, ct = .int .i64 n /\ n ≤ l.length /\ Chg No w wr) (fun ct _ => l.length - (intOf ct).toNat)
 case atStart => exact ⟨0, rfl, Nat.zero_le _, Chg.refl _ _⟩
 case round =>
  obtain ⟨n, rfl, hn, hc⟩ := hrel
  have HC := Hd hc
  by_cases hlt : n < l.length
  ·obtain ⟨x, hx⟩ : ∃ x, l[n]? = some x := ⟨_, List.getElem?_eq_getElem hlt⟩
   obtain ⟨lb, lo, rfl, -, hlc⟩ := H.out.at (i := n) (r := cellsI x) (by simp [hx])
   have hlc := hlc.chg hc id
   have HX := Hd (HS.out x (List.mem_of_getElem? hx))
   have h64 : (n : Int) < (l.length : Int) := by omega
   have hxo : (cellsI x).all (·.oneCell') = true := rfl
   clear hx hc
   go_wp2_with (first | (with_reducible refine wpList_loadAgg rfl agg110 rfl rfl hlc rfl ?_) | (with_reducible refine wpList_storeNew rfl agg110 rfl rfl rfl rfl rfl hxo ?_) | (with_reducible refine wpList_loadAgg rfl agg110 rfl rfl (Blk.new wr (cellsI x) 110).cells rfl ?_))
   refine (zzFits11_any x HX.out (wr.alloc (.cells (cellsI x).toArray 110))).mono ?_
   rintro e w3 ⟨rfl, hc3⟩
   have HC3 := Hd (HC.out.trans' (((Chg.refl No wr).alloc (.cells (cellsI x).toArray 110)).trans' hc3))
   clear hc3 hlc hxo
   go_wp2_with fail
   go_roundw
   case rel => exact ⟨n + 1, by go_num, by omega, HC3.out⟩
   case measure => simp [intOf]; omega
  ·have h64 : ¬ (n : Int) < (l.length : Int) := by omega
   go_wp2
   go_ret
   exact ⟨rfl, HC.out⟩
theorem zzFits3_yes {ok : Nat -> Prop} {ks : List K} {v : Value} {w : World} (h : RowAt ok w v 1 (kRows ks)) (hl : ks.length ≤ 1048576) (hs : ∀ k ∈ ks, kSm k) : Calls Tryz.prog 33 #[v] w (YesPost w) := by
 have H := Hd h
 have HS := Hd hs
 obtain ⟨-, -, a, c, rfl, -, -⟩ := h
 simp only [kRows, List.length_map] at H ⊢
 have hb : ¬ (2147483647 : Int) < (ks.length : Int) := by omega
 clear hs
 go_enter Tryz.func33, Tryz.ntmps33
 go_wp2_with fail
 go_loopw [10] (fun ct wr => ∃ n : Nat, ct = .int .i64 n /\ n ≤ ks.length /\ Chg No w wr) (fun ct _ => ks.length - (intOf ct).toNat)
 case atStart => exact ⟨0, rfl, Nat.zero_le _, Chg.refl _ _⟩
 case round =>
  obtain ⟨n, rfl, hn, hc⟩ := hrel
  have HC := Hd hc
  by_cases hlt : n < ks.length
  ·obtain ⟨x, hx⟩ : ∃ x, ks[n]? = some x := ⟨_, List.getElem?_eq_getElem hlt⟩
   obtain ⟨kb, ko, rfl, -, hka⟩ := H.out.at (i := n) (r := [.string x]) (by simp [hx])
   have hka := (hka.chg hc id).one
   simp only [Nat.mul_one] at hka
   have h64 : (n : Int) < (ks.length : Int) := by omega
   have hsx := (HS.out x (List.mem_of_getElem? hx)).int
   clear hx hc
   go_wp2_with fail
   go_roundw
   case rel => exact ⟨n + 1, by go_num, by omega, HC.out⟩
   case measure => simp [intOf]; omega
  ·have h64 : ¬ (n : Int) < (ks.length : Int) := by omega
   go_wp2
   go_ret
   exact ⟨rfl, HC.out⟩
theorem zzFits9_any {ok : Nat -> Prop} {cs : List Value} {x : Want} {w : World} (h : WantJ ok w cs x) (hs : WSm x) : Calls Tryz.prog 71 #[.agg cs.toArray] w (YesPost w) := by
 obtain ⟨tv, iv, rfl, ht, hi⟩ := h
 have HT := Hd ht
 have HI := Hd hi
 have HS := Hd hs
 have h1 := hs.name.int
 have h2 := hs.ver.int
 have h3 := hs.cond.int
 have h4 := hs.ali.int
 have hfacts : ∀ W, (w.alloc (.cells (cellsW x tv iv).toArray 79)) = W -> Blk W w.heap.size (cellsW x tv iv) 79 /\ Chg No w W /\ W.heap.size = w.heap.size + 1 := by
  rintro W rfl
  exact ⟨Blk.new _ _ _, (Chg.refl No w).alloc _, by simp⟩
 have HF := Hd hfacts
 clear hfacts hs ht hi
 go_enter Tryz.func71, Tryz.ntmps71
 unfold cellsW
 go_upto_region 1 with fail
 generalize hgw : World.alloc _ _ = W
 obtain ⟨b0, c1, hsz⟩ := HF.out W hgw
 clear hgw HF
 have k0 : W.cell? ⟨w.heap.size, 0, none⟩ = some (.string x.name) := b0.cell 0
 have k1 : W.cell? ⟨w.heap.size, 1, none⟩ = some (.string x.version) := b0.cell 1
 have k2 : W.cell? ⟨w.heap.size, 2, none⟩ = some (.string x.condition) := b0.cell 2
 have k3 : W.cell? ⟨w.heap.size, 3, none⟩ = some (.string x.alias_) := b0.cell 3
 have k4 : W.cell? ⟨w.heap.size, 4, none⟩ = some tv := b0.cell 4
 have HB0 := Hd b0
 have HC1 := Hd c1
 clear b0 c1 hsz
 go_wp2_with fail
 refine (zzFits3_yes (ok := okB ok w) ((HT.out.mono (fun b hb h => ⟨h, hb⟩) (by decide)).chg HC1.out (fun _ _ e => e)) HS.out.tags.1 HS.out.tags.2).mono ?_
 rintro e w5 ⟨rfl, hc5⟩
 have HC5 := Hd (HC1.out.trans' hc5)
 have k6 : w5.cell? ⟨w.heap.size, 6, none⟩ = some iv := (HB0.out.chg hc5 id).cell 6
 clear hc5 k0 k1 k2 k3 k4
 go_wp2_with fail
 refine (zzFits10_any (ok := okB ok w) ((HI.out.mono (fun b hb h => ⟨h, hb⟩) (by decide)).chg HC5.out (fun _ _ e => e)) HS.out.imps.1 HS.out.imps.2).mono ?_
 rintro e w6 ⟨rfl, hc6⟩
 have HC6 := Hd (HC5.out.trans' hc6)
 clear hc6 k6
 go_wp2
 go_ret
 exact ⟨rfl, HC6.out⟩
theorem zzFits8_any {ok : Nat -> Prop} {v : Value} {w : World} {rows : List (List Value)} {xs : List Want} (h : RowAt ok w v 7 rows) (hn : rows.length = xs.length) (hx : ∀ (n : Nat) (r : List Value) (x : Want), rows[n]? = some r -> xs[n]? = some x -> WantJ ok w r x) (hs : ∀ x ∈ xs, WSm x) : Calls Tryz.prog 32 #[v] w (BoolPost w fun _ _ => True) := by
 have H := Hd (h.mono (ok' := okB ok w) (fun b hb h => ⟨h, hb⟩) (by decide))
 have HN := Hd hn
 have HX := Hd (fun n r x h1 h2 => (hx n r x h1 h2).mono (ok' := okB ok w) (fun b hb h => ⟨h, hb⟩))
 have HS := Hd hs
 have h1 := h.1
 obtain ⟨-, -, a, c, rfl, -, -⟩ := h
 unfold maxLen at h1
 clear hn hx hs
 by_cases hb : (2147483647 : Int) < (rows.length : Int)
 ·go_enter Tryz.func32, Tryz.ntmps32
  go_wp2
  go_ret
  exact ⟨false, rfl, Chg.refl _ _, trivial⟩
 ·go_enter Tryz.func32, Tryz.ntmps32
  go_wp2_with fail
  go_loopw [10] (fun ct wr => ∃ n : Nat, ct = .int .i64 n /\ n ≤ rows.length /\ Chg No w wr) (fun ct _ => rows.length - (intOf ct).toNat)
  case atStart => exact ⟨0, rfl, Nat.zero_le _, Chg.refl _ _⟩
  case round =>
   obtain ⟨n, rfl, hn, hc⟩ := hrel
   have HC := Hd hc
   by_cases hlt : n < rows.length
   ·obtain ⟨r, hr⟩ : ∃ r, rows[n]? = some r := ⟨_, List.getElem?_eq_getElem hlt⟩
    obtain ⟨x, hx⟩ : ∃ x, xs[n]? = some x := ⟨_, List.getElem?_eq_getElem (by rw [← HN.out]; exact hlt)⟩
    obtain ⟨lb, lo, rfl, -, hlc⟩ := H.out.at (i := n) (r := r) hr
    have hlc := hlc.chg hc id
    have hwj := (HX.out n r x hr hx).chg hc (fun _ _ e => e)
    obtain ⟨hrl, hro⟩ := hwj.len
    have HWJ := Hd (hwj.chg ((Chg.refl No wr).alloc (.cells r.toArray 79)) (fun _ _ e => e))
    have HSX := Hd (HS.out x (List.mem_of_getElem? hx))
    have h64 : (n : Int) < (rows.length : Int) := by omega
    clear hr hx hc hwj
    go_wp2_with (first | (with_reducible refine wpList_loadAgg rfl agg79 rfl rfl hlc hrl ?_) | (with_reducible refine wpList_storeNew rfl agg79 rfl rfl rfl rfl hrl hro ?_) | (with_reducible refine wpList_loadAgg rfl agg79 rfl rfl (Blk.new wr r 79).cells hrl ?_))
    refine (zzFits9_any HWJ.out HSX.out).mono ?_
    rintro e w3 ⟨rfl, hc3⟩
    have HC3 := Hd (HC.out.trans' (((Chg.refl No wr).alloc (.cells r.toArray 79)).trans' hc3))
    clear hc3 hlc hrl hro
    go_wp2_with fail
    go_roundw
    case rel => exact ⟨n + 1, by go_num, by omega, HC3.out⟩
    case measure => simp [intOf]; omega
   ·have h64 : ¬ (n : Int) < (rows.length : Int) := by omega
    go_wp2
    go_ret
    exact ⟨true, rfl, HC.out, trivial⟩
theorem zzFits7_any {ok : Nat -> Prop} {cs : List Value} {w : World} (h : RawC ok w cs) : Calls Tryz.prog 6 #[.agg cs.toArray] w (BoolPost w fun _ _ => True) := by
 obtain ⟨name, ver, k, b, i, f, t, kv, lv, dv, wv, rfl, hsn, hsv, -, -, ⟨rows, hd, -⟩, ⟨wrows, xs, hw, hm, hx, hs⟩⟩ := (h.mono (ok' := okB ok w) (fun b hb h => ⟨h, hb⟩)).cells
 have HW := Hd hw
 have HM := Hd hm
 have HX := Hd hx
 have HS := Hd hs
 have h1 := hsn.int
 have h2 := hsv.int
 have hd1 := hd.1
 obtain ⟨-, -, da, dc, rfl, -, -⟩ := hd
 unfold maxLen at hd1
 have hfacts : ∀ W, (w.alloc (.cells (cells11 name ver k b i f t kv lv (.slice da rows.length dc) wv).toArray 30)) = W -> Blk W w.heap.size (cells11 name ver k b i f t kv lv (.slice da rows.length dc) wv) 30 /\ Chg No w W := by
  rintro W rfl
  exact ⟨Blk.new _ _ _, (Chg.refl No w).alloc _⟩
 have HF := Hd hfacts
 clear hfacts h hw hm hx hs hsn hsv
 go_enter Tryz.func6, Tryz.ntmps6
 unfold cells11
 go_upto_region 1 with fail
 generalize hgw : World.alloc _ _ = W
 obtain ⟨b0, c1⟩ := HF.out W hgw
 clear hgw HF
 have k0 : W.cell? ⟨w.heap.size, 0, none⟩ = some (.string name) := b0.cell 0
 have k1 : W.cell? ⟨w.heap.size, 1, none⟩ = some (.string ver) := b0.cell 1
 have k9 : W.cell? ⟨w.heap.size, 9, none⟩ = some (.slice da rows.length dc) := b0.cell 9
 have k10 : W.cell? ⟨w.heap.size, 10, none⟩ = some wv := b0.cell 10
 have HC1 := Hd c1
 clear b0 c1
 by_cases hb : (2147483647 : Int) < (rows.length : Int)
 ·go_wp2
  go_ret
  exact ⟨false, rfl, HC1.out, trivial⟩
 ·go_wp2_with fail
  refine (zzFits8_any (HW.out.chg HC1.out (fun _ _ e => e)) HM.out (fun n r x h1 h2 => (HX.out n r x h1 h2).chg HC1.out (fun _ _ e => e)) HS.out).mono ?_
  rintro e w5 ⟨r, rfl, hc5, -⟩
  have HC5 := Hd (HC1.out.trans' hc5)
  clear hc5
  cases r with
  | false =>
   go_wp2
   go_ret
   exact ⟨false, rfl, HC5.out, trivial⟩
  | true =>
   go_wp2
   go_ret
   exact ⟨true, rfl, HC5.out, trivial⟩
abbrev cellsR (n s : K) (rev : Int) (up ins : Bool) : List Value := [.string n, .string s, .int .i64 rev, .bool up, .bool ins]
theorem zzFits12_any (n s : K) (rev : Int) (up ins : Bool) (hn : kSm n) (hs : kSm s) (w : World) : Calls Tryz.prog 26 #[.agg (cellsR n s rev up ins).toArray] w (YesPost w) := by
 have h1 := hn.int
 have h2 := hs.int
 have hfacts : ∀ W, (w.alloc (.cells (cellsR n s rev up ins).toArray 55)) = W -> Blk W w.heap.size (cellsR n s rev up ins) 55 /\ Chg No w W := by
  rintro W rfl
  exact ⟨Blk.new _ _ _, (Chg.refl No w).alloc _⟩
 have HF := Hd hfacts
 clear hfacts hn hs
 go_enter Tryz.func26, Tryz.ntmps26
 unfold cellsR
 go_upto_region 1 with fail
 generalize hgw : World.alloc _ _ = W
 obtain ⟨b0, c1⟩ := HF.out W hgw
 clear hgw HF
 have k0 : W.cell? ⟨w.heap.size, 0, none⟩ = some (.string n) := b0.cell 0
 have k1 : W.cell? ⟨w.heap.size, 1, none⟩ = some (.string s) := b0.cell 1
 have HC1 := Hd c1
 clear b0 c1
 go_wp2
 go_ret
 exact ⟨rfl, HC1.out⟩
theorem moRelease_any (n s : K) (rev : Int) (up ins : Bool) (hn : kSm n) (hs : kSm s) (w : World) : Calls Tryz.prog 27 #[.agg (cellsR n s rev up ins).toArray] w (BoolPost w fun r _ => r = true -> n.size ≤ 60 /\ s.size ≤ 60) := by
 have h1 : (n.size : Int) < 140737488355329 := by unfold kSm at hn; omega
 have h2 : (s.size : Int) < 140737488355329 := by unfold kSm at hs; omega
 have hfacts : ∀ W, (w.alloc (.cells (cellsR n s rev up ins).toArray 55)) = W -> Blk W w.heap.size (cellsR n s rev up ins) 55 /\ Chg No w W := by
  rintro W rfl
  exact ⟨Blk.new _ _ _, (Chg.refl No w).alloc _⟩
 have HF := Hd hfacts
 clear hfacts hn hs
 go_enter Tryz.func27, Tryz.ntmps27
 unfold cellsR
 go_upto_region 1 with fail
 generalize hgw : World.alloc _ _ = W
 obtain ⟨b0, c1⟩ := HF.out W hgw
 clear hgw HF
 have k0 : W.cell? ⟨w.heap.size, 0, none⟩ = some (.string n) := b0.cell 0
 have k1 : W.cell? ⟨w.heap.size, 1, none⟩ = some (.string s) := b0.cell 1
 have HC1 := Hd c1
 clear b0 c1
 by_cases hn : (n.size : Int) ≤ 60
 ·by_cases hs : (s.size : Int) ≤ 60
  ·go_wp2
   go_ret
   exact ⟨true, rfl, HC1.out, fun _ => ⟨by omega, by omega⟩⟩
  ·go_wp2
   go_ret
   exact ⟨false, rfl, HC1.out, fun h => by cases h⟩
 ·go_wp2
  go_ret
  exact ⟨false, rfl, HC1.out, fun h => by cases h⟩
structure Given (ok : Nat -> Prop) (w : World) (cs vs : List Value) (ch : Ch) (t : T) : Prop where
 chj : ChJ ok w cs ch
 chr : ChR 6 ch
 cnt : cnt ch ≤ 40
 valj : ValJ ok w vs (.table t)
 wf : Wf 300 50 (.table t)
 sz : sz (.table t) ≤ 300
 shal : ShalA (.table t)
 shc : ∀ e, ShC e ch
 off : (∀ e, OffN e ch) ∨ ∀ e, NoN e (.table t)
theorem mtGiven_any {ok : Nat -> Prop} {cs vs : List Value} {w : World} (h : RawC ok w cs) (hv : RawV ok w vs) : Calls Tryz.prog 8 #[.agg cs.toArray, .agg vs.toArray] w (BoolPost w fun r w' => r = true -> ∃ ch t, Given ok w' cs vs ch t) := by
 have H := Hd (h.mono (ok' := okB ok w) (fun b hb h => ⟨h, hb⟩))
 have HV := Hd (hv.mono (ok' := okB ok w) (fun b hb h => ⟨h, hb⟩))
 obtain ⟨name, ver, k, b, i, f, t, kv, lv, dv, wv, eqc, -⟩ := h.cells
 obtain ⟨vk, vb, vi, vf, vt, vkv, vlv, eqv⟩ := hv.cells
 subst eqc; subst eqv
 have hfacts : ∀ W, (w.alloc (.cells (cells11 name ver k b i f t kv lv dv wv).toArray 30)).alloc (.cells (cells7 vk vb vi vf vt vkv vlv).toArray 26) = W ->
   Blk W w.heap.size (cells11 name ver k b i f t kv lv dv wv) 30 /\ Blk W (w.heap.size + 1) (cells7 vk vb vi vf vt vkv vlv) 26 /\ Chg No w W := by
  rintro W rfl
  exact ⟨(Blk.new _ _ _).alloc _, Blk.newAt (by simp) _ _, ((Chg.refl No w).alloc _).alloc _⟩
 have HF := Hd hfacts
 clear h hv hfacts
 go_enter Tryz.func8, Tryz.ntmps8
 unfold cells11 cells7
 go_upto_region 1 with fail
 generalize hgw : World.alloc _ _ = W
 obtain ⟨b0, b1, c1⟩ := HF.out W hgw
 clear hgw HF
 have HB0 := Hd b0
 have HB1 := Hd b1
 have HC1 := Hd c1
 clear b1 c1
 go_wp2_with (first | (with_reducible refine wpList_loadAgg rfl agg30 rfl rfl b0.cells rfl ?_))
 refine (rightChart_any (H.out.chg HC1.out (fun _ _ e => e))).mono ?_
 rintro e w1 ⟨r1, rfl, hc1, hp1⟩
 have HC1 := Hd (HC1.out.trans' hc1)
 have HB0 := Hd (HB0.out.chg hc1 id)
 have HB1 := Hd (HB1.out.chg hc1 id)
 have HP1 := Hd hp1
 clear hc1 hp1 b0
 cases r1 with
 | false =>
  go_wp2
  go_ret
  exact ⟨false, rfl, HC1.out, fun h => by cases h⟩
 | true =>
  obtain ⟨ch, hcj, hcr, hcn⟩ := HP1.out rfl
  have HCJ := Hd hcj
  have HCR := Hd hcr
  have HCN := Hd hcn
  have b1 := HB1.out.cells
  clear hcj hcr hcn HP1
  go_wp2_with (first | (with_reducible refine wpList_loadAggG rfl agg26 rfl rfl b1 rfl ?_))
  refine (isTable_any vk vi vb vf vt vkv vlv w1).mono ?_
  rintro e w2 ⟨rfl, hc2⟩
  have HC2 := Hd (HC1.out.trans' hc2)
  have HB0 := Hd (HB0.out.chg hc2 id)
  have HB1 := Hd (HB1.out.chg hc2 id)
  have HCJ := Hd (HCJ.out.chg hc2 (fun _ _ e => e))
  clear hc2 b1
  by_cases h7 : vk = 7
  ·subst h7
   have b1 := HB1.out.cells
   go_wp2_with (first | (with_reducible refine wpList_loadAggG rfl agg26 rfl rfl b1 rfl ?_))
   refine (right_any (HV.out.chg HC2.out (fun _ _ e => e)) 300 (by decide)).mono ?_
   rintro e w3 ⟨r3, rfl, hc3, hp3⟩
   have HC3 := Hd (HC2.out.trans' hc3)
   have HB0 := Hd (HB0.out.chg hc3 id)
   have HB1 := Hd (HB1.out.chg hc3 id)
   have HCJ := Hd (HCJ.out.chg hc3 (fun _ _ e => e))
   have HP3 := Hd hp3
   clear hc3 hp3 b1
   cases r3 with
   | false =>
    go_wp2
    go_ret
    exact ⟨false, rfl, HC3.out, fun h => by cases h⟩
   | true =>
    obtain ⟨j, hj1, hj2, hj3⟩ := HP3.out rfl
    obtain ⟨t, rfl⟩ := isT_table (hj1.kindN.2.1 rfl)
    have HJ1 := Hd hj1
    have HJ2 := Hd (hj2.mono hj3 (Nat.le_refl _))
    have HJ3 := Hd hj3
    have b1 := HB1.out.cells
    clear hj1 hj2 hj3 HP3
    go_wp2_with (first | (with_reducible refine wpList_loadAggG rfl agg26 rfl rfl b1 rfl ?_))
    refine (mtShallow_any 300 50 _ _ _ _ HJ1.out HJ2.out).mono ?_
    rintro e w4 ⟨r4, rfl, hc4, hp4⟩
    have HC4 := Hd (HC3.out.trans' hc4)
    have HB0 := Hd (HB0.out.chg hc4 id)
    have HB1 := Hd (HB1.out.chg hc4 id)
    have HCJ := Hd (HCJ.out.chg hc4 (fun _ _ e => e))
    have HJ1 := Hd (HJ1.out.chg hc4 (fun _ _ e => e))
    have HP4 := Hd hp4
    clear hc4 hp4 b1
    cases r4 with
    | false =>
     go_wp2
     go_ret
     exact ⟨false, rfl, HC4.out, fun h => by cases h⟩
    | true =>
     have b0 := HB0.out.cells
     go_wp2_with (first | (with_reducible refine wpList_loadAggG rfl agg30 rfl rfl b0 rfl ?_))
     refine (mtCharts_any 6 _ _ _ _ HCJ.out HCR.out).mono ?_
     rintro e w5 ⟨r5, rfl, hc5, hp5⟩
     have HC5 := Hd (HC4.out.trans' hc5)
     have HB0 := Hd (HB0.out.chg hc5 id)
     have HB1 := Hd (HB1.out.chg hc5 id)
     have HCJ := Hd (HCJ.out.chg hc5 (fun _ _ e => e))
     have HJ1 := Hd (HJ1.out.chg hc5 (fun _ _ e => e))
     have HP5 := Hd hp5
     clear hc5 hp5 b0
     cases r5 with
     | false =>
      go_wp2
      go_ret
      exact ⟨false, rfl, HC5.out, fun h => by cases h⟩
     | true =>
      have b0 := HB0.out.cells
      go_wp2_with (first | (with_reducible refine wpList_loadAggG rfl agg30 rfl rfl b0 rfl ?_))
      refine (mtOff_any 6 _ _ _ _ HCJ.out HCR.out).mono ?_
      rintro e w6 ⟨r6, rfl, hc6, hp6⟩
      have HC6 := Hd (HC5.out.trans' hc6)
      have HB0 := Hd (HB0.out.chg hc6 id)
      have HB1 := Hd (HB1.out.chg hc6 id)
      have HCJ := Hd (HCJ.out.chg hc6 (fun _ _ e => e))
      have HJ1 := Hd (HJ1.out.chg hc6 (fun _ _ e => e))
      have HP6 := Hd hp6
      clear hc6 hp6 b0
      cases r6 with
      | false =>
       go_wp2
       go_ret
       exact ⟨true, rfl, HC6.out, fun _ => ⟨ch, t, ⟨HCJ.out.mono (fun b _ h => h.1), HCR.out, HCN.out, HJ1.out.mono (fun b _ h => h.1), HJ2.out, HJ3.out, HP4.out trivial, HP5.out trivial, .inl (HP6.out trivial)⟩⟩⟩
      | true =>
       have b1 := HB1.out.cells
       go_wp2_with (first | (with_reducible refine wpList_loadAggG rfl agg26 rfl rfl b1 rfl ?_))
       refine (mtNull_any 300 50 _ _ _ _ HJ1.out HJ2.out).mono ?_
       rintro e w7 ⟨r7, rfl, hc7, hp7⟩
       have HC7 := Hd (HC6.out.trans' hc7)
       have HCJ := Hd (HCJ.out.chg hc7 (fun _ _ e => e))
       have HJ1 := Hd (HJ1.out.chg hc7 (fun _ _ e => e))
       have HP7 := Hd hp7
       clear hc7 hp7 b1
       cases r7 with
       | true =>
        go_wp2
        go_ret
        exact ⟨false, rfl, HC7.out, fun h => by cases h⟩
       | false =>
        go_wp2
        go_ret
        exact ⟨true, rfl, HC7.out, fun _ => ⟨ch, t, ⟨HCJ.out.mono (fun b _ h => h.1), HCR.out, HCN.out, HJ1.out.mono (fun b _ h => h.1), HJ2.out, HJ3.out, HP4.out trivial, HP5.out trivial, .inr (HP7.out trivial)⟩⟩⟩
  ·have h7b : (vk == 7) = false := by simpa using h7
   clear h7
   go_wp2
   go_ret
   exact ⟨false, rfl, HC2.out, fun h => by cases h⟩
structure UE (ok : Nat -> Prop) (w : World) (a : T) (ba bb na : Nat) (fa : K -> Option Value) (Fa Fb M : K -> Nat -> Prop) : Prop where
 ta : TabO ok w ba na fa a Fa
 ma : ∀ k x, Fa k x -> M k x
 ap : ∀ k k' x, M k x -> M k' x -> k = k'
 mb : ∀ k x, M k x -> x ≠ ba /\ x ≠ bb /\ x < w.heap.size /\ ¬ ok x
 fb : ∀ k k' x, Fb k x -> M k' x -> k = k'
 fbl : ∀ k x, Fb k x -> x < w.heap.size /\ x ≠ ba
 bab : ba ≠ bb
 bbl : bb < w.heap.size
 bok : ¬ ok ba
 okl : ∀ x, ok x -> x < w.heap.size
structure UT (ok : Nat -> Prop) (w : World) (tgt : K -> Option J) (a b : T) (ba bb r lim nf : Nat) (fa fs : K -> Option Value) (Fa Fb M : K -> Nat -> Prop) (wr : World) (left : K -> Bool) (cnt nd : Nat) (fd : K -> Option Value) (F : K -> Nat -> Prop) : Prop where
 rng : RangeB wr bb r nf fs left cnt
 num : nd + cnt ≤ lim
 dst : MapB wr ba nd fd
 hit : ∀ k, left k = false -> (fs k).isSome = true -> (fd k).isSome = (tgt k).isSome /\ ∀ u z, fd k = some u -> tgt k = some z -> AnyO ok wr u z (F k)
 miss : ∀ k, (left k = true ∨ fs k = none) -> fd k = fa k /\ ∀ x, F k x ↔ Fa k x
 old : ∀ k, (left k = true ∨ fs k = none) -> ∀ u x, fa k = some u -> get a k = some x -> AnyO ok wr u x (Fa k)
 src : ∀ k, left k = true -> ∀ u y, fs k = some u -> get b k = some y -> AnyO ok wr u y (Fb k)
 sub : ∀ k x, F k x -> M k x ∨ w.heap.size ≤ x /\ x ≠ r
 lt : ∀ k x, F k x -> x < wr.heap.size
 apart : ∀ k k' x, F k x -> F k' x -> k = k'
 noF : ∀ k, fd k = none -> ∀ x, ¬ F k x
 chg : Chg (fun x => x = ba ∨ ∃ k, M k x) w wr
 rs : w.heap.size ≤ r
theorem UT.step {ok : Nat -> Prop} {w : World} {tgt : K -> Option J} {a b : T} {ba bb r lim nf na : Nat} {fa fs : K -> Option Value} {Fa Fb M : K -> Nat -> Prop} {wr : World} {left : K -> Bool} {cnt nd : Nat} {fd : K -> Option Value} {F : K -> Nat -> Prop}
  (h : UT ok w tgt a b ba bb r lim nf fa fs Fa Fb M wr left cnt nd fd F) (e : UE ok w a ba bb na fa Fa Fb M) {k : K} {w3 : World} {cnt' nd' : Nat} {fd' : K -> Option Value} {G : Nat -> Prop} (hl : left k = true) (hf : (fs k).isSome = true) (hlt : cnt' < cnt) (hnd : nd' ≤ nd + 1)
  {w1 : World} (hrg : RangeB w1 bb r nf fs (fun z => left z && !(z == k)) cnt') (hc1 : Chg (· = r) wr w1) (hc : Chg (fun x => x = ba ∨ M k x) w1 w3) (hd : MapB w3 ba nd' fd') (hfd : ∀ z, z ≠ k -> fd' z = fd z)
  (hnew : (fd' k).isSome = (tgt k).isSome /\ ∀ u z, fd' k = some u -> tgt k = some z -> AnyO ok w3 u z G) (hsub : ∀ x, G x -> M k x ∨ w1.heap.size ≤ x) (hno : fd' k = none -> ∀ x, ¬ G x) :
  UT ok w tgt a b ba bb r lim nf fa fs Fa Fb M w3 (fun z => left z && !(z == k)) cnt' nd' fd' (fun z => if z = k then G else F z) := by
 have hrs := h.rs
 have hrl := h.rng.lt
 have hsz1 := hc1.size
 have hsz3 := hc.size
 have hszw := h.chg.size
 have hbaL : ba < w.heap.size := e.ta.map.lt
 have hlk : ∀ z, z ≠ k -> (left z && !(z == k)) = left z := fun z hz => by
  have : (z == k) = false := by rw [k_beq]; exact decide_eq_false hz
  rw [this]; simp
 have hnl : ∀ z, ((left z && !(z == k)) = true ∨ fs z = none) -> z ≠ k := fun z hz q => by
  subst q
  rcases hz with hz | hz
  ·simp at hz
  ·rw [hz] at hf; cases hf
 have keep : ∀ {u : Value} {j : J} {S : Nat -> Prop}, AnyO ok wr u j S -> (∀ x, S x -> x < wr.heap.size /\ x ≠ ba /\ x ≠ r /\ ¬ M k x) -> AnyO ok w3 u j S := by
  intro u j S ho hS
  refine (ho.chg hc1 (fun x hx q => ?_) (fun x hx q => ?_)).chg hc (fun x hx q => ?_) (fun x hx q => ?_)
  ·have := e.okl x hx; omega
  ·exact (hS x hx).2.2.1 q
  ·rcases q with q | q
   ·exact e.bok (q ▸ hx)
   ·exact (e.mb k x q).2.2.2 hx
  ·obtain ⟨h1, h2, h3, h4⟩ := hS x hx
   rcases q with q | q
   ·exact h2 q
   ·exact h4 q
 have hFk : ∀ z, z ≠ k -> ∀ x, F z x -> x < wr.heap.size /\ x ≠ ba /\ x ≠ r /\ ¬ M k x := by
  intro z hz x hx
  rcases h.sub z x hx with q | q
  ·have h5 := e.mb z x q
   exact ⟨by omega, h5.1, fun h6 => by omega, fun q2 => hz (e.ap z k x q q2)⟩
  ·exact ⟨h.lt z x hx, fun h6 => by omega, q.2, fun q2 => by have := (e.mb k x q2).2.2.1; omega⟩
 have hGl : ∀ x, G x -> x < w3.heap.size := by
  intro x hx
  cases hfk : fd' k with
  | none => exact absurd hx (hno hfk x)
  | some u =>
   have h1 := hnew.1
   rw [hfk] at h1
   cases ht : tgt k with
   | none => rw [ht] at h1; cases h1
   | some z => exact (hnew.2 u z hfk ht).lt x hx
 refine ⟨hrg.chg hc (fun q => ?_) (fun q => ?_), by have := h.num; omega, hd, fun z hz hfz => ?_, fun z hz => ?_, fun z hz u x hu hx => ?_, fun z hz u y hu hy => ?_, fun z x hx => ?_, fun z x hx => ?_, fun z z' x hx hx' => ?_, fun z hz x hx => ?_, ?_, hrs⟩
 ·rcases q with q | q
  ·exact e.bab q.symm
  ·exact (e.mb k bb q).2.1 rfl
 ·rcases q with q | q
  ·omega
  ·have := (e.mb k r q).2.2.1; omega
 ·by_cases hzk : z = k
  ·subst hzk; rw [if_pos rfl]; exact hnew
  ·rw [hlk z hzk] at hz
   rw [if_neg hzk, hfd z hzk]
   obtain ⟨h1, h2⟩ := h.hit z hz hfz
   exact ⟨h1, fun u x hu hx => keep (h2 u x hu hx) (hFk z hzk)⟩
 ·have hzk := hnl z hz
  rw [hlk z hzk] at hz
  rw [if_neg hzk, hfd z hzk]
  exact h.miss z hz
 ·have hzk := hnl z hz
  rw [hlk z hzk] at hz
  exact keep (h.old z hz u x hu hx) (fun x hx => by
   have h5 := e.mb z x (e.ma z x hx)
   exact ⟨by omega, h5.1, by omega, fun q2 => hzk (e.ap z k x (e.ma z x hx) q2)⟩)
 ·have hzk := hnl z (.inl hz)
  rw [hlk z hzk] at hz
  exact keep (h.src z hz u y hu hy) (fun x hx => by
   have h5 := e.fbl z x hx
   exact ⟨by omega, h5.2, by omega, fun q2 => hzk (e.fb z k x hx q2)⟩)
 ·by_cases hzk : z = k
  ·rw [if_pos hzk] at hx
   rw [hzk]
   rcases hsub x hx with q | q
   ·exact .inl q
   ·exact .inr ⟨by omega, by omega⟩
  ·rw [if_neg hzk] at hx; exact h.sub z x hx
 ·by_cases hzk : z = k
  ·rw [if_pos hzk] at hx; exact hGl x hx
  ·rw [if_neg hzk] at hx; have := h.lt z x hx; omega
 ·by_cases hzk : z = k
  ·by_cases hzk' : z' = k
   ·rw [hzk, hzk']
   ·rw [if_pos hzk] at hx
    rw [if_neg hzk'] at hx'
    have h5 := hFk z' hzk' x hx'
    rcases hsub x hx with q | q
    ·exact absurd q h5.2.2.2
    ·omega
  ·rw [if_neg hzk] at hx
   by_cases hzk' : z' = k
   ·rw [if_pos hzk'] at hx'
    have h5 := hFk z hzk x hx
    rcases hsub x hx' with q | q
    ·exact absurd q h5.2.2.2
    ·omega
   ·rw [if_neg hzk'] at hx'
    exact h.apart z z' x hx hx'
 ·by_cases hzk : z = k
  ·rw [if_pos hzk] at hx; rw [hzk] at hz; exact hno hz x hx
  ·rw [if_neg hzk] at hx; rw [hfd z hzk] at hz; exact h.noF z hz x hx
 ·refine (h.chg.trans hc1 (fun x hx q => by omega)).trans hc (fun x hx q => ?_)
  rcases q with q | q
  ·exact .inl q
  ·exact .inr ⟨k, q⟩
theorem UT.done {ok : Nat -> Prop} {w : World} {tgt : K -> Option J} {a b : T} {ba bb r lim nf na : Nat} {fa fs : K -> Option Value} {Fa Fb M : K -> Nat -> Prop} {wr : World} {left : K -> Bool} {cnt nd : Nat} {fd : K -> Option Value} {F : K -> Nat -> Prop}
  (h : UT ok w tgt a b ba bb r lim nf fa fs Fa Fb M wr left cnt nd fd F) (e : UE ok w a ba bb na fa Fa Fb M) (hl : ∀ k, left k = false) {t : T} (ht : ∀ k, get t k = tgt k) (hs : ∀ k, fs k = none -> tgt k = get a k) :
  TabO ok wr ba nd fd t F := by
 refine ⟨h.dst, fun k => ?_, fun k u z hu hz => ?_, h.apart, fun k hk => ?_, h.noF⟩
 ·rw [ht]
  cases hf : fs k with
  | none => rw [(h.miss k (.inr hf)).1, hs k hf, e.ta.dom]
  | some u => exact (h.hit k (hl k) (by rw [hf]; rfl)).1
 ·rw [ht] at hz
  cases hf : fs k with
  | none =>
   rw [hs k hf] at hz
   obtain ⟨h1, h2⟩ := h.miss k (.inr hf)
   rw [h1] at hu
   exact (h.old k (.inr hf) u z hu hz).set h2
  | some v => exact (h.hit k (hl k) (by rw [hf]; rfl)).2 u z hu hz
 ·rcases h.sub k ba hk with q | q
  ·exact (e.mb k ba q).1 rfl
  ·have := e.ta.map.lt; omega
theorem UT.start {ok : Nat -> Prop} {w : World} {tgt : K -> Option J} {a b : T} {ba bb na nb cnt lim : Nat} {fa fs : K -> Option Value} {Fa Fb M : K -> Nat -> Prop} {w0 : World} (e : UE ok w a ba bb na fa Fa Fb M)
  (hrg : RangeB w0 bb w.heap.size nb fs (fun k => (fs k).isSome) cnt) (hlim : na + cnt ≤ lim) (hc : Chg No w w0) (hsrc : ∀ k u y, fs k = some u -> get b k = some y -> AnyO ok w u y (Fb k)) :
  UT ok w tgt a b ba bb w.heap.size lim nb fa fs Fa Fb M w0 (fun k => (fs k).isSome) cnt na fa Fa := by
 have hsz := hc.size
 exact ⟨hrg, hlim, e.ta.map.chg hc id, fun k h1 h2 => (by rw [h2] at h1; cases h1), fun k _ => ⟨rfl, fun x => Iff.rfl⟩,
  fun k _ u x hu hx => (e.ta.val k u x hu hx).chg hc (fun _ _ q => q) (fun _ _ q => q), fun k _ u y hu hy => (hsrc k u y hu hy).chg hc (fun _ _ q => q) (fun _ _ q => q),
  fun k x hx => .inl (e.ma k x hx), fun k x hx => by have := e.ta.lt (.inr ⟨k, hx⟩); omega, e.ta.apart, e.ta.none, hc.mono (fun _ _ q => q.elim), Nat.le_refl _⟩
def OwnJ (ok Sa : Nat -> Prop) (w w' : World) (v : Value) (j : J) : Prop :=
 ∃ R S, AnyO R w' v j S /\ (∀ x, R x -> x < w'.heap.size /\ (okB ok w x ∨ w.heap.size ≤ x)) /\ (∀ x, S x -> Sa x ∨ w.heap.size ≤ x) /\ (∀ x, R x -> ¬ S x) /\ Chg Sa w w'
section
variable {ok : Nat -> Prop} {w : World} {tgt : K -> Option J} {a b : T} {ba bb r lim nf na : Nat} {fa fs : K -> Option Value} {Fa Fb M : K -> Nat -> Prop} {wr : World} {left : K -> Bool} {cnt nd : Nat} {fd : K -> Option Value} {F : K -> Nat -> Prop}
theorem UT.okl1 (h : UT ok w tgt a b ba bb r lim nf fa fs Fa Fb M wr left cnt nd fd F) (e : UE ok w a ba bb na fa Fa Fb M) {w1 : World} (hc1 : Chg (· = r) wr w1) {u : Value} {x : J} {S : Nat -> Prop} (ho : AnyO ok wr u x S) (hS : ∀ y, S y -> y < w.heap.size) : AnyO ok w1 u x S :=
 ho.chg hc1 (fun y hy q => by have := e.okl y hy; have := h.rs; omega) (fun y hy q => by have := hS y hy; have := h.rs; omega)
theorem UE.faL (e : UE ok w a ba bb na fa Fa Fb M) {k : K} : ∀ y, Fa k y -> y < w.heap.size := fun y hy => (e.mb k y (e.ma k y hy)).2.2.1
theorem UE.fbL (e : UE ok w a ba bb na fa Fa Fb M) {k : K} : ∀ y, Fb k y -> y < w.heap.size := fun y hy => (e.fbl k y hy).1
theorem UT.keep (h : UT ok w tgt a b ba bb r lim nf fa fs Fa Fb M wr left cnt nd fd F) (e : UE ok w a ba bb na fa Fa Fb M) {k : K} {w1 w3 : World} {cnt' : Nat} {u0 : Value} {x : J} (hl : left k = true) (hf : (fs k).isSome = true) (hlt : cnt' < cnt)
  (hrg : RangeB w1 bb r nf fs (fun z => left z && !(z == k)) cnt') (hc1 : Chg (· = r) wr w1) (hc : Chg No w1 w3) (hfa : fa k = some u0) (hga : get a k = some x) (ht : tgt k = some x) :
  UT ok w tgt a b ba bb r lim nf fa fs Fa Fb M w3 (fun z => left z && !(z == k)) cnt' nd fd (fun z => if z = k then Fa k else F z) := by
 have hm := (h.miss k (.inl hl)).1
 have hrs := h.rs
 have hbaL : ba < w.heap.size := e.ta.map.lt
 refine h.step e hl hf hlt (Nat.le_succ nd) hrg hc1 (hc.mono (fun _ _ q => q.elim)) ((h.dst.chg hc1 (by omega)).chg hc id) (fun _ _ => rfl) ⟨by rw [hm, hfa, ht]; rfl, fun u z hu hz => ?_⟩ (fun y hy => .inl (e.ma k y hy)) (fun q => by rw [hm, hfa] at q; cases q)
 rw [hm, hfa] at hu
 rw [ht] at hz
 cases hu
 cases hz
 exact (h.okl1 e hc1 (h.old k (.inl hl) u0 x hfa hga) e.faL).chg hc (fun _ _ q => q) (fun _ _ q => q)
theorem UT.bring (h : UT ok w tgt a b ba bb r lim nf fa fs Fa Fb M wr left cnt nd fd F) (e : UE ok w a ba bb na fa Fa Fb M) {k : K} {w1 w3 : World} {cnt' : Nat} {u : Value} {y : J} (hl : left k = true) (hf : fs k = some u) (hlt : cnt' < cnt)
  (hrg : RangeB w1 bb r nf fs (fun z => left z && !(z == k)) cnt') (hc1 : Chg (· = r) wr w1) (hc : Chg (· = ba) w1 w3) (hd : MapB w3 ba (nd + 1) (fun z => if z = k then some u else fd z)) (hgb : get b k = some y) (ht : tgt k = some y) (hsub : ∀ x, Fb k x -> M k x) :
  UT ok w tgt a b ba bb r lim nf fa fs Fa Fb M w3 (fun z => left z && !(z == k)) cnt' (nd + 1) (fun z => if z = k then some u else fd z) (fun z => if z = k then Fb k else F z) := by
 refine h.step e hl (by rw [hf]; rfl) hlt (Nat.le_refl _) hrg hc1 (hc.mono (fun _ _ q => .inl q)) hd (fun z hz => by rw [if_neg hz]) ⟨by rw [if_pos rfl, ht]; rfl, fun v z hv hz => ?_⟩ (fun x hx => .inl (hsub x hx)) (fun q => by rw [if_pos rfl] at q; cases q)
 rw [if_pos rfl] at hv
 rw [ht] at hz
 cases hv
 cases hz
 exact (h.okl1 e hc1 (h.src k hl u y hf hgb) e.fbL).chg hc (fun x hx q => e.bok (q ▸ hx)) (fun x hx q => (e.fbl k x hx).2 q)
theorem UT.gone (h : UT ok w tgt a b ba bb r lim nf fa fs Fa Fb M wr left cnt nd fd F) (e : UE ok w a ba bb na fa Fa Fb M) {k : K} {w1 w3 : World} {cnt' nd' : Nat} (hl : left k = true) (hf : (fs k).isSome = true) (hlt : cnt' < cnt) (hnd : nd' ≤ nd + 1)
  (hrg : RangeB w1 bb r nf fs (fun z => left z && !(z == k)) cnt') (hc1 : Chg (· = r) wr w1) (hc : Chg (· = ba) w1 w3) (hd : MapB w3 ba nd' (fun z => if z = k then none else fd z)) (ht : tgt k = none) :
  UT ok w tgt a b ba bb r lim nf fa fs Fa Fb M w3 (fun z => left z && !(z == k)) cnt' nd' (fun z => if z = k then none else fd z) (fun z => if z = k then No else F z) := by
 refine h.step e hl hf hlt hnd hrg hc1 (hc.mono (fun _ _ q => .inl q)) hd (fun z hz => by rw [if_neg hz]) ⟨(by rw [if_pos rfl, ht]; rfl), fun v z hv hz => ?_⟩ (fun x hx => hx.elim) (fun _ _ q => q)
 rw [if_pos rfl] at hv; cases hv
theorem UT.inPlace (h : UT ok w tgt a b ba bb r lim nf fa fs Fa Fb M wr left cnt nd fd F) (e : UE ok w a ba bb na fa Fa Fb M) {k : K} {w1 w3 : World} {cnt' : Nat} {u0 : Value} {z : J} {G : Nat -> Prop} (hl : left k = true) (hf : (fs k).isSome = true) (hlt : cnt' < cnt)
  (hrg : RangeB w1 bb r nf fs (fun z => left z && !(z == k)) cnt') (hc1 : Chg (· = r) wr w1) (hc : Chg (M k) w1 w3) (hfa : fa k = some u0) (ht : tgt k = some z) (ho : AnyO ok w3 u0 z G) (hsub : ∀ x, G x -> M k x ∨ w1.heap.size ≤ x) :
  UT ok w tgt a b ba bb r lim nf fa fs Fa Fb M w3 (fun z => left z && !(z == k)) cnt' nd fd (fun z => if z = k then G else F z) := by
 have hm := (h.miss k (.inl hl)).1
 have hrs := h.rs
 have hbaL : ba < w.heap.size := e.ta.map.lt
 refine h.step e hl hf hlt (Nat.le_succ nd) hrg hc1 (hc.mono (fun _ _ q => .inr q)) ((h.dst.chg hc1 (by omega)).chg hc (fun q => (e.mb k ba q).1 rfl)) (fun _ _ => rfl) ⟨by rw [hm, hfa, ht]; rfl, fun u z hu hz => ?_⟩ hsub (fun q => by rw [hm, hfa] at q; cases q)
 rw [hm, hfa] at hu
 rw [ht] at hz
 cases hu
 cases hz
 exact ho
end
theorem zzCopyMap_nil (w : World) : Calls Tryz.prog 116 #[.map none] w fun e w' => e = .returned (.map none) /\ w' = w := by
 have h := run_nilNil
 go_enter Tryz.func116, Tryz.ntmps116
 go_wp2
 go_ret
 exact ⟨rfl, rfl⟩
theorem over_nil (m : Bool) (dep : K -> Bool) {v : T} (hv : Sorted v) : over m dep v [] = v := by
 refine t_ext (sorted_over _ _ _ _) hv fun k => ?_
 rw [get_over, show get [] k = none from rfl, overAt_none]
def PutPost (ok Sa : Nat -> Prop) (w : World) (v : Value) (j : J) (e : Ending) (w' : World) : Prop := e = .returned (.tuple #[]) /\ OwnJ ok Sa w w' v j
theorem coalesceValues_any (U : List K) (N : Nat) (hN : N < 1099511627776) (hUN : U.length ≤ N) (hUk : ∀ k ∈ U, kOk k) (m : Bool) (d : Nat) (ok : Nat -> Prop) (c : Ch) (p : Nat) (v : T) (ba : Nat) (Sa : Nat -> Prop) (w : World) (pre : K) (hch : ChartM ok w p c)
  (ha : AnyO ok w (.iface 67 (.map (some ba))) (.table v) Sa) (hnok : ∀ x, Sa x -> ¬ ok x) (wa : WU U N d (.table v)) (wb : ∀ t, c.vals = .table t -> WU U N d (.table t)) (hname : kOk c.name) (hpre : pre.size + (d + 4) * 140737488355329 ≤ 900000000000000000) :
  Calls Tryz.prog 117 #[printV, .pointer (some ⟨p, 0, none⟩), .map (some ba), .string pre, .bool m] w (PutPost ok Sa w (.iface 67 (.map (some ba))) (.table (over m (hasDep c.deps) v (tabOf c.vals)))) := by
 have HCM := Hd hch.bel
 cases hch with
 | @mk _ pm mv par dv wv name ver vals deps wants ps hp okp hm okm hv hd hn hh =>
  simp only [Ch.name, Ch.vals, Ch.deps] at hname wb ⊢
  obtain ⟨d, rfl⟩ : ∃ d', d = d' + 1 := by
   cases d with
   | zero => exact wa.elim
   | succ d => exact ⟨d, rfl⟩
  have k0 : w.cell? ⟨p, 0, none⟩ = some (.pointer (some ⟨pm, 0, none⟩)) := hp.cell 0
  have k1 : w.cell? ⟨p, 1, none⟩ = some mv := hp.cell 1
  have q0 : w.cell? ⟨pm, 0, none⟩ = some (.string name) := hm.cell 0
  have hp18 : pre.size ≤ 1000000000000000000 := by omega
  have hk18 : name.size ≤ 1000000000000000000 := by unfold kOk at hname; omega
  have hcp := concatPrefix_any pre name w hp18 hk18
  have HCP := Hd hcp
  have HPN := Hd (show pre.size + name.size + 1 + (d + 4) * 140737488355329 ≤ 900000000000000000 by unfold kOk at hname; omega)
  have HNOK := Hd hnok
  have HA := Hd ha
  have WA := Hd wa
  have HUK := Hd hUk
  clear hp okp hm okm hd hn hh hcp hp18 hk18 hname hpre hnok ha wa hUk
  rcases hv with ⟨rfl, rfl⟩ | ⟨t, g0, rfl, rfl, htab⟩
  ·clear wb
   go_enter Tryz.func117, Tryz.ntmps117
   go_wp2_with fail
   refine HCP.out.mono ?_
   rintro e wt ⟨⟨sp, rfl, hsp⟩, hwt⟩
   obtain rfl := hwt.symm
   have hrgn := run_range_nilMap (P := Tryz.prog) w 67 9 20 Tryz.underlying67
   have hnx : ∀ ty, (Instr.next (.pointer (some ⟨w.heap.size, 0, none⟩)) false ty).run Tryz.prog (w.alloc (.mapIter none 0 #[] 0)) = _ := fun ty => run_next_nilMap _ ty 0 0 #[]
   clear hsp
   go_wp2_with fail
   refine (zzCopyMap_nil w).mono ?_
   rintro e wt ⟨rfl, hwt⟩
   obtain rfl := hwt.symm
   go_wp2_with fail
   refine wp_loop_rounds 1 ?_
   rw [rounds_succ]
   go_wp2
   refine bodyPost_end (results_none rfl _ _ _) rfl ?_
   refine ⟨rfl, okB ok w, Sa, ?_, fun x hx => ⟨by have := hx.2; simp; omega, .inl hx⟩, fun x hx => .inl hx, fun x hx hs => HNOK.out x hs hx.1, ((Chg.refl No w).alloc _).mono (fun _ _ q => q.elim)⟩
   rw [show tabOf .null = [] from rfl, over_nil _ _ WA.out.sorted]
   exact HA.out.bel.chg ((Chg.refl No w).alloc _) (fun _ _ q => q) (fun _ _ q => q)
  ·have HWB := Hd (wb t rfl)
   have hcm := zzCopyMap_of N (d + 1) hN (zzCopy_any N hN (d + 1)) ok t g0 w htab (by
    have h := HWB.out
    exact (h.mono (fun _ h => h) (Nat.le_refl _) (Nat.le_succ (d + 1))).wf HUK.out hUN)
   have HCY := Hd hcm
   clear wb htab hcm
   go_enter Tryz.func117, Tryz.ntmps117
   go_wp2_with fail
   refine HCP.out.mono ?_
   rintro e wt ⟨⟨sp, rfl, hsp⟩, hwt⟩
   obtain rfl := hwt.symm
   have HSP := Hd (show sp.size + (d + 4) * 140737488355329 ≤ 900000000000000000 by have := HPN.out; omega)
   clear hsp HPN HCP
   go_wp2_with fail
   refine HCY.out.mono ?_
   rintro e w1 ⟨bb, rfl, R, Sb, hco, hR, hSb, hc1⟩
   obtain ⟨ok1, hok1⟩ : ∃ ok1 : Nat -> Prop, ok1 = fun x => okB ok w x ∨ okB R w1 x := ⟨_, rfl⟩
   have HOK1 := Hd hok1
   have hao : AnyO ok1 w1 (.iface 67 (.map (some ba))) (.table v) Sa := (HA.out.bel.chg hc1 (fun _ _ q => q) (fun _ _ q => q)).mono (fun x _ hx => by rw [HOK1.out]; exact .inl hx)
   have hbo : AnyO ok1 w1 (.iface 67 (.map (some bb))) (.table t) Sb := hco.bel.mono (fun x _ hx => by rw [HOK1.out]; exact .inr hx)
   have hchm : ChartM ok1 w1 p (.mk name ver (.table t) deps wants) := (HCM.out.chg hc1 (fun _ _ q => q)).mono (fun x _ hx => by rw [HOK1.out]; exact .inl hx)
   have hSaL : ∀ x, Sa x -> x < w.heap.size := HA.out.lt
   obtain ⟨_, na0, fa, Fa, ea, ta, hSa⟩ := hao.tab
   obtain ⟨_, nb0, fb, Fb, eb, tb, hSbF⟩ := hbo.tab
   cases ea
   cases eb
   replace ta := ta.fit
   replace tb := tb.fit
   obtain ⟨na, hna⟩ : ∃ na, na = v.length := ⟨_, rfl⟩
   obtain ⟨nb, hnb⟩ : ∃ nb, nb = t.length := ⟨_, rfl⟩
   rw [← hna] at ta
   rw [← hnb] at tb
   have hsz := hc1.size
   have hFaL : ∀ k x, Fa k x -> x < w.heap.size := fun k x hx => hSaL x ((hSa x).2 (.inr ⟨k, hx⟩))
   have hFbL : ∀ k x, Fb k x -> w.heap.size ≤ x /\ x < w1.heap.size := fun k x hx => ⟨hSb x ((hSbF x).2 (.inr ⟨k, hx⟩)), tb.lt (.inr ⟨k, hx⟩)⟩
   have hbaL : ba < w.heap.size := hSaL ba ((hSa ba).2 (.inl rfl))
   have hbbL : w.heap.size ≤ bb := hSb bb ((hSbF bb).2 (.inl rfl))
   have HE := Hd (show UE ok1 w1 v ba bb na fa Fa Fb (fun k x => Fa k x ∨ Fb k x) from
    ⟨ta, fun k x hx => .inl hx, fun k k' x hx hx' => by
     rcases hx with hx | hx <;> rcases hx' with hx' | hx'
     ·exact ta.apart k k' x hx hx'
     ·have := hFaL k x hx; have := (hFbL k' x hx').1; omega
     ·have := hFaL k' x hx'; have := (hFbL k x hx).1; omega
     ·exact tb.apart k k' x hx hx',
    fun k x hx => by
     rcases hx with hx | hx
     ·refine ⟨fun q => ta.notb k (q ▸ hx), fun q => by have := hFaL k x hx; omega, by have := hFaL k x hx; omega, fun q => ?_⟩
      rw [hok1] at q
      rcases q with q | q
      ·exact HNOK.out x ((hSa x).2 (.inr ⟨k, hx⟩)) q.1
      ·have := (hR x q.1).1; have := hFaL k x hx; omega
     ·refine ⟨fun q => by have := (hFbL k x hx).1; omega, fun q => tb.notb k (q ▸ hx), (hFbL k x hx).2, fun q => ?_⟩
      rw [hok1] at q
      rcases q with q | q
      ·have := q.2; have := (hFbL k x hx).1; omega
      ·exact (hR x q.1).2 ((hSbF x).2 (.inr ⟨k, hx⟩)),
    fun k k' x hx hx' => by
     rcases hx' with hx' | hx'
     ·have := hFaL k' x hx'; have := (hFbL k x hx).1; omega
     ·exact tb.apart k k' x hx hx',
    fun k x hx => ⟨(hFbL k x hx).2, fun q => by have := (hFbL k x hx).1; omega⟩, by omega, tb.map.lt, fun q => by
     rw [hok1] at q
     rcases q with q | q
     ·exact HNOK.out ba ((hSa ba).2 (.inl rfl)) q.1
     ·have := (hR ba q.1).1; omega,
    fun x hx => by
     rw [hok1] at hx
     rcases hx with hx | hx
     ·have := hx.2; omega
     ·exact hx.2⟩)
   have HSRC := Hd tb.val
   have HTBN := Hd (show ∀ k, fb k = none -> get t k = none from fun k hk => tb.get_none hk)
   have HTBS := Hd (show ∀ k u, fb k = some u -> ∃ y, get t k = some y from fun k u hk => by obtain ⟨y, hy, -⟩ := tb.some hk; exact ⟨y, hy⟩)
   have HNN := Hd (show na < 1099511627776 /\ nb < 1099511627776 by have h1 := WA.out.len; have h2 := HWB.out.len; omega)
   have HCHM := Hd hchm
   have HC01 := Hd hc1
   have HFIN := Hd (show (∀ x, ok1 x -> okB ok w x ∨ w.heap.size ≤ x) /\ (∀ k x, Fa k x -> Sa x) /\ (∀ k x, Fb k x -> w.heap.size ≤ x) /\ Sa ba from
    ⟨fun x hx => by
     rw [hok1] at hx
     rcases hx with hx | hx
     ·exact .inl hx
     ·exact .inr (hR x hx.1).1, fun k x hx => (hSa x).2 (.inr ⟨k, hx⟩), fun k x hx => (hFbL k x hx).1, (hSa ba).2 (.inl rfl)⟩)
   have HSAL := Hd hSaL
   have hmb := tb.map
   have htgt : ∀ k, fb k = none -> overAt m (hasDep deps k) (get v k) (get t k) = get v k := fun k hk => by rw [HTBN.out k hk, overAt_none]
   have HTGT := Hd htgt
   clear hco hR hSb hc1 hok1 hao hbo hchm hSaL hSa hSbF ta tb hna hnb hFaL hFbL hbaL hbbL hsz htgt HCY HOK1 HA HCM
   go_wp2_with (first | (at_range; refine wpList_rangeB rfl rfl rfl hmb ?_; intro w0 cnt0 hrg0 hcn0 hc0 hs0; go_frame))
   have HU0 := Hd (UT.start (tgt := fun k => overAt m (hasDep deps k) (get v k) (get t k)) (b := t) (lim := na + cnt0) HE.out hrg0 (Nat.le_refl _) hc0 HSRC.out)
   obtain ⟨r, hr⟩ : ∃ r, r = w1.heap.size := ⟨_, rfl⟩
   have HR := Hd hr
   have HLIM := Hd (show na + cnt0 < 3298534883328 by have := HNN.out; omega)
   rw [← hr] at HU0 ⊢
   clear hr hrg0 hcn0 hc0 hs0 hmb
   go_loopw [12] (fun _ wr => ∃ (left : K -> Bool) (cnt nd : Nat) (fd : K -> Option Value) (F : K -> Nat -> Prop), UT ok1 w1 (fun k => overAt m (hasDep deps k) (get v k) (get t k)) v t ba bb r (na + cnt0) nb fa fb Fa Fb (fun k x => Fa k x ∨ Fb k x) wr left cnt nd fd F) (fun _ wr => wr.rangeLeft bb r)
   case atStart => exact ⟨_, _, _, _, _, HU0.out⟩
   case round =>
    obtain ⟨left, cnt, nd, fd, F, hut⟩ := hrel
    have HUT := Hd hut
    have hrg := hut.rng
    clear hut HU0
    go_wp2_with (first | (at_next; refine wpList_nextB rfl rfl rfl hrg ?_ ?_))
    ·intro hc0 hl0
     have HD := Hd (HUT.out.done HE.out hl0 (t := over m (hasDep deps) v t) (get_over _ _ _ _) HTGT.out)
     clear hl0 hrg
     go_wp2
     refine bodyPost_end (results_none rfl _ _ _) rfl ?_
     have hsz := HUT.out.chg.size
     have hsz1 := HC01.out.size
     refine ⟨rfl, ok1, footT ba F, HD.out.any, fun x hx => ⟨by have := HE.out.okl x hx; omega, HFIN.out.1 x hx⟩, fun x hx => ?_, fun x hx hs => ?_, ?_⟩
     ·rcases hx with rfl | ⟨k, hx⟩
      ·exact .inl HFIN.out.2.2.2
      ·rcases HUT.out.sub k x hx with (q | q) | q
       ·exact .inl (HFIN.out.2.1 k x q)
       ·exact .inr (HFIN.out.2.2.1 k x q)
       ·exact .inr (by have := q.1; omega)
     ·rcases hs with rfl | ⟨k, hs⟩
      ·exact HE.out.bok hx
      ·rcases HUT.out.sub k x hs with q | q
       ·exact (HE.out.mb k x q).2.2.2 hx
       ·have := HE.out.okl x hx; omega
     ·refine (HC01.out.mono (fun _ _ q => q.elim)).trans HUT.out.chg (fun x hx q => ?_)
      rcases q with q | ⟨k, q | q⟩
      ·rw [q]; exact HFIN.out.2.2.2
      ·exact HFIN.out.2.1 k x q
      ·have := HFIN.out.2.2.1 k x q; omega
    ·intro k u w2 cnt2 hk hlk hfv hrg1 hlt hc1 hs1 hen
     have HFD := Hd (HUT.out.miss k (.inl hlk)).1
     have HFV := Hd hfv
     have HFS := Hd (show (fb k).isSome = true by rw [hfv]; rfl)
     have HLK := Hd hlk
     have HLT := Hd hlt
     have HRG1 := Hd hrg1
     have HC1 := Hd hc1
     have HLE := Hd hrg.left_eq
     have HSR := Hd (show w1.heap.size ≤ w2.heap.size by have := HUT.out.chg.size; have := hc1.size; omega)
     have hd1 := HUT.out.dst.chg hc1 (by have := HUT.out.rs; have := HE.out.ta.map.lt; omega)
     have HD1 := Hd hd1
     obtain ⟨y, hgb⟩ := HTBS.out k u hfv
     have HGB := Hd hgb
     have HKU := Hd (HUK.out k (WU.get HWB.out hgb).1)
     have HKK := Hd hk
     have hkk := hk
     have hnd : nd < maxLen := by have := HUT.out.num; have := HLIM.out; unfold maxLen; omega
     clear hlk hfv hrg1 hlt hc1 hs1 hrg hk hgb
     cases hga : get v k with
     | none =>
      have hfa : fa k = none := by
       have h := HE.out.ta.dom k
       rw [hga] at h
       cases hf : fa k with
       | none => rfl
       | some _ => rw [hf] at h; cases h
      have HGA := Hd hga
      have HFDV := Hd (HFD.out.trans hfa)
      clear hga hfa
      go_wp2_with (first | (at_lookup; refine wpList_lookB rfl rfl rfl hd1 rfl hkk ?_; rw [HFDV.out]; go_frame) | (at_mapUpdate; refine wpList_putB (u := u) rfl rfl rfl hd1 hnd rfl hkk rfl ?_; intro w3 hm3 hc3 hs3; go_frame))
      have HUTN := Hd (HUT.out.bring HE.out HLK.out HFV.out HLT.out HRG1.out HC1.out hc3 hm3 HGB.out (show overAt m (hasDep deps k) (get v k) (get t k) = some y by rw [HGA.out, HGB.out]; rfl) (fun x hx => .inr hx))
      clear hm3 hc3 hs3
      go_roundw
      case rel => exact ⟨_, _, _, _, _, HUTN.out⟩
      case measure => rw [HUTN.out.rng.left_eq, HLE.out]; exact HLT.out
     | some x =>
      obtain ⟨u0, hfa⟩ : ∃ u0, fa k = some u0 := by
       have h := HE.out.ta.dom k
       rw [hga] at h
       cases hf : fa k with
       | none => rw [hf] at h; cases h
       | some v => exact ⟨v, rfl⟩
      have HFDV := Hd (HFD.out.trans hfa)
      have HO := Hd (HUT.out.old k (.inl HLK.out) u0 x hfa hga)
      have HSC := Hd (HUT.out.src k HLK.out u y HFV.out HGB.out)
      have HFA := Hd hfa
      have HGA := Hd hga
      have hne := run_eqNil HO.out.any0
      have hgu := run_guardEq HO.out.any0
      have has : ∀ z, (Instr.typeAssert u0 20 67 true).run Tryz.prog z = .ok (.tuple #[mapOf u0, .bool (isT x)]) z := fun z => run_assert67 HO.out.any0
      clear hfa hga
      cases hxn : isN x with
      | true =>
       have hx : x = .null := by cases x <;> first | rfl | cases hxn
       subst hx
       have hu0 : u0 = .nilIface := by have h := HO.out.anyJ; cases h; rfl
       subst hu0
       have has1 : ∀ z, (Instr.typeAssert .nilIface 20 67 true).run Tryz.prog z = .ok (.tuple #[.map none, .bool false]) z := has
       rw [hxn] at hne
       clear hxn has
       cases m with
       | true =>
        go_wp2_with (first | (at_lookup; refine wpList_lookB rfl rfl rfl hd1 rfl hkk ?_; rw [HFDV.out]; go_frame))
        have HUTN := Hd (HUT.out.keep HE.out (x := .null) HLK.out HFS.out HLT.out HRG1.out HC1.out (Chg.refl No _) HFA.out HGA.out (show overAt true _ (get v k) (get t k) = some .null by rw [HGA.out]; rfl))
        go_roundw
        case rel => exact ⟨_, _, _, _, _, HUTN.out⟩
        case measure => rw [HUTN.out.rng.left_eq, HLE.out]; exact HLT.out
       | false =>
        go_wp2_with (first | (at_lookup; refine wpList_lookB rfl rfl rfl hd1 rfl hkk ?_; rw [HFDV.out]; go_frame) | (refine wpList_delB rfl rfl rfl hd1 rfl hkk ?_; intro w3 hm3 hc3 hs3))
        have HUTN := Hd (HUT.out.gone HE.out HLK.out HFS.out HLT.out (Nat.le_succ nd) HRG1.out HC1.out hc3 hm3 (show overAt false (hasDep deps k) (get v k) (get t k) = none by rw [HGA.out, HGB.out]; rfl))
        clear hm3 hc3 hs3
        go_frame
        go_roundw
        case rel => exact ⟨_, _, _, _, _, HUTN.out⟩
        case measure => rw [HUTN.out.rng.left_eq, HLE.out]; exact HLT.out
      | false =>
       rw [hxn] at hne
       have HXN := Hd hxn
       clear hxn
       cases hxt : isT x with
       | false =>
        rw [hxt] at has
        have htg : overAt m (hasDep deps k) (get v k) (get t k) = some x := by rw [HGA.out]; have h := HXN.out; cases x <;> first | rfl | exact absurd h (by decide) | (cases hxt; done)
        have HTG := Hd htg
        clear htg hxt
        go_wp2_with (first | (at_lookup; refine wpList_lookB rfl rfl rfl hd1 rfl hkk ?_; rw [HFDV.out]; go_frame))
        have HUTN := Hd (HUT.out.keep HE.out (x := x) HLK.out HFS.out HLT.out HRG1.out HC1.out (Chg.refl No _) HFA.out HGA.out (HTG.out))
        go_roundw
        case rel => exact ⟨_, _, _, _, _, HUTN.out⟩
        case measure => rw [HUTN.out.rng.left_eq, HLE.out]; exact HLT.out
       | true =>
        obtain ⟨xt, rfl⟩ := isT_table hxt
        obtain ⟨bx, _, _, _, rfl, -, -⟩ := HO.out.tab
        have has1 : ∀ z, (Instr.typeAssert (.iface 67 (.map (some bx))) 20 67 true).run Tryz.prog z = .ok (.tuple #[.map (some bx), .bool true]) z := has
        have hasu : ∀ z, (Instr.typeAssert u 20 67 true).run Tryz.prog z = .ok (.tuple #[mapOf u, .bool (isT y)]) z := fun z => run_assert67 HSC.out.any0
        clear has hxt
        cases hyt : isT y with
        | false =>
         rw [hyt] at hasu
         have htg : overAt m (hasDep deps k) (get v k) (get t k) = some (.table xt) := by rw [HGA.out, HGB.out]; cases y <;> first | rfl | (cases hyt; done)
         have HTG := Hd htg
         have hney := run_neNil HSC.out.any0
         have hguy := run_guardNe HSC.out.any0
         clear htg hyt
         cases hyn : isN y with
         | true =>
          rw [hyn] at hney
          go_wp2_with (first | (at_lookup; refine wpList_lookB rfl rfl rfl hd1 rfl hkk ?_; rw [HFDV.out]; go_frame))
          have HUTN := Hd (HUT.out.keep HE.out (x := .table xt) HLK.out HFS.out HLT.out HRG1.out HC1.out (Chg.refl No _) HFA.out HGA.out (HTG.out))
          go_roundw
          case rel => exact ⟨_, _, _, _, _, HUTN.out⟩
          case measure => rw [HUTN.out.rng.left_eq, HLE.out]; exact HLT.out
         | false =>
          rw [hyn] at hney
          go_wp2_with (first | (at_lookup; refine wpList_lookB rfl rfl rfl hd1 rfl hkk ?_; rw [HFDV.out]; go_frame) | (refine wpList_build151_2 rfl rfl rfl rfl rfl rfl ?_))
          refine (printf_any _ _ _).mono ?_
          rintro e wp ⟨rfl, rfl⟩
          go_wp2_with fail
          have HUTN := Hd (HUT.out.keep HE.out (x := .table xt) HLK.out HFS.out HLT.out HRG1.out HC1.out ((Chg.refl No w2).alloc (.cells #[.iface 9 (.string sp), .iface 9 (.string k)] 20)) HFA.out HGA.out HTG.out)
          go_roundw
          case rel => exact ⟨_, _, _, _, _, HUTN.out⟩
          case measure => rw [HUTN.out.rng.left_eq, HLE.out]; exact HLT.out
        | true =>
         obtain ⟨yt, rfl⟩ := isT_table hyt
         obtain ⟨by_, _, _, _, rfl, -, -⟩ := HSC.out.tab
         have hasu1 : ∀ z, (Instr.typeAssert (.iface 67 (.map (some by_))) 20 67 true).run Tryz.prog z = .ok (.tuple #[.map (some by_), .bool true]) z := hasu
         have hch2 : ChartM ok1 w2 p (.mk name ver (.table t) deps wants) := ((HCHM.out.chg HUT.out.chg (fun x hx q => Or.elim q (fun q => HE.out.bok (q ▸ hx)) (fun ⟨k, q⟩ => (HE.out.mb k x q).2.2.2 hx))).chg HC1.out (fun x hx q => by have := HE.out.okl x hx; have := HUT.out.rs; omega))
         have HCM2 := Hd (childMerge_any hch2 k m)
         have hsp18 : sp.size ≤ 1000000000000000000 := by have := HSP.out; omega
         have hk18 : k.size ≤ 1000000000000000000 := by have h := HKU.out; unfold kOk at h; omega
         have HCP2 := Hd (concatPrefix_any sp k w2 hsp18 hk18)
         clear hasu hyt hch2 hsp18 hk18
         go_wp2_with (first | (at_lookup; refine wpList_lookB rfl rfl rfl hd1 rfl hkk ?_; rw [HFDV.out]; go_frame))
         refine HCM2.out.mono ?_
         rintro e wt ⟨rfl, hwt⟩
         obtain rfl := hwt.symm
         go_wp2_with fail
         refine HCP2.out.mono ?_
         rintro e wt ⟨⟨sx, rfl, hsx⟩, hwt⟩
         obtain rfl := hwt.symm
         have hxo := HUT.out.okl1 HE.out HC1.out HO.out HE.out.faL
         have hyo := HUT.out.okl1 HE.out HC1.out HSC.out HE.out.fbL
         have hcall := coalesceTables_any U N (by have := HNN.out; omega) HUK.out (m || hasDep deps k) d ok1 xt yt bx by_ (Fa k) (Fb k) w2 sx hxo hyo (fun x hx hx' => by
          have h1 := HFIN.out.2.2.1 k x hx'
          have h2 := HSAL.out x (HFIN.out.2.1 k x hx)
          omega) (fun x hx => (HE.out.mb k x hx).2.2.2) (WU.get WA.out HGA.out).2 (WU.get HWB.out HGB.out).2 (by have h1 := HSP.out; have h2 := HKU.out; unfold kOk at h2; omega)
         have HCALL := Hd hcall
         clear hxo hyo hcall hsx
         go_wp2_with fail
         refine HCALL.out.mono ?_
         rintro e w3 ⟨rfl, S', ho3, hsub3, hc3⟩
         have HUTN := Hd (HUT.out.inPlace HE.out HLK.out HFS.out HLT.out HRG1.out HC1.out hc3 HFA.out (show overAt m (hasDep deps k) (get v k) (get t k) = some (.table (coal (m || hasDep deps k) xt yt)) by rw [HGA.out, HGB.out]; rfl) ho3 (fun x hx => .inl (hsub3 x hx)))
         clear ho3 hsub3 hc3
         go_wp2_with fail
         go_roundw
         case rel => exact ⟨_, _, _, _, _, HUTN.out⟩
         case measure => rw [HUTN.out.rng.left_eq, HLE.out]; exact HLT.out
end Go.Proofs.YtljaoopfomcaoaaGreatDoor
