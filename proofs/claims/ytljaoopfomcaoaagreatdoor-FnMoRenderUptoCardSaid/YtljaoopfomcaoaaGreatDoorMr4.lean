/- A part of the proof. -/
import Derived.Test.YtljaoopfomcaoaaGreatDoorMr3
set_option linter.unusedVariables false
set_option linter.unusedSimpArgs false
set_option maxRecDepth 100000
set_option maxHeartbeats 4000000
namespace Go.Proofs.YtljaoopfomcaoaaGreatDoor
open Go.RowKit
section
variable {ok : Nat -> Prop} {w : World}
theorem AnyO.flat {v : Value} {j : J} {S : Nat -> Prop} (h : AnyO ok w v j S) (hn : isT j = false) : AnyO ok w v j No := by
 cases h with
 | plain h hn hS => exact .plain h hn (fun x hx => hx)
 | table => cases hn
theorem tabO_insAt {ok' : Nat -> Prop} {b n n' : Nat} {f : K -> Option Value} {kvs : T} {F : K -> Nat -> Prop} (h : TabO ok w b n f kvs F) (hs : Sorted kvs) {k : K} {u : Value} {j : J} {G : Nat -> Prop} {w1 w2 : World} {S : Nat -> Prop}
  (hc : Chg S w w1) (hS : ∀ y, S y -> F k y ∨ w.heap.size ≤ y) (hok : ∀ y, ok y -> y < w.heap.size /\ ¬ F k y /\ y ≠ b) (hok' : ∀ y, ok y -> ok' y) (hc2 : Chg (· = b) w1 w2) (hm : MapB w2 b n' (fun z => if z = k then some u else f z))
  (ho : AnyO ok' w2 u j G) (hG : ∀ y, G y -> F k y ∨ w.heap.size ≤ y) : TabO ok' w2 b n' (fun z => if z = k then some u else f z) (ins kvs k j) (fun z => if z = k then G else F z) := by
 have hbl := h.map.lt
 have hFl : ∀ z y, F z y -> y < w.heap.size := fun z y hy => h.lt (.inr ⟨z, hy⟩)
 refine ⟨hm, fun z => ?_, fun z v x hv hx => ?_, fun z z' y hy hy' => ?_, fun z hz => ?_, fun z hz y hy => ?_⟩
 ·rw [get_ins]
  by_cases e : z = k
  ·subst e; simp
  ·rw [if_neg e, if_neg (fun q => e q.symm), h.dom]
 ·rw [get_ins] at hx
  by_cases e : z = k
  ·subst e
   rw [if_pos rfl] at hv hx ⊢
   cases hv; cases hx
   exact ho
  ·rw [if_neg e] at hv ⊢
   rw [if_neg (fun q => e q.symm)] at hx
   refine (((h.val z v x hv hx).chg hc (fun y hy q => ?_) (fun y hy q => ?_)).chg hc2 (fun y hy q => (hok y hy).2.2 q) (fun y hy q => h.notb z (q ▸ hy))).mono (fun y _ hy => hok' y hy)
   ·rcases hS y q with q | q
    ·exact (hok y hy).2.1 q
    ·have := (hok y hy).1; omega
   ·rcases hS y q with q | q
    ·exact e (h.apart z k y hy q)
    ·have := hFl z y hy; omega
 ·by_cases e : z = k
  ·by_cases e' : z' = k
   ·rw [e, e']
   ·rw [if_pos e] at hy
    rw [if_neg e'] at hy'
    rcases hG y hy with q | q
    ·exact absurd (h.apart z' k y hy' q) e'
    ·have := hFl z' y hy'; omega
  ·rw [if_neg e] at hy
   by_cases e' : z' = k
   ·rw [if_pos e'] at hy'
    rcases hG y hy' with q | q
    ·exact absurd (h.apart z k y hy q) e
    ·have := hFl z y hy; omega
   ·rw [if_neg e'] at hy'
    exact h.apart z z' y hy hy'
 ·by_cases e : z = k
  ·rw [if_pos e] at hz
   rcases hG b hz with q | q
   ·exact h.notb k q
   ·omega
  ·rw [if_neg e] at hz; exact h.notb z hz
 ·by_cases e : z = k
  ·rw [if_pos e] at hz; cases hz
  ·rw [if_neg e] at hz hy; exact h.none z hz y hy
end
theorem copyMap_any (ok : Nat -> Prop) (kvs : T) (b : Nat) (G : Nat -> Prop) (w : World) (hkv : kvs.length < 1099511627776) (ha : AnyO ok w (.iface 67 (.map (some b))) (.table kvs) G) (hfl : Flat1 (.table kvs)) :
  Calls Tryz.prog 162 #[.map (some b)] w fun e w' => ∃ g, e = .returned (.map (some g)) /\ w.heap.size ≤ g /\ AnyO (okB ok w) w' (.iface 67 (.map (some g))) (.table kvs) (· = g) /\ Chg No w w' := by
 obtain ⟨b', n, f, F, e, ta, -⟩ := ha.bel.tab
 cases e
 replace ta := ta.fit
 obtain ⟨n, hn⟩ : ∃ n, n = kvs.length := ⟨_, rfl⟩
 rw [← hn] at ta hkv
 have HNN := Hd hkv
 have HT := Hd ta
 have HFL := Hd hfl
 have hma := ta.map
 have hlb := hma.lt
 clear ha hfl hn ta hkv
 go_enter Tryz.func162, Tryz.ntmps162
 obtain ⟨g, hg⟩ : ∃ g, g = w.heap.size := ⟨_, rfl⟩
 obtain ⟨lc, -, hlen⟩ := hma.len
 have hmk := run_makeMap67
 go_wp2_with (first | (at_range; refine wpList_rangeB rfl rfl rfl (hma.alloc _) ?_; intro w0 cnt0 hrg0 hcn0 hc0 hs0; go_frame))
 have hgz : (w.alloc (.map #[] 0)).heap.size = g + 1 := by simp [hg]
 rw [hgz] at hrg0 hs0 ⊢
 rw [← hg] at hlb ⊢
 have HG := Hd hg
 have HC0 := Hd (((Chg.refl No w).alloc (.map #[] 0)).trans' hc0)
 have hout0 : MapB w0 g 0 (fun _ => none) := by
  have h := MapB.made w
  rw [← hg] at h
  exact h.chg hc0 id
 clear hg hs0 hgz hc0 hlen hma hmk
 go_loopw [4] (fun _ wr => ∃ (left : K -> Bool) (cnt no : Nat) (fo : K -> Option Value), RangeB wr b (g + 1) n f left cnt /\ no + cnt ≤ n /\ MapB wr g no fo /\ (∀ k, fo k = if left k then none else f k) /\ Chg No w wr) (fun _ wr => wr.rangeLeft b (g + 1))
 case atStart => exact ⟨_, _, 0, _, hrg0, by omega, hout0, fun k => by cases h : f k <;> rfl, HC0.out⟩
 case round =>
  obtain ⟨left, cnt, no, fo, hrg, hcs, hout, hA, hcw⟩ := hrel
  have HA1 := Hd hA
  have HCW := Hd hcw
  clear hA hcw hrg0 hout0 hcn0
  go_wp2_with (first | (at_next; refine wpList_nextB rfl rfl rfl hrg ?_ ?_))
  ·intro hc0 hl0
   have hfo : fo = f := funext fun k => by rw [HA1.out, hl0]; rfl
   subst hfo
   have HO := Hd hout
   clear hl0 HA1 hrg hout
   go_wp2
   go_ret
   refine ⟨g, rfl, by have := HG.out; omega, AnyO.set (TabO.any (F := fun _ _ => False) ⟨HO.out, HT.out.dom, fun k u x hu hx => ?_, fun k k' x h => h.elim, fun k h => h, fun k _ x h => h⟩) (fun x => ⟨fun h => .inl h, fun h => h.elim id (fun h => h.elim fun _ h => h.elim)⟩), HCW.out⟩
   exact ((HT.out.val k u x hu hx).flat (HFL.out kvs rfl k x hx)).chg HCW.out (fun _ _ q => q) (fun _ _ q => q)
  ·intro k u w1 cnt1 hk hlk hfv hrg1 hlt hc1 hs1 hen
   have HLE := Hd hrg.left_eq
   have HLT := Hd hlt
   have HFV := Hd hfv
   have HCY := Hd (HCW.out.trans hc1 (fun i hi q => by have := HG.out; omega))
   have hout1 := hout.chg hc1 (by omega)
   have HRG1 := Hd hrg1
   have hkk := hk
   have hnn : no < maxLen := by have := HNN.out; unfold maxLen; omega
   clear hlk hfv hrg1 hc1 hs1 hout hk
   go_wp2_with (first | (at_mapUpdate; refine wpList_putB (u := u) rfl rfl rfl hout1 hnn rfl hkk rfl ?_; intro w3 hm3 hc3 hs3; go_frame))
   have HREL := Hd (show RangeB w3 b (g + 1) n f (fun z => left z && !(z == k)) cnt1 /\ no + 1 + cnt1 ≤ n /\ MapB w3 g (no + 1) (fun z => if z = k then some u else fo z) /\ (∀ z, (if z = k then some u else fo z) = if (left z && !(z == k)) then none else f z) /\ Chg No w w3 from
    ⟨HRG1.out.chg hc3 (fun q => by omega) (fun q => by omega), by have := HLT.out; omega, hm3, fun z => by
     by_cases hz : z = k
     ·subst hz; rw [if_pos rfl, HFV.out]; simp
     ·have hzb : (z == k) = false := by rw [k_beq]; exact decide_eq_false hz
      rw [if_neg hz, HA1.out, hzb]; simp, HCY.out.trans hc3 (fun i hi q => by have := HG.out; omega)⟩)
   clear hm3 hc3 hs3 hout1
   go_roundw
   case rel => exact ⟨_, _, _, _, HREL.out⟩
   case measure => rw [HREL.out.1.left_eq, HLE.out]; exact HLT.out
theorem run_build151_1 (u : Value) (hu : u.oneCell' = true) (w : World) : (Instr.buildSlice 151 1 #[(0, u)]).run Tryz.prog w = .ok (.slice (some ⟨w.heap.size, 0, none⟩) 1 1) (w.alloc (.cells #[u] 20)) := by
 cases u <;> first | (simp [Value.oneCell'] at hu; done) | kernel_rfl
theorem wpList_build151_1 {ops : Array Oper} {rest : List Oper} {o : Oper} {a : Act} {w : World} {Q : Exit -> Act -> World -> Prop} (hg : o.guard = none) {x : Operand} (ho : o.op = .buildSlice 151 1 #[(0, x)]) {u : Value} (hx : a.eval x = u) (hu : u.oneCell' = true)
  (h : wpList Tryz.prog ops Q rest (a.put o.dst (.slice (some ⟨w.heap.size, 0, none⟩) 1 1)) (w.alloc (.cells #[u] 20))) : wpList Tryz.prog ops Q (o :: rest) a w := by
 refine wpList_plain hg fun K' hK' => ?_
 have h3 := run_build151_1 u hu w
 unfold Oper.wp
 simp only [execOp, ho, List.map_toArray, List.map_cons, List.map_nil, hx, Sem.run_bind, h3, Result.andThen_ok]
 exact hK' _ _ h
theorem run_makeMap67_0 (w : World) : (Instr.makeMap 67 none).run Tryz.prog w = .ok (.map (some w.heap.size)) (w.alloc (.map #[] 0)) := rfl
theorem gK_size : gK.size ≤ maxLen := by rw [gK_lit]; decide
theorem ue_glob {ok : Nat -> Prop} {w : World} {a : T} {bg bs na : Nat} {fa : K -> Option Value} {Fa Fb : K -> Nat -> Prop} (ta : TabO ok w bg na fa a Fa) (hokl : ∀ x, ok x -> x < w.heap.size) (hbs : bs < w.heap.size) (hFb : ∀ k x, Fb k x -> x < w.heap.size)
  (hnok : ∀ x, footT bg Fa x -> ¬ ok x) (hap : ∀ x, footT bg Fa x -> x ≠ bs /\ ∀ k, ¬ Fb k x) : UE ok w a bg bs na fa Fa Fb Fa :=
 ⟨ta, fun _ _ h => h, ta.apart, fun k x hx => ⟨fun q => ta.notb k (q ▸ hx), (hap x (.inr ⟨k, hx⟩)).1, ta.lt (.inr ⟨k, hx⟩), hnok x (.inr ⟨k, hx⟩)⟩,
  fun k k' x hx hx' => absurd hx ((hap x (.inr ⟨k', hx'⟩)).2 k), fun k x hx => ⟨hFb k x hx, fun q => (hap bg (.inl rfl)).2 k (q ▸ hx)⟩, (hap bg (.inl rfl)).1, hbs, hnok bg (.inl rfl), hokl⟩
theorem TabO.made {ok : Nat -> Prop} {w : World} {b : Nat} (h : MapB w b 0 (fun _ => Option.none)) : TabO ok w b 0 (fun _ => Option.none) [] (fun _ => No) :=
 ⟨h, fun k => rfl, fun k u x h => (by cases h), fun k k' x h => h.elim, fun k h => h, fun k _ x h => h⟩
def GlobPost (ok Sd : Nat -> Prop) (w : World) (v : Value) (j : J) (e : Ending) (w' : World) : Prop :=
 e = .returned (.tuple #[]) /\ ∃ S', AnyO (okB ok w) w' v j S' /\ (∀ x, S' x -> Sd x ∨ w.heap.size ≤ x) /\ Chg Sd w w'
section
variable {ok : Nat -> Prop} {w : World} {tgt : K -> Option J} {a b : T} {ba bb r lim nf na : Nat} {fa fs : K -> Option Value} {Fa Fb M : K -> Nat -> Prop} {wr : World} {left : K -> Bool} {cnt nd : Nat} {fd : K -> Option Value} {F : K -> Nat -> Prop}
theorem UT.bringFlat (h : UT ok w tgt a b ba bb r lim nf fa fs Fa Fb M wr left cnt nd fd F) (e : UE ok w a ba bb na fa Fa Fb M) {k : K} {w1 w3 : World} {cnt' : Nat} {u : Value} {y : J} (hl : left k = true) (hf : fs k = some u) (hlt : cnt' < cnt)
  (hrg : RangeB w1 bb r nf fs (fun z => left z && !(z == k)) cnt') (hc1 : Chg (· = r) wr w1) (hc : Chg (· = ba) w1 w3) (hd : MapB w3 ba (nd + 1) (fun z => if z = k then some u else fd z)) (hgb : get b k = some y) (hy : isT y = false) (ht : tgt k = some y) :
  UT ok w tgt a b ba bb r lim nf fa fs Fa Fb M w3 (fun z => left z && !(z == k)) cnt' (nd + 1) (fun z => if z = k then some u else fd z) (fun z => if z = k then No else F z) := by
 refine h.step e hl (by rw [hf]; rfl) hlt (Nat.le_refl _) hrg hc1 (hc.mono (fun _ _ q => .inl q)) hd (fun z hz => by rw [if_neg hz]) ⟨by rw [if_pos rfl, ht]; rfl, fun v z hv hz => ?_⟩ (fun x hx => hx.elim) (fun _ _ q => q)
 rw [if_pos rfl] at hv
 rw [ht] at hz
 cases hv
 cases hz
 exact ((h.okl1 e hc1 (h.src k hl u y hf hgb) e.fbL).flat hy).chg hc (fun x hx q => e.bok (q ▸ hx)) (fun x hx q => hx)
theorem UT.putOwn (h : UT ok w tgt a b ba bb r lim nf fa fs Fa Fb M wr left cnt nd fd F) (e : UE ok w a ba bb na fa Fa Fb M) {k : K} {w1 w2 w3 : World} {cnt' : Nat} {u : Value} {y : J} {G S : Nat -> Prop} (hl : left k = true) (hf : (fs k).isSome = true) (hlt : cnt' < cnt)
  (hrg : RangeB w1 bb r nf fs (fun z => left z && !(z == k)) cnt') (hc1 : Chg (· = r) wr w1) (hc2 : Chg S w1 w2) (hS : ∀ x, S x -> M k x ∨ w1.heap.size ≤ x) (hc : Chg (· = ba) w2 w3) (hd : MapB w3 ba (nd + 1) (fun z => if z = k then some u else fd z)) (ht : tgt k = some y)
  (ho : AnyO ok w3 u y G) (hG : ∀ x, G x -> M k x ∨ w1.heap.size ≤ x) :
  UT ok w tgt a b ba bb r lim nf fa fs Fa Fb M w3 (fun z => left z && !(z == k)) cnt' (nd + 1) (fun z => if z = k then some u else fd z) (fun z => if z = k then G else F z) := by
 refine h.step e hl hf hlt (Nat.le_refl _) hrg hc1 ?_ hd (fun z hz => by rw [if_neg hz]) ⟨by rw [if_pos rfl, ht]; rfl, fun v z hv hz => ?_⟩ hG (fun q => by rw [if_pos rfl] at q; cases q)
 ·refine Chg.trans (S := fun x => x = ba ∨ M k x) (S' := (· = ba)) ?_ hc (fun _ _ q => .inl q)
  exact hc2.mono (fun x hx q => (hS x q).elim .inr (fun q => absurd q (Nat.not_le.2 hx)))
 ·rw [if_pos rfl] at hv
  rw [ht] at hz
  cases hv
  cases hz
  exact ho
end
structure DG (U : List K) (N d : Nat) (ok : Nat -> Prop) (w : World) (x : T) (Fx : K -> Nat -> Prop) (wc : World) (bg na : Nat) (a : T) (fa : K -> Option Value) (Fa : K -> Nat -> Prop) : Prop where
 chg : Chg No w wc
 tab : TabO (okB ok w) wc bg na fa a Fa
 at_ : tabAt x gK = some a
 subs : ∀ y, footT bg Fa y -> Fx gK y ∨ w.heap.size ≤ y
 wu : WU U N (d + 1) (.table a)
 nok : ∀ y, footT bg Fa y -> ¬ okB ok w y
 len : na < 1099511627776
structure SG (U : List K) (N d : Nat) (ok : Nat -> Prop) (w : World) (out : T) (wc : World) (bg : Nat) (Fa : K -> Nat -> Prop) (bs nf : Nat) (b : T) (fs : K -> Option Value) (Fb : K -> Nat -> Prop) : Prop where
 map : MapB wc bs nf fs
 at_ : tabAt out gK = some b
 src : ∀ k u y, fs k = some u -> get b k = some y -> AnyO (okB ok w) wc u y (Fb k)
 non : ∀ k, fs k = Option.none -> get b k = Option.none
 som : ∀ k u, fs k = some u -> ∃ y, get b k = some y
 wu : WU U N (d + 1) (.table b)
 len : nf < 1099511627776
 fbl : ∀ k y, Fb k y -> y < w.heap.size
 ap : ∀ y, footT bg Fa y -> y ≠ bs /\ ∀ k, ¬ Fb k y
theorem DG.step {U : List K} {N d : Nat} {ok : Nat -> Prop} {w : World} {x : T} {Fx : K -> Nat -> Prop} {wc wc2 : World} {bg na : Nat} {a : T} {fa : K -> Option Value} {Fa : K -> Nat -> Prop} (h : DG U N d ok w x Fx wc bg na a fa Fa) (hc : Chg No wc wc2) : DG U N d ok w x Fx wc2 bg na a fa Fa :=
 ⟨h.chg.trans' hc, ⟨h.tab.map.chg hc id, h.tab.dom, fun k u z h1 h2 => (h.tab.val k u z h1 h2).chg hc (fun _ _ q => q) (fun _ _ q => q), h.tab.apart, h.tab.notb, h.tab.none⟩, h.at_, h.subs, h.wu, h.nok, h.len⟩
theorem coalesceGlobals_any (U : List K) (N : Nat) (hN : U.length < 1099511627776) (hUk : ∀ k ∈ U, kOk k) (m : Bool) (d : Nat) (ok : Nat -> Prop) (x out : T) (bd bs0 ns : Nat) (fs0 : K -> Option Value) (Sd G : Nat -> Prop) (w : World) (pre : K)
  (hx : AnyO ok w (.iface 67 (.map (some bd))) (.table x) Sd) (hs : MapB w bs0 ns fs0) (hdom : (fs0 gK).isSome = (get out gK).isSome) (hval : ∀ u t, fs0 gK = some u -> get out gK = some t -> AnyO ok w u t G) (hG : ∀ y, G y -> ¬ Sd y) (hok : ∀ y, Sd y -> ¬ ok y)
  (wx : WU U N (d + 2) (.table x)) (wo : ∀ b, tabAt out gK = some b -> WU U N (d + 1) (.table b)) (hx2 : ∀ a, tabAt x gK = some a -> Flat2 (.table a)) (ho2 : ∀ a, tabAt out gK = some a -> Flat2 (.table a)) (hpre : pre.size + (d + 3) * 140737488355329 ≤ 900000000000000000) :
  Calls Tryz.prog 146 #[printV, .map (some bd), .map (some bs0), .string pre, .bool m] w (GlobPost ok Sd w (.iface 67 (.map (some bd))) (.table (globals x out))) := by
 obtain ⟨_, nx0, fx, Fx, ex, tx, hSd⟩ := hx.bel.tab
 cases ex
 replace tx := tx.fit
 obtain ⟨nx, hnx⟩ : ∃ nx, nx = x.length := ⟨_, rfl⟩
 rw [← hnx] at tx
 have HNX := Hd (show nx < 1099511627776 by have h1 := wx.len; omega)
 have HX0 := Hd hx
 have HTX := Hd tx
 have HSD := Hd hSd
 have HOK := Hd hok
 have WX := Hd wx
 have WO := Hd wo
 have HX2 := Hd hx2
 have HO2 := Hd ho2
 have HPRE := Hd hpre
 have HUK := Hd hUk
 have HGG := Hd hG
 have HVAL := Hd (show ∀ u t, fs0 gK = some u -> get out gK = some t -> AnyO (okB ok w) w u t G from fun u t h1 h2 => (hval u t h1 h2).bel)
 have hmd := tx.map
 have hgs := gK_size
 have hgl := gK_lit
 rw [hgl] at hgs
 have HL := Hd hgl
 have HSM := Hd hs
 clear hx tx hSd hok wx wo hx2 ho2 hpre hUk hval hnx hgl hG
 have hmk67 := run_makeMap67_0
 go_enter Tryz.func146, Tryz.ntmps146
 go_upto_if 32 with (first | (at_lookup; refine wpList_lookB rfl rfl rfl (HTX.out.map) rfl hgs ?_; go_frame))
 go_cut [10] from 12 to 133 (fun s10 wc => ∃ bg na a fa Fa, s10 = .map (some bg) /\ DG U N d ok w x Fx wc bg na a fa Fa)
 case first =>
  cases hgx : get x gK with
  | none =>
   have hfx : fx gK = none := by
    have h := HTX.out.dom gK
    rw [hgx] at h
    cases hf : fx gK with
    | none => rfl
    | some _ => rw [hf] at h; cases h
   have HGX := Hd hgx
   have HFX := Hd (show fx ⟨#[103, 108, 111, 98, 97, 108]⟩ = none by rw [← HL.out]; exact hfx)
   clear hgx hfx
   rw [HFX.out]
   dsimp only [Option.getD_none, Option.isSome_none, Bool.not_false]
   go_wp2_with fail
   go_meet
   refine ⟨w.heap.size, 0, [], fun _ => none, fun _ => No, rfl, (Chg.refl No w).alloc _, TabO.made (MapB.made w), by unfold tabAt; rw [HGX.out], fun y hy => ?_, WU.nil, fun y hy h => ?_, by decide⟩
   ·rcases hy with q | ⟨k, q⟩
    ·exact .inr (Nat.le_of_eq q.symm)
    ·exact q.elim
   ·rcases hy with q | ⟨k, q⟩
    ·have := h.2; omega
    ·exact q.elim
  | some xg =>
   obtain ⟨ug, hfx⟩ : ∃ u0, fx gK = some u0 := by
    have h := HTX.out.dom gK
    rw [hgx] at h
    cases hf : fx gK with
    | none => rw [hf] at h; cases h
    | some v => exact ⟨v, rfl⟩
   have HVX := Hd (HTX.out.val gK ug xg hfx hgx)
   have HGX := Hd hgx
   have HFX := Hd (show fx ⟨#[103, 108, 111, 98, 97, 108]⟩ = some ug by rw [← HL.out]; exact hfx)
   have has : ∀ z, (Instr.typeAssert ug 20 67 true).run Tryz.prog z = .ok (.tuple #[mapOf ug, .bool (isT xg)]) z := fun z => run_assert67 HVX.out.any0
   clear hgx hfx
   rw [HFX.out]
   dsimp only [Option.getD_some, Option.isSome_some, Bool.not_true]
   cases hxt : isT xg with
   | false =>
    rw [hxt] at has
    have hgl : globals x out = x := by unfold globals tabAt; rw [HGX.out]; cases xg <;> first | rfl | (cases hxt; done)
    have HGLO := Hd hgl
    clear hxt hgl
    go_wp2_with (first | (refine wpList_build151_1 rfl rfl rfl rfl ?_))
    refine (printf_any _ _ _).mono ?_
    rintro e wp ⟨rfl, rfl⟩
    go_wp2_with fail
    refine bodyPost_end (results_none rfl _ _ _) rfl ?_
    rw [HGLO.out]
    exact ⟨rfl, Sd, HX0.out.bel.chg ((Chg.refl No w).alloc _) (fun _ _ q => q) (fun _ _ q => q), fun y hy => .inl hy, ((Chg.refl No w).alloc _).mono (fun _ _ q => q.elim)⟩
   | true =>
    obtain ⟨a, rfl⟩ := isT_table hxt
    obtain ⟨bg, _, _, _, rfl, -, -⟩ := HVX.out.tab
    have has1 : ∀ z, (Instr.typeAssert (.iface 67 (.map (some bg))) 20 67 true).run Tryz.prog z = .ok (.tuple #[.map (some bg), .bool true]) z := has
    clear has hxt
    go_wp2_with fail
    go_meet
    obtain ⟨_, na0, fa, Fa, ea, ta0, hFG⟩ := HVX.out.tab
    cases ea
    replace ta0 := ta0.fit
    have hwa := (WU.get WX.out HGX.out).2
    exact ⟨bg, a.length, a, fa, Fa, rfl, Chg.refl No w, ta0, by unfold tabAt; rw [HGX.out], fun y hy => .inl ((hFG y).2 hy), hwa, fun y hy h => HOK.out y ((HSD.out y).2 (.inr ⟨gK, (hFG y).2 hy⟩)) h.1, by have := hwa.len; omega⟩
 case rest =>
 obtain ⟨bg, na, a, fa, Fa, rfl, hdg⟩ := hcut
 have HDG := Hd hdg
 have hsm := hs.chg hdg.chg id
 clear hdg hs
 go_upto_if 51 with (first | (at_lookup; refine wpList_lookB rfl rfl rfl hsm rfl hgs ?_; go_frame))
 go_cut [11] from 12 to 133 (fun s11 wc2 => ∃ bs nf b fs Fb, s11 = .map (some bs) /\ DG U N d ok w x Fx wc2 bg na a fa Fa /\ SG U N d ok w out wc2 bg Fa bs nf b fs Fb)
 case first =>
  cases hgo : get out gK with
  | none =>
   have hfs0 : fs0 gK = none := by
    rw [hgo] at hdom
    cases hf : fs0 gK with
    | none => rfl
    | some _ => rw [hf] at hdom; cases hdom
   have HGO := Hd hgo
   have HFS0 := Hd (show fs0 ⟨#[103, 108, 111, 98, 97, 108]⟩ = none by rw [← HL.out]; exact hfs0)
   clear hgo hfs0 hdom
   rw [HFS0.out]
   dsimp only [Option.getD_none, Option.isSome_none, Bool.not_false]
   go_wp2_with fail
   go_meet
   have hsz := HDG.out.chg.size
   refine ⟨wc.heap.size, 0, [], fun _ => none, fun _ => No, rfl, HDG.out.step ((Chg.refl No wc).alloc _), MapB.made wc, by unfold tabAt; rw [HGO.out], fun k u y h => (by cases h), fun k h => rfl, fun k u h => (by cases h), WU.nil, by decide, fun k y q => q.elim, fun y hy => ⟨fun q => by have := HDG.out.tab.lt hy; omega, fun k q => q⟩⟩
  | some og =>
   obtain ⟨us, hfs0⟩ : ∃ u0, fs0 gK = some u0 := by
    rw [hgo] at hdom
    cases hf : fs0 gK with
    | none => rw [hf] at hdom; cases hdom
    | some v => exact ⟨v, rfl⟩
   have HVO := Hd (HVAL.out us og hfs0 hgo)
   have HGO := Hd hgo
   have HFS0 := Hd (show fs0 ⟨#[103, 108, 111, 98, 97, 108]⟩ = some us by rw [← HL.out]; exact hfs0)
   have hsas : ∀ z, (Instr.typeAssert us 20 67 true).run Tryz.prog z = .ok (.tuple #[mapOf us, .bool (isT og)]) z := fun z => run_assert67 HVO.out.any0
   clear hgo hfs0 hdom
   rw [HFS0.out]
   dsimp only [Option.getD_some, Option.isSome_some, Bool.not_true]
   cases qf : isT og with
   | false =>
    rw [qf] at hsas
    have hgl : globals x out = x := by
     unfold globals
     rw [show tabAt out gK = none by unfold tabAt; rw [HGO.out]; cases og <;> first | rfl | (cases qf; done)]
     cases tabAt x gK <;> rfl
    have HGLO := Hd hgl
    clear qf hgl
    go_wp2_with (first | (refine wpList_build151_1 rfl rfl rfl rfl ?_))
    refine (printf_any _ _ _).mono ?_
    rintro e wp ⟨rfl, rfl⟩
    go_wp2_with fail
    refine bodyPost_end (results_none rfl _ _ _) rfl ?_
    rw [HGLO.out]
    exact ⟨rfl, Sd, HX0.out.bel.chg (HDG.out.chg.alloc _) (fun _ _ q => q) (fun _ _ q => q), fun y hy => .inl hy, (HDG.out.chg.alloc _).mono (fun _ _ q => q.elim)⟩
   | true =>
    obtain ⟨b, rfl⟩ := isT_table qf
    obtain ⟨bs, _, _, _, rfl, -, -⟩ := HVO.out.tab
    have hsas1 : ∀ z, (Instr.typeAssert (.iface 67 (.map (some bs))) 20 67 true).run Tryz.prog z = .ok (.tuple #[.map (some bs), .bool true]) z := hsas
    clear hsas qf
    go_wp2_with fail
    go_meet
    obtain ⟨_, nf0, fs, Fb, eb, tb0, hGG⟩ := HVO.out.tab
    cases eb
    replace tb0 := tb0.fit
    have hwb : WU U N (d + 1) (.table b) := WO.out b (by unfold tabAt; rw [HGO.out])
    have hlt : ∀ y, G y -> y < w.heap.size := HVO.out.lt
    refine ⟨bs, b.length, b, fs, Fb, rfl, HDG.out, tb0.map.chg HDG.out.chg id, by unfold tabAt; rw [HGO.out], fun k u y h1 h2 => (tb0.val k u y h1 h2).chg HDG.out.chg (fun _ _ q => q) (fun _ _ q => q), fun k hk => tb0.get_none hk, fun k u hk => by obtain ⟨y, hy, -⟩ := tb0.some hk; exact ⟨y, hy⟩, hwb, by have := hwb.len; omega, fun k y q => tb0.lt (.inr ⟨k, q⟩), fun y hy => ?_⟩
    have hno : ¬ G y := fun q => by
     rcases HDG.out.subs y hy with h | h
     ·exact HGG.out y q ((HSD.out y).2 (.inr ⟨gK, h⟩))
     ·have := hlt y q; omega
    exact ⟨fun q => hno ((hGG y).2 (.inl q)), fun k q => hno ((hGG y).2 (.inr ⟨k, q⟩))⟩
 case rest =>
 obtain ⟨bs, nf, b, fs, Fb, rfl, hdg, hsg⟩ := hcut
 have HC01 := Hd hdg.chg
 have HTA := Hd hdg.at_
 have HTB := Hd hsg.at_
 have HSUBS := Hd hdg.subs
 have WA := Hd hdg.wu
 have WB := Hd hsg.wu
 have HSRC := Hd hsg.src
 have HTBN := Hd hsg.non
 have HTBS := Hd hsg.som
 have hms := hsg.map
 have hszc := hdg.chg.size
 have HE := Hd (ue_glob hdg.tab (fun y hy => by have := hy.2; omega) hms.lt (fun k y q => by have := hsg.fbl k y q; omega) hdg.nok hsg.ap)
 have HNN := Hd (show na < 1099511627776 /\ nf < 1099511627776 from ⟨hdg.len, hsg.len⟩)
 have HFL := Hd (HO2.out b hsg.at_)
 have HSZC := Hd hszc
 clear hdg hsg HDG hszc hdom hsm hmk67
 go_wp2_with (first | (at_range; refine wpList_rangeB rfl rfl rfl hms ?_; intro w0 cnt0 hrg0 hcn0 hc0 hs0; go_frame))
 have HU0 := Hd (UT.start (tgt := fun k => globAt (get a k) (get b k)) (b := b) (lim := na + cnt0) HE.out hrg0 (Nat.le_refl _) hc0 HSRC.out)
 obtain ⟨r, hr⟩ : ∃ r, r = wc.heap.size := ⟨_, rfl⟩
 have HR := Hd hr
 have HLIM := Hd (show na + cnt0 < 3298534883328 by have := HNN.out; omega)
 rw [← hr] at HU0
 rw [← hr]
 clear hr hrg0 hcn0 hc0 hs0 hms
 go_loopw [16] (fun _ wr => ∃ (left : K -> Bool) (cnt nd : Nat) (fd : K -> Option Value) (F : K -> Nat -> Prop), UT (okB ok w) wc (fun k => globAt (get a k) (get b k)) a b bg bs r (na + cnt0) nf fa fs Fa Fb Fa wr left cnt nd fd F) (fun _ wr => wr.rangeLeft bs r)
 case atStart => exact ⟨_, _, _, _, _, HU0.out⟩
 case round =>
  obtain ⟨left, cnt, nd, fd, F, hut⟩ := hrel
  have HUT := Hd hut
  have hrg := hut.rng
  clear hut HU0
  go_wp2_with (first | (at_next; refine wpList_nextB rfl rfl rfl hrg ?_ ?_))
  ·intro hc0 hl0
   have HD := Hd (HUT.out.done HE.out hl0 (t := globT a b) (get_globT _ _) (fun k hk => by rw [HTBN.out k hk, globAt_none]))
   have hsz := HUT.out.chg.size
   have hsz1 := HC01.out.size
   have HCW := Hd (HC01.out.trans' (S := No) (Chg.refl No _))
   have hcall : Chg (footT bg Fa) w wr := (HC01.out.mono (fun _ _ q => q.elim)).trans HUT.out.chg (fun y hy q => q.elim .inl (fun q => .inr q))
   have hbdn : ¬ footT bg Fa bd := fun q => by
    rcases HSUBS.out bd q with q | q
    ·exact HTX.out.notb gK q
    ·have := HTX.out.map.lt; omega
   have hdd := HTX.out.map.chg hcall hbdn
   have hnxm : nx < maxLen := by have := HNX.out; unfold maxLen; omega
   have HCALL := Hd hcall
   clear hl0 hrg hcall hbdn
   go_wp2_with (first | (at_mapUpdate; refine wpList_putB (u := .iface 67 (.map (some bg))) rfl rfl rfl hdd hnxm rfl hgs rfl ?_; intro w3 hm3 hc3 hs3; go_frame))
   refine bodyPost_end (results_none rfl _ _ _) rfl ?_
   rw [← HL.out] at hm3
   have hbdl := HTX.out.map.lt
   have hFF : ∀ y, footT bg F y -> Fx gK y ∨ w.heap.size ≤ y := fun y hy => by
    rcases hy with rfl | ⟨k, hy⟩
    ·exact HSUBS.out _ (.inl rfl)
    ·rcases HUT.out.sub k y hy with q | q
     ·exact HSUBS.out y (.inr ⟨k, q⟩)
     ·exact .inr (by have := q.1; omega)
   have hbw : ∀ y, footT bg F y -> y ≠ bd := fun y hy q => by
    subst q
    rcases hFF y hy with q | q
    ·exact HTX.out.notb gK q
    ·omega
   have HD3 := HD.out.any.chg hc3 (fun y hy q => by
    have h1 : y = bd := q
    subst h1
    exact HOK.out y ((HSD.out y).2 (.inl rfl)) hy.1) (fun y hy q => hbw y hy q)
   have HT3 := tabO_insAt (k := gK) HTX.out WX.out.sorted HCALL.out HSUBS.out (fun y hy => ⟨hy.2, fun q => HOK.out y ((HSD.out y).2 (.inr ⟨gK, q⟩)) hy.1, fun q => HOK.out y ((HSD.out y).2 (.inl q)) hy.1⟩) (fun y hy => hy) hc3 hm3 HD3 hFF
   have hglob : globals x out = ins x gK (.table (globT a b)) := by unfold globals; rw [HTA.out, HTB.out]
   rw [hglob]
   refine ⟨rfl, _, HT3.any, fun y hy => ?_, ?_⟩
   ·rcases hy with rfl | ⟨k, hy⟩
    ·exact .inl ((HSD.out _).2 (.inl rfl))
    ·by_cases e : k = gK
     ·rw [if_pos e] at hy
      exact (hFF y hy).imp (fun q => (HSD.out y).2 (.inr ⟨gK, q⟩)) id
     ·rw [if_neg e] at hy
      exact .inl ((HSD.out y).2 (.inr ⟨k, hy⟩))
   ·refine ((HCALL.out.mono (S' := Sd) (fun y hy q => ?_)).trans hc3 (fun y hy q => ?_))
    ·rcases HSUBS.out y q with q | q
     ·exact (HSD.out y).2 (.inr ⟨gK, q⟩)
     ·omega
    ·exact (HSD.out y).2 (.inl q)
  ·intro k u w2 cnt2 hk hlk hfv hrg1 hlt hc1 hs1 hen
   have HFD := Hd (HUT.out.miss k (.inl hlk)).1
   have HFV := Hd hfv
   have HFS := Hd (show (fs k).isSome = true by rw [hfv]; rfl)
   have HLK := Hd hlk
   have HLT := Hd hlt
   have HRG1 := Hd hrg1
   have HC1 := Hd hc1
   have HLE := Hd hrg.left_eq
   have HSR := Hd (show wc.heap.size ≤ w2.heap.size by have := HUT.out.chg.size; have := hc1.size; omega)
   have hd1 := HUT.out.dst.chg hc1 (by have := HUT.out.rs; have := HE.out.ta.map.lt; omega)
   have HD1 := Hd hd1
   obtain ⟨y, hgb⟩ := HTBS.out k u hfv
   have HGB := Hd hgb
   have HKU := Hd (HUK.out k (WU.get WB.out hgb).1)
   have HKK := Hd hk
   have hkk := hk
   have hnd : nd < maxLen := by have := HUT.out.num; have := HLIM.out; unfold maxLen; omega
   have HSC := Hd (HUT.out.okl1 HE.out hc1 (HUT.out.src k hlk u y hfv hgb) HE.out.fbL)
   have hou := HSC.out.anyJ.one
   clear hlk hfv hrg1 hlt hc1 hs1 hrg hk hgb
   go_wp2_with fail
   refine (istable_any HSC.out.any0 w2).mono ?_
   rintro e wt ⟨rfl, hwt⟩
   obtain rfl := hwt.symm
   cases hyt : isT y with
   | false =>
    have HYT := Hd hyt
    clear hyt
    cases hga : get a k with
    | none =>
     have hfa : fa k = none := by
      have h := HE.out.ta.dom k
      rw [hga] at h
      cases hf : fa k with
      | none => rfl
      | some _ => rw [hf] at h; cases h
     have HFDV := Hd (HFD.out.trans hfa)
     have htg : globAt (get a k) (get b k) = some y := by rw [hga, HGB.out]; have h := HYT.out; cases y <;> first | rfl | (cases h; done)
     have HTG := Hd htg
     clear hga hfa htg
     go_wp2_with (first | (at_lookup; refine wpList_lookB rfl rfl rfl hd1 rfl hkk ?_; rw [HFDV.out]; go_frame) | (at_mapUpdate; refine wpList_putB (u := u) rfl rfl rfl hd1 hnd rfl hkk rfl ?_; intro w3 hm3 hc3 hs3; go_frame))
     have HUTN := Hd (HUT.out.bringFlat HE.out HLK.out HFV.out HLT.out HRG1.out HC1.out hc3 hm3 HGB.out HYT.out HTG.out)
     clear hm3 hc3 hs3
     refine ⟨?_, ?_⟩
     ·first | exact ⟨_, _, _, _, _, HUTN.out⟩ | ((repeat apply Exists.intro); exact ⟨⟨_, _, _, _, _, HUTN.out⟩, rfl⟩)
     ·rw [HUTN.out.rng.left_eq, HLE.out]; exact HLT.out
    | some x0 =>
     obtain ⟨u0, hfa⟩ : ∃ u0, fa k = some u0 := by
      have h := HE.out.ta.dom k
      rw [hga] at h
      cases hf : fa k with
      | none => rw [hf] at h; cases h
      | some v => exact ⟨v, rfl⟩
     have HFDV := Hd (HFD.out.trans hfa)
     have HO := Hd (HUT.out.old k (.inl HLK.out) u0 x0 hfa hga)
     have HFA := Hd hfa
     have HGA := Hd hga
     clear hfa hga
     go_wp2_with (first | (at_lookup; refine wpList_lookB rfl rfl rfl hd1 rfl hkk ?_; rw [HFDV.out]; go_frame))
     refine (istable_any HO.out.any0 w2).mono ?_
     rintro e wt ⟨rfl, hwt⟩
     obtain rfl := hwt.symm
     cases hxt : isT x0 with
     | false =>
      have htg : globAt (get a k) (get b k) = some y := by rw [HGA.out, HGB.out]; have h := HYT.out; cases y <;> first | (cases h; done) | (cases x0 <;> first | rfl | (cases hxt; done))
      have HTG := Hd htg
      clear hxt htg
      go_wp2_with (first | (at_mapUpdate; refine wpList_putB (u := u) rfl rfl rfl hd1 hnd rfl hkk rfl ?_; intro w3 hm3 hc3 hs3; go_frame))
      have HUTN := Hd (HUT.out.bringFlat HE.out HLK.out HFV.out HLT.out HRG1.out HC1.out hc3 hm3 HGB.out HYT.out HTG.out)
      clear hm3 hc3 hs3
      refine ⟨?_, ?_⟩
      ·first | exact ⟨_, _, _, _, _, HUTN.out⟩ | ((repeat apply Exists.intro); exact ⟨⟨_, _, _, _, _, HUTN.out⟩, rfl⟩)
      ·rw [HUTN.out.rng.left_eq, HLE.out]; exact HLT.out
     | true =>
      have htg : globAt (get a k) (get b k) = some x0 := by rw [HGA.out, HGB.out]; have h := HYT.out; cases y <;> first | (cases h; done) | (cases x0 <;> first | rfl | (cases hxt; done))
      have HTG := Hd htg
      clear hxt htg
      go_wp2_with (first | (refine wpList_build151_1 rfl rfl rfl rfl ?_))
      refine (printf_any _ _ _).mono ?_
      rintro e wp ⟨rfl, rfl⟩
      go_wp2_with fail
      have HUTN := Hd (HUT.out.keep HE.out (x := x0) HLK.out HFS.out HLT.out HRG1.out HC1.out ((Chg.refl No w2).alloc (.cells #[.iface 9 (.string k)] 20)) HFA.out HGA.out HTG.out)
      refine ⟨?_, ?_⟩
      ·first | exact ⟨_, _, _, _, _, HUTN.out⟩ | ((repeat apply Exists.intro); exact ⟨⟨_, _, _, _, _, HUTN.out⟩, rfl⟩)
      ·rw [HUTN.out.rng.left_eq, HLE.out]; exact HLT.out
   | true =>
    obtain ⟨yt, rfl⟩ := isT_table hyt
    obtain ⟨by_, _, _, _, rfl, -, -⟩ := HSC.out.tab
    have hmu := run_must67 (.map (some by_))
    have HWY := Hd (WU.get WB.out HGB.out).2
    have HFL1 := Hd (HFL.out b rfl k (.table yt) HGB.out)
    have hcm := copyMap_any (okB ok w) yt by_ (Fb k) w2 (by have h1 := HWY.out.len; omega) HSC.out HFL1.out
    have HCM := Hd hcm
    clear hyt hcm
    go_wp2_with fail
    refine HCM.out.mono ?_
    rintro e w3 ⟨g, rfl, hgw, hgo, hgc⟩
    have HGW := Hd hgw
    have HGO := Hd (show AnyO (okB ok w) w3 (.iface 67 (.map (some g))) (.table yt) (· = g) from hgo.mono (fun _ _ h => h.1))
    have HGC := Hd hgc
    have hd3 := HD1.out.chg hgc id
    have hgne : g ≠ bg := by have := HE.out.ta.map.lt; have := HSR.out; omega
    have HGNE := Hd hgne
    clear hgw hgo hgc hd1 hou hgne
    cases hga : get a k with
    | none =>
     have hfa : fa k = none := by
      have h := HE.out.ta.dom k
      rw [hga] at h
      cases hf : fa k with
      | none => rfl
      | some _ => rw [hf] at h; cases h
     have HFDV := Hd (HFD.out.trans hfa)
     have htg : globAt (get a k) (get b k) = some (.table yt) := by rw [hga, HGB.out]; rfl
     have HTG := Hd htg
     clear hga hfa htg
     go_wp2_with (first | (at_lookup; refine wpList_lookB rfl rfl rfl hd3 rfl hkk ?_; rw [HFDV.out]; go_frame) | (at_mapUpdate; refine wpList_putB (u := .iface 67 (.map (some g))) rfl rfl rfl hd3 hnd rfl hkk rfl ?_; intro w4 hm4 hc4 hs4; go_frame))
     have HUTN := Hd (HUT.out.putOwn HE.out (y := .table yt) (G := (· = g)) HLK.out HFS.out HLT.out HRG1.out HC1.out HGC.out (fun _ q => q.elim) hc4 hm4 HTG.out (HGO.out.chg hc4 (fun y hy q => HE.out.bok (q ▸ hy)) (fun y hy q => HGNE.out (hy.symm.trans q))) (fun y hy => .inr (by have h1 : y = g := hy; have := HGW.out; omega)))
     clear hm4 hc4 hs4
     refine ⟨?_, ?_⟩
     ·first | exact ⟨_, _, _, _, _, HUTN.out⟩ | ((repeat apply Exists.intro); exact ⟨⟨_, _, _, _, _, HUTN.out⟩, rfl⟩)
     ·rw [HUTN.out.rng.left_eq, HLE.out]; exact HLT.out
    | some x0 =>
     obtain ⟨u0, hfa⟩ : ∃ u0, fa k = some u0 := by
      have h := HE.out.ta.dom k
      rw [hga] at h
      cases hf : fa k with
      | none => rw [hf] at h; cases h
      | some v => exact ⟨v, rfl⟩
     have HFDV := Hd (HFD.out.trans hfa)
     have HO := Hd ((HUT.out.okl1 HE.out HC1.out (HUT.out.old k (.inl HLK.out) u0 x0 hfa hga) HE.out.faL).chg HGC.out (fun _ _ q => q) (fun _ _ q => q))
     have HFA := Hd hfa
     have HGA := Hd hga
     have has : ∀ z, (Instr.typeAssert u0 20 67 true).run Tryz.prog z = .ok (.tuple #[mapOf u0, .bool (isT x0)]) z := fun z => run_assert67 HO.out.any0
     clear hfa hga
     cases hxt : isT x0 with
     | false =>
      rw [hxt] at has
      have htg : globAt (get a k) (get b k) = some x0 := by rw [HGA.out, HGB.out]; cases x0 <;> first | rfl | (cases hxt; done)
      have HTG := Hd htg
      clear hxt htg
      go_wp2_with (first | (at_lookup; refine wpList_lookB rfl rfl rfl hd3 rfl hkk ?_; rw [HFDV.out]; go_frame) | (refine wpList_build151_1 rfl rfl rfl rfl ?_))
      refine (printf_any _ _ _).mono ?_
      rintro e wp ⟨rfl, rfl⟩
      go_wp2_with fail
      have HUTN := Hd (HUT.out.keep HE.out (x := x0) HLK.out HFS.out HLT.out HRG1.out HC1.out (HGC.out.alloc (.cells #[.iface 9 (.string k)] 20)) HFA.out HGA.out HTG.out)
      refine ⟨?_, ?_⟩
      ·first | exact ⟨_, _, _, _, _, HUTN.out⟩ | ((repeat apply Exists.intro); exact ⟨⟨_, _, _, _, _, HUTN.out⟩, rfl⟩)
      ·rw [HUTN.out.rng.left_eq, HLE.out]; exact HLT.out
     | true =>
      obtain ⟨xt, rfl⟩ := isT_table hxt
      obtain ⟨bx, _, _, _, rfl, -, -⟩ := HO.out.tab
      have has1 : ∀ z, (Instr.typeAssert (.iface 67 (.map (some bx))) 20 67 true).run Tryz.prog z = .ok (.tuple #[.map (some bx), .bool true]) z := has
      have hp18 : pre.size ≤ 1000000000000000000 := by have := HPRE.out; omega
      have hk18 : k.size ≤ 1000000000000000000 := by have h := HKU.out; unfold kOk at h; omega
      have HCP2 := Hd (concatPrefix_any pre k w3 hp18 hk18)
      clear has hxt hp18 hk18
      go_wp2_with (first | (at_lookup; refine wpList_lookB rfl rfl rfl hd3 rfl hkk ?_; rw [HFDV.out]; go_frame))
      refine HCP2.out.mono ?_
      rintro e wt ⟨⟨sx, rfl, hsx⟩, hwt⟩
      obtain rfl := hwt.symm
      have hcall := coalesceTables_any U N hN HUK.out true d (okB ok w) yt xt g bx (· = g) (Fa k) w3 sx HGO.out HO.out (fun y hy hy' => by
       have h1 : y = g := hy
       have h2 := HE.out.faL y hy'
       have := HSR.out
       have := HGW.out
       omega) (fun y hy q => hy.elim (fun h1 => by have h1 : y = g := h1; have := HE.out.okl y q; have := HSR.out; have := HGW.out; omega) (fun h1 => (HE.out.mb k y h1).2.2.2 q)) HWY.out (WU.get WA.out HGA.out).2 (by have h1 := HPRE.out; have h2 := HKU.out; unfold kOk at h2; omega)
      have HCALL := Hd hcall
      clear hcall hsx
      go_wp2_with fail
      refine HCALL.out.mono ?_
      rintro e w4 ⟨rfl, S', ho4, hsub4, hc4⟩
      have hd4 := hd3.chg hc4 (fun q => q.elim (fun q => HGNE.out q.symm) (fun q => (HE.out.mb k bg q).1 rfl))
      have HO4 := Hd ho4
      have HS4 := Hd hsub4
      have HC4 := Hd hc4
      clear ho4 hsub4 hc4
      go_wp2_with (first | (at_mapUpdate; refine wpList_putB (u := .iface 67 (.map (some g))) rfl rfl rfl hd4 hnd rfl hkk rfl ?_; intro w5 hm5 hc5 hs5; go_frame))
      have HUTN := Hd (HUT.out.putOwn HE.out (y := .table (coal true yt xt)) (S := fun y => Fa k y ∨ w2.heap.size ≤ y) (G := S') HLK.out HFS.out HLT.out HRG1.out HC1.out ((HGC.out.mono (fun _ _ q => q.elim)).trans HC4.out (fun y hy q => q.elim (fun q => .inr (by have h1 : y = g := q; have := HGW.out; omega)) .inl)) (fun y q => q) hc5 hm5 (by rw [HGA.out, HGB.out]; rfl) (HO4.out.chg hc5 (fun y hy q => HE.out.bok (q ▸ hy)) (fun y hy q => by
       have h1 : y = bg := q
       subst h1
       exact (HS4.out y hy).elim (fun q => HGNE.out q.symm) (fun q => (HE.out.mb k y q).1 rfl))) (fun y hy => (HS4.out y hy).elim (fun q => .inr (by have h1 : y = g := q; have := HGW.out; omega)) .inl))
      clear hm5 hc5 hs5
      refine ⟨?_, ?_⟩
      ·first | exact ⟨_, _, _, _, _, HUTN.out⟩ | ((repeat apply Exists.intro); exact ⟨⟨_, _, _, _, _, HUTN.out⟩, rfl⟩)
      ·rw [HUTN.out.rng.left_eq, HLE.out]; exact HLT.out
def okG (B : Nat) (γ : Option Nat) : Nat -> Prop := fun b => B ≤ b /\ γ ≠ some b
def Fact.box (γ : Option Nat) : Fact :=
 ⟨fun v _ => ∃ t, γ = some t /\ v = .pointer (some ⟨t, 0, Option.none⟩), fun _ _ => True, fun S v w w' h _ _ => h, fun _ => trivial⟩
structure GB (W : World) (ia is : Nat) (j : J) (γ : Option Nat) (done : Nat -> Bool) (w : World) : Prop where
 chg : Chg No W w
 iff : done ia = γ.isSome
 box : ∀ t, γ = some t -> W.heap.size ≤ t /\ ∃ c, Blk w t c 26 /\ c.length = 7 /\ (done is = true -> ValJ (okG W.heap.size γ) w c j)
theorem GB.start (W : World) (ia is : Nat) (j : J) : GB W ia is j none (fun _ => false) W.drew := ⟨(Chg.refl _ W).drew, rfl, fun t h => by cases h⟩
theorem dn_of_ne {done : Nat -> Bool} {i k : Nat} (h : i ≠ k) : dn done i k = done k := dn_ne (beq_eq_false_iff_ne.2 h.symm)
theorem GB.other {W : World} {ia is : Nat} {j : J} {γ : Option Nat} {done : Nat -> Bool} {w w' : World} (h : GB W ia is j γ done w) {i : Nat} (h1 : i ≠ ia) (h2 : i ≠ is) (hc : Chg No w w') : GB W ia is j γ (dn done i) w' := by
 refine ⟨h.chg.trans' hc, by rw [dn_of_ne h1]; exact h.iff, fun t ht => ?_⟩
 obtain ⟨h3, c, h4, h5, h6⟩ := h.box t ht
 exact ⟨h3, c, h4.chg hc id, h5, fun e => (h6 (by rwa [dn_of_ne h2] at e)).chg hc (fun _ _ e => e)⟩
theorem GB.size {W : World} {ia is : Nat} {j : J} {γ : Option Nat} {done : Nat -> Bool} {w : World} (h : GB W ia is j γ done w) : W.heap.size ≤ w.heap.size := h.chg.size
theorem GB.noBox {W : World} {ia is : Nat} {j : J} {γ : Option Nat} {done : Nat -> Bool} {w : World} (h : GB W ia is j γ done w) (hd : done ia = false) : γ = none := by
 have h1 := h.iff
 rw [hd] at h1
 cases γ with
 | none => rfl
 | some t => cases h1
theorem GB.fresh {W : World} {ia is : Nat} {j : J} {γ : Option Nat} {done : Nat -> Bool} {w : World} (h : GB W ia is j γ done w) {b : Nat} (hb : w.heap.size ≤ b) : okG W.heap.size γ b := by
 refine ⟨Nat.le_trans h.size hb, fun e => ?_⟩
 obtain ⟨-, c, h1, -⟩ := h.box b e
 have := h1.lt
 omega
theorem GB.lay {W : World} {ia is : Nat} {j : J} {done : Nat -> Bool} {w : World} (h : GB W ia is j none done w) (hne : ia ≠ is) (hs : done is = false) : GB W ia is j (some w.heap.size) (dn done ia) (w.alloc (.cells zero7.toArray 26)) := by
 refine ⟨h.chg.alloc _, by rw [dn_self]; rfl, fun t ht => ?_⟩
 cases ht
 exact ⟨h.size, zero7, Blk.new _ _ _, rfl, fun e => by rw [dn_of_ne hne, hs] at e; cases e⟩
theorem GB.put {W : World} {ia is : Nat} {j : J} {t : Nat} {done : Nat -> Bool} {w w' : World} {c : List Value} (h : GB W ia is j (some t) done w) (hne : ia ≠ is) (hc : Chg (· = t) w w') (hb : Blk w' t c 26) (hv : ValJ (okG W.heap.size (some t)) w c j) : GB W ia is j (some t) (dn done is) w' := by
 have h1 := (h.box t rfl).1
 refine ⟨h.chg.trans hc (fun i hi e => by omega), by rw [dn_of_ne hne.symm]; exact h.iff, fun t' ht => ?_⟩
 cases ht
 exact ⟨h1, c, hb, hv.length, fun _ => hv.chg hc (fun b hb e => hb.2 (by rw [e]))⟩
theorem ValJ.raw {ok : Nat -> Prop} {w : World} {cs : List Value} {j : J} (h : ValJ ok w cs j) : ∀ {n d : Nat}, Wf n d j -> RawV ok w cs := by
 induction h with
 | null hk hl => intro n d _; exact .mk (ks := []) hk (by simp) hl (by simp)
 | bool hk hl => intro n d _; exact .mk (ks := []) hk (by simp) hl (by simp)
 | int hk hl => intro n d _; exact .mk (ks := []) hk (by simp) hl (by simp)
 | float hk hl => intro n d _; exact .mk (ks := []) hk (by simp) hl (by simp)
 | text hk hl => intro n d _; exact .mk (ks := []) hk (by simp) hl (by simp)
 | @list _ _ _ _ _ _ rows xs hk hl hn h ih =>
  intro n d wf
  cases d with
  | zero => exact wf.elim
  | succ d =>
   refine .mk (ks := []) hk (by simp) hl (fun r hr => ?_)
   obtain ⟨i, hi⟩ := List.getElem?_of_mem hr
   have hlt := (List.getElem?_eq_some_iff.1 hi).1
   have hx := List.getElem?_eq_getElem (l := xs) (i := i) (by omega)
   exact ih i r _ hi hx (wf.2 _ (List.mem_of_getElem? hx))
 | @table _ _ _ _ _ _ rows kvs hk hl hn h ih =>
  intro n d wf
  cases d with
  | zero => exact wf.elim
  | succ d =>
   refine .mk (ks := kvs.map (·.1)) (by simpa [kRows, List.map_map, Function.comp_def] using hk) (fun x hx => ?_) hl (fun r hr => ?_)
   ·obtain ⟨p, hp, rfl⟩ := List.mem_map.1 hx
    exact (wf.2.2 p hp).1
   ·obtain ⟨i, hi⟩ := List.getElem?_of_mem hr
    have hlt := (List.getElem?_eq_some_iff.1 hi).1
    have hx := List.getElem?_eq_getElem (l := kvs) (i := i) (by omega)
    exact ih i r _ hi hx (wf.2.2 _ (List.mem_of_getElem? hx)).2
theorem wp_setSlice {P : Program} {o : Oper} {a : Act} {w : World} {K : Act -> World -> Prop} {Q : Exit -> Act -> World -> Prop} {ty : TypeId} {x y : Operand} (ho : o.op = .store ty x y)
  {g i : Nat} (hx : a.eval x = .pointer (some ⟨g, i, none⟩)) {v : Value} (hv : ∃ sa sn sc, v = .slice sa sn sc) (hz : ∀ w, (Go.sizeOf ty).run P w = .ok 1 w) {cs : List Value} {t : TypeId} (hb : Blk w g cs t) (hi : i < cs.length) (hy : a.eval y = v)
  (h : ∀ w', Blk w' g (cs.set i v) t -> Chg (· = g) w w' -> w'.heap.size = w.heap.size -> K (a.put o.dst undef) w') : o.wp P a w K Q := by
 obtain ⟨sa, sn, sc, rfl⟩ := hv
 have hc := hb.cell i
 have hf := hb.frozen i
 rw [List.getElem?_eq_getElem hi] at hc
 obtain ⟨h2, h3, h4⟩ := hb.setCell i (.slice sa sn sc)
 have hfin := h _ h2 h3 h4
 clear h h2 h3 h4
 unfold Oper.wp execOp
 simp only [ho, hx, hy]
 simp [go_sem, hz, hc, hf]
 exact hfin
def EmptyS (B : Nat) (v : Value) (w : World) : Prop := ∃ b, v = .slice (some ⟨b, 0, none⟩) 0 0 /\ B ≤ b /\ Blk w b [] 9
theorem EmptyS.keep {B : Nat} : ∀ v w w', EmptyS B v w -> Chg No w w' -> EmptyS B v w' := by
 rintro v w w' ⟨b, h1, h2, h3⟩ hc
 exact ⟨b, h1, h2, h3.chg hc id⟩
theorem EmptyS.new {B : Nat} {w : World} (h : B ≤ w.heap.size) : EmptyS B (.slice (some ⟨w.heap.size, 0, none⟩) 0 0) (w.alloc (.cells #[] 9)) := ⟨_, rfl, h, Blk.new w [] 9⟩
def DepS (B : Nat) (x : Want) (v : Value) (w : World) : Prop := ∃ tv, v = .agg (cellsD x ByteArray.empty tv (.slice none 0 0)).toArray /\ OwnR w B 9 1 tv (kRows x.tags)
theorem DepS.keep {B : Nat} {x : Want} : ∀ v w w', DepS B x v w -> Chg No w w' -> DepS B x v w' := by
 rintro v w w' ⟨tv, h1, h2⟩ hc
 exact ⟨tv, h1, h2.chg hc (fun _ _ e => e)⟩
def DepB (B : Nat) (x : Want) (v : Value) (w : World) : Prop := ∃ q tv, v = ptr q /\ B ≤ q /\ Blk w q (cellsD x ByteArray.empty tv (.slice none 0 0)) 154 /\ OwnR w B 9 1 tv (kRows x.tags)
theorem DepB.keep {B : Nat} {x : Want} : ∀ v w w', DepB B x v w -> Chg No w w' -> DepB B x v w' := by
 rintro v w w' ⟨q, tv, h1, h2, h3, h4⟩ hc
 exact ⟨q, tv, h1, h2, h3.chg hc id, h4.chg hc (fun _ _ e => e)⟩
theorem DepB.new {B : Nat} {x : Want} {w : World} {tv : Value} (h : B ≤ w.heap.size) (ho : OwnR w B 9 1 tv (kRows x.tags)) : DepB B x (ptr w.heap.size) (w.alloc (.cells (cellsD x ByteArray.empty tv (.slice none 0 0)).toArray 154)) :=
 ⟨_, tv, rfl, h, Blk.new w _ 154, ho.alloc _⟩
def okM (B : Nat) (w : World) : Nat -> Prop := fun y => B ≤ y /\ ∀ cur ty m, w.heap[y]? ≠ some (.cells cur ty m)
def okNot (B : Nat) (tys : List Nat) (w : World) : Nat -> Prop := fun y => B ≤ y /\ ∀ cur ty m, w.heap[y]? = some (.cells cur ty m) -> ty ∉ tys
theorem okM.chg {B : Nat} {w w' : World} {S : Nat -> Prop} (hc : Chg S w w') (hS : ∀ y, y < w.heap.size -> S y -> ∃ cur ty m, w.heap[y]? = some (.cells cur ty m)) {v : Value} {i : Imp} (h : ImpM (okM B w) w v i) : ImpM (okM B w') w' v i := by
 have h1 : ImpM (fun y => okM B w y /\ y < w.heap.size) w v i := h.mono (fun b hb h => ⟨h, hb⟩)
 refine (h1.chg hc (fun b hb e => ?_)).mono (fun b _ hb => ⟨hb.1.1, fun cur ty m e => ?_⟩)
 ·obtain ⟨cur, ty, m, h2⟩ := hS b hb.2 e
  exact hb.1.2 _ _ _ h2
 ·have hns : ¬ S b := fun e2 => by
   obtain ⟨cur, ty, m, h2⟩ := hS b hb.2 e2
   exact hb.1.2 _ _ _ h2
  rw [hc.block b hb.2 hns] at e
  exact hb.1.2 _ _ _ e
theorem okNot.chg {B : Nat} {tys : List Nat} {w w' : World} {S : Nat -> Prop} (hc : Chg S w w') (hS : ∀ y, y < w.heap.size -> S y -> ∃ cur ty m, w.heap[y]? = some (.cells cur ty m) /\ ty ∈ tys) {q : Nat} {x : Want} (h : DepM (okNot B tys w) w q x) (hq : ¬ S q) : DepM (okNot B tys w') w' q x := by
 have hok : ∀ b, okNot B tys w b /\ b < w.heap.size -> ¬ S b := fun b hb e => by
  obtain ⟨cur, ty, m, h2, h3⟩ := hS b hb.2 e
  exact hb.1.2 _ _ _ h2 h3
 refine ((h.mono (ok' := fun y => okNot B tys w y /\ y < w.heap.size) (fun b hb h => ⟨h, hb⟩)).chg hc hok hq).mono (fun b _ hb => ⟨hb.1.1, fun cur ty m e => ?_⟩)
 rw [hc.block b hb.2 (hok b hb)] at e
 exact hb.1.2 _ _ _ e
structure WI (B : Nat) (x : Want) (q : Nat) (tv : Value) (W0 wr : World) (n : Nat) (iv : Value) (ivs : List Value) : Prop where
 blk : Blk wr q (cellsD x ByteArray.empty tv iv) 154
 own : OwnR wr B 20 1 iv (ivs.map fun u => [u])
 len : ivs.length = n
 imp : ∀ (j : Nat) (u : Value) (i : Imp), ivs[j]? = some u -> x.imports[j]? = some i -> ImpM (okM B wr) wr u i
 chg : Chg (fun k => k = q) W0 wr
 new : ∀ k, iv.ownBlock = some k -> W0.heap.size ≤ k
theorem WI.keep {B : Nat} {x : Want} {q : Nat} {tv : Value} {W0 wr w' : World} {n : Nat} {iv : Value} {ivs : List Value} (h : WI B x q tv W0 wr n iv ivs) (hc : Chg No wr w') : WI B x q tv W0 w' n iv ivs :=
 ⟨h.blk.chg hc id, h.own.chg hc (fun _ _ e => e), h.len, fun j u i h1 h2 => okM.chg hc (fun _ _ e => e.elim) (h.imp j u i h1 h2), h.chg.trans' hc, h.new⟩
theorem WI.step {B : Nat} {x : Want} {q : Nat} {tv : Value} {W0 wy w2 : World} {n : Nat} {iv iv' : Value} {ivs : List Value} (h : WI B x q tv W0 wy n iv ivs) {u : Value} {im : Imp} (him : x.imports[n]? = some im) (hb : Blk w2 q (cellsD x ByteArray.empty tv iv') 154)
  (hown : OwnR w2 B 20 1 iv' ((ivs.map fun u => [u]) ++ [[u]])) (hnew : iv'.ownBlock = iv.ownBlock ∨ ∀ k, iv'.ownBlock = some k -> wy.heap.size ≤ k) (hc : Chg (fun b => b = q ∨ iv.ownBlock = some b) wy w2) (hu : ImpM (okM B w2) w2 u im) (hil : ∀ k, iv.ownBlock = some k -> k < wy.heap.size) : WI B x q tv W0 w2 (n + 1) iv' (ivs ++ [u]) := by
 have hsz := h.chg.size
 refine ⟨hb, by simpa using hown, by simp [h.len], fun j v i h1 h2 => ?_, h.chg.trans hc (fun i hi e => ?_), fun k hk => ?_⟩
 ·by_cases hj : j < ivs.length
  ·rw [List.getElem?_append_left hj] at h1
   refine okM.chg hc (fun y _ e => ?_) (h.imp j v i h1 h2)
   rcases e with e | e
   ·subst e; exact ⟨_, _, _, h.blk⟩
   ·obtain ⟨-, -, cur, h3⟩ := h.own.elem e
    exact ⟨_, _, _, h3⟩
  ·have hj2 : j = ivs.length := by
    have := (List.getElem?_eq_some_iff.1 h1).1
    simp at this
    omega
   subst hj2
   rw [List.getElem?_append_right (Nat.le_refl _), Nat.sub_self] at h1
   cases h1
   rw [h.len, him] at h2
   cases h2
   exact hu
 ·rcases e with e | e
  ·exact e
  ·have := h.new i e; omega
 ·rcases hnew with h1 | h1
  ·exact h.new k (h1 ▸ hk)
  ·have := h1 k hk; omega
def mapF (im : Imp) (c p : Bool) : K -> Option Value := fun k => if k = childK then (if c then some (.iface 9 (.string im.child)) else none) else if k = parentK then (if p then some (.iface 9 (.string im.parent)) else none) else none
theorem childK_ne : childK ≠ parentK := by decide
structure MG (wy : World) (im : Imp) (γ : Option Nat) (done : Nat -> Bool) (w : World) : Prop where
 iff : done 5 = γ.isSome
 map : ∀ b, γ = some b -> wy.heap.size ≤ b /\ MapB w b ((done 9).toNat + (done 13).toNat) (mapF im (done 9) (done 13))
theorem mapN_lt (c p : Bool) : c.toNat + p.toNat < maxLen := by cases c <;> cases p <;> decide
theorem MapB.noRow {w : World} {b n : Nat} {f : K -> Option Value} (h : MapB w b n f) {e : TypeId} : ¬ ∃ cur, w.heap[b]? = some (.cells cur e (0, 0)) := by
 rintro ⟨cur, h1⟩
 obtain ⟨D, ⟨es, c, h2, -⟩, -⟩ := h
 rw [h1] at h2
 cases h2
theorem MG.start (wy : World) (im : Imp) : MG wy im none (fun _ => false) wy.drew := ⟨rfl, fun b h => by cases h⟩
section
variable {wy : World} {im : Imp} {γ : Option Nat} {done : Nat -> Bool} {w w' : World}
theorem MG.chg {S : Nat -> Prop} (h : MG wy im γ done w) {i : Nat} (h5 : i ≠ 5) (h9 : i ≠ 9) (h13 : i ≠ 13) (hc : Chg S w w') (hS : ∀ b n f, MapB w b n f -> ¬ S b) : MG wy im γ (dn done i) w' := by
 refine ⟨by rw [dn_of_ne h5]; exact h.iff, fun b hb => ?_⟩
 obtain ⟨h1, h2⟩ := h.map b hb
 rw [dn_of_ne h9, dn_of_ne h13]
 exact ⟨h1, h2.chg hc (hS _ _ _ h2)⟩
theorem MG.other (h : MG wy im γ done w) {i : Nat} (h5 : i ≠ 5) (h9 : i ≠ 9) (h13 : i ≠ 13) (hc : Chg No w w') : MG wy im γ (dn done i) w' := h.chg h5 h9 h13 hc (fun _ _ _ _ e => e)
theorem MG.noMap (h : MG wy im γ done w) (hd : done 5 = false) : γ = none := by
 have h1 := h.iff
 rw [hd] at h1
 cases γ with
 | none => rfl
 | some t => cases h1
theorem MG.lay (h : MG wy im none done w) (hs : wy.heap.size ≤ w.heap.size) (h9 : done 9 = false) (h13 : done 13 = false) : MG wy im (some w.heap.size) (dn done 5) (w.alloc (.map #[] 0)) := by
 refine ⟨by rw [dn_self]; rfl, fun b hb => ?_⟩
 cases hb
 rw [dn_of_ne (by decide), dn_of_ne (by decide), h9, h13]
 refine ⟨hs, ?_⟩
 have hf : mapF im false false = fun _ => none := by
  funext k
  unfold mapF
  by_cases h1 : k = childK
  ·rw [if_pos h1]; rfl
  ·rw [if_neg h1]; by_cases h2 : k = parentK
   ·rw [if_pos h2]; rfl
   ·rw [if_neg h2]
 rw [hf]
 exact MapB.made w
theorem MG.put9 {b : Nat} (h : MG wy im (some b) done w) (hd : done 9 = false) (hb : wy.heap.size ≤ b) (hm : MapB w' b ((done 9).toNat + (done 13).toNat + 1) (fun z => if z = childK then some (.iface 9 (.string im.child)) else mapF im (done 9) (done 13) z)) (hc : Chg (· = b) w w') : MG wy im (some b) (dn done 9) w' := by
 refine ⟨by rw [dn_of_ne (by decide)]; exact h.iff, fun b' hb' => ?_⟩
 cases hb'
 rw [dn_self, dn_of_ne (by decide)]
 rw [hd] at hm
 have hf : (fun z => if z = childK then some (.iface 9 (.string im.child)) else mapF im false (done 13) z) = mapF im true (done 13) := by
  funext z
  unfold mapF
  by_cases h1 : z = childK
  ·rw [if_pos h1, if_pos h1]; rfl
  ·rw [if_neg h1, if_neg h1, if_neg h1]
 rw [hf] at hm
 refine ⟨hb, ?_⟩
 rw [show true.toNat + (done 13).toNat = false.toNat + (done 13).toNat + 1 by simp; omega]
 exact hm
theorem MG.put13 {b : Nat} (h : MG wy im (some b) done w) (hd : done 13 = false) (hb : wy.heap.size ≤ b) (hm : MapB w' b ((done 9).toNat + (done 13).toNat + 1) (fun z => if z = parentK then some (.iface 9 (.string im.parent)) else mapF im (done 9) (done 13) z)) (hc : Chg (· = b) w w') : MG wy im (some b) (dn done 13) w' := by
 refine ⟨by rw [dn_of_ne (by decide)]; exact h.iff, fun b' hb' => ?_⟩
 cases hb'
 rw [dn_self, dn_of_ne (by decide)]
 rw [hd] at hm
 have hf : (fun z => if z = parentK then some (.iface 9 (.string im.parent)) else mapF im (done 9) false z) = mapF im (done 9) true := by
  funext z
  unfold mapF
  by_cases h1 : z = parentK
  ·have h2 : z ≠ childK := fun e => childK_ne (e ▸ h1)
   rw [if_pos h1, if_neg h2, if_pos h1]; rfl
  ·rw [if_neg h1, if_neg h1, if_neg h1]
 rw [hf] at hm
 refine ⟨hb, ?_⟩
 exact hm
end
def Fact.mapG (γ : Option Nat) : Fact := ⟨fun v _ => ∃ b, γ = some b /\ v = .map (some b), fun _ _ => True, fun S v w w' h _ _ => h, fun _ => trivial⟩
def Fact.ifM (γ : Option Nat) : Fact := ⟨fun v _ => ∃ b, γ = some b /\ v = .iface 67 (.map (some b)), fun _ _ => True, fun S v w w' h _ _ => h, fun _ => trivial⟩
theorem imp_any {B : Nat} {w : World} {b n : Nat} {im : Imp} (h : MapB w b n (mapF im true true)) (hb : B ≤ b) : AnyJ (okM B w) w (.iface 67 (.map (some b))) (.table [(childK, .text im.child), (parentK, .text im.parent)]) := by
 have hg : ∀ k, get [(childK, J.text im.child), (parentK, .text im.parent)] k = if k = childK then some (.text im.child) else if k = parentK then some (.text im.parent) else none := fun k => by
  show (if childK = k then some (J.text im.child) else if parentK = k then some (J.text im.parent) else none) = _
  simp only [eq_comm (a := childK), eq_comm (a := parentK)]
 refine .table h ⟨hb, fun cur ty m e => ?_⟩ (fun k => ?_) (fun k u x h1 h2 => ?_)
 ·obtain ⟨D, ⟨es, c, h2, -⟩, -⟩ := h
  rw [e] at h2
  cases h2
 ·rw [hg]
  unfold mapF
  by_cases h1 : k = childK
  ·rw [if_pos h1, if_pos h1]; rfl
  ·rw [if_neg h1, if_neg h1]
   by_cases h2 : k = parentK
   ·rw [if_pos h2, if_pos h2]; rfl
   ·rw [if_neg h2, if_neg h2]; rfl
 ·rw [hg] at h2
  unfold mapF at h1
  by_cases h3 : k = childK
  ·rw [if_pos h3] at h1 h2; cases h1; cases h2; exact .text
  ·rw [if_neg h3] at h1 h2
   by_cases h4 : k = parentK
   ·rw [if_pos h4] at h1 h2; cases h1; cases h2; exact .text
   ·rw [if_neg h4] at h1; cases h1
structure WL (w : World) (xs : List Want) (wr : World) (n : Nat) (wv : Value) (qs : List Nat) : Prop where
 le : n ≤ xs.length
 own : OwnR wr w.heap.size 152 1 wv (ptrRows qs)
 nil : n = 0 -> wv = .slice none 0 0
 len : qs.length = n
 nd : qs.Nodup
 lo : ∀ q ∈ qs, w.heap.size ≤ q
 dep : ∀ (i q : Nat) (x : Want), qs[i]? = some q -> xs[i]? = some x -> DepM (okNot w.heap.size [154, 152] wr) wr q x
 chg : Chg No w wr
theorem WL.lt {w : World} {xs : List Want} {wr : World} {n : Nat} {wv : Value} {qs : List Nat} (h : WL w xs wr n wv qs) : ∀ q ∈ qs, q < wr.heap.size := fun q hq => by
 obtain ⟨i, hi⟩ := List.getElem?_of_mem hq
 have hil := (List.getElem?_eq_some_iff.1 hi).1
 obtain ⟨x, hx⟩ : ∃ x, xs[i]? = some x := ⟨_, List.getElem?_eq_getElem (by have := h.len; have := h.le; omega)⟩
 exact (h.dep i q x hi hx).lt
theorem OwnR.blkTy {w : World} {base e size k : Nat} {v : Value} {rows : List (List Value)} (h : OwnR w base e size v rows) (hk : v.ownBlock = some k) {cur : Array Value} {ty : TypeId} {m : Nat × Nat} (hc : w.heap[k]? = some (.cells cur ty m)) : ty = e := by
 obtain ⟨-, -, cur', h2⟩ := h.elem hk
 rw [hc] at h2
 cases h2
 rfl
theorem WL.step {w : World} {xs : List Want} {wr : World} {n : Nat} {wv : Value} {qs : List Nat} (h : WL w xs wr n wv qs) {x : Want} (hx : xs[n]? = some x) {wx W0 w3 w4 : World} {q : Nat} {tv iv wv' : Value} {ivs : List Value} (hcx : Chg No wr wx) (hc0 : Chg No wx W0) (hqx : wx.heap.size ≤ q)
  (hi : WI wx.heap.size x q tv W0 w3 x.imports.length iv ivs) (htv : OwnR w3 wx.heap.size 9 1 tv (kRows x.tags)) (hq0 : q < W0.heap.size)
  (hc4 : Chg (fun b => wv.ownBlock = some b) (w3.alloc (.cells #[ptr q] 152)) w4) (hown : OwnR w4 w.heap.size 152 1 wv' (ptrRows qs ++ [[ptr q]])) : WL w xs w4 (n + 1) wv' (qs ++ [q]) := by
 have hlt : n < xs.length := (List.getElem?_eq_some_iff.1 hx).1
 have hs1 := h.chg.size
 have hs2 := hcx.size
 have hs3 := hc0.size
 have hs4 := hi.chg.size
 have hs5 := hc4.size
 simp at hs5
 have hql := h.lt
 have hwvl : ∀ k, wv.ownBlock = some k -> k < wr.heap.size := fun k hk => (h.own.elem hk).2.1
 have hca : Chg (fun k => k = q) wr w3 := (((hcx.trans' hc0).mono (fun _ _ e => e.elim))).trans hi.chg (fun _ _ e => e)
 have hcb : Chg (fun k => k = q ∨ wv.ownBlock = some k) wr w4 := ((hca.mono (S' := fun k => k = q ∨ wv.ownBlock = some k) (fun _ _ e => .inl e)).alloc _).trans hc4 (fun i hi e => .inr e)
 have hcw : Chg (fun k => wv.ownBlock = some k) w3 w4 := ((Chg.refl _ w3).alloc _).trans hc4 (fun i hi e => e)
 have hwv3 : ∀ k, wv.ownBlock = some k -> ∃ cur, w3.heap[k]? = some (.cells cur 152 (0, 0)) := fun k hk => by
  obtain ⟨-, h1, cur, h2⟩ := h.own.elem hk
  exact ⟨cur, (hca.block k h1 (fun e => by omega)).trans h2⟩
 have hwvs : ∀ y, y < w3.heap.size -> wv.ownBlock = some y -> ∃ cur ty m, w3.heap[y]? = some (.cells cur ty m) /\ ty ∈ [154, 152] := fun y _ hy => by
  obtain ⟨cur, hcur⟩ := hwv3 y hy
  exact ⟨_, _, _, hcur, by decide⟩
 refine ⟨hlt, by simpa [ptrRows] using hown, fun e => by omega, by simp [h.len], ?_, fun y hy => ?_, fun i y z h1 h2 => ?_, h.chg.trans hcb (fun i hi e => ?_)⟩
 ·refine List.nodup_append.2 ⟨h.nd, by simp, fun a ha b hb e => ?_⟩
  have h1 : b = q := by simpa using hb
  have := hql a ha
  omega
 ·rcases List.mem_append.1 hy with hy | hy
  ·exact h.lo y hy
  ·have : y = q := by simpa using hy
   omega
 ·by_cases hj : i < qs.length
  ·rw [List.getElem?_append_left hj] at h1
   have hyl := hql y (List.mem_of_getElem? h1)
   have hd := h.dep i y z h1 h2
   have hd2 : DepM (okNot w.heap.size [154, 152] wr) wr y z := hd
   have hd3 : DepM (fun b => okNot w.heap.size [154, 152] wr b /\ b < wr.heap.size) wr y z := hd.mono (fun b hb h => ⟨h, hb⟩)
   have hd4 := (hd3.chg hca (fun b hb e => by have := hb.2; omega) (fun e => by omega)).mono (ok' := okNot w.heap.size [154, 152] w3) (fun b _ hb => ⟨hb.1.1, fun cur ty m e => hb.1.2 cur ty m (by rw [← hca.block b hb.2 (fun e => by have := hb.2; omega)]; exact e)⟩)
   refine okNot.chg hcw hwvs hd4 (fun e => ?_)
   obtain ⟨repo, t1, t2, t3, hbk, -⟩ := hd4
   obtain ⟨cur, hcur⟩ := hwv3 y e
   have h3 : w3.heap[y]? = _ := hbk
   rw [h3] at hcur
   cases hcur
  ·have hj2 : i = qs.length := by
    have := (List.getElem?_eq_some_iff.1 h1).1
    simp at this
    omega
   subst hj2
   rw [List.getElem?_append_right (Nat.le_refl _), Nat.sub_self] at h1
   cases h1
   rw [h.len, hx] at h2
   cases h2
   have hd : DepM (okNot w.heap.size [154, 152] w3) w3 q x := by
    refine ⟨ByteArray.empty, tv, iv, ivs, hi.blk, htv.rowAt.mono (fun b hb h1 => ⟨by have := (htv.elem h1).1; omega, fun cur ty m e => by rw [htv.blkTy h1 e]; decide⟩) (by decide), hi.own.rowAt.mono (fun b hb h1 => ⟨by have := (hi.own.elem h1).1; omega, fun cur ty m e => by rw [hi.own.blkTy h1 e]; decide⟩) (by decide), hi.len, fun j u im h1 h2 => (hi.imp j u im h1 h2).mono (fun b _ h1 => ⟨by have := h1.1; omega, fun cur ty m e => absurd e (h1.2 _ _ _)⟩)⟩
   refine okNot.chg hcw hwvs hd (fun e => ?_)
   have := hwvl q e
   omega
 ·rcases e with e | e
  ·omega
  ·exact absurd (h.own.elem e).1 (by omega)
def WantsRet (w : World) (xs : List Want) (e : Ending) (w' : World) : Prop :=
 ∃ wv qs, e = .returned (.tuple #[wv, .bool true]) /\ (∃ a n c, wv = .slice a n c) /\ (xs = [] -> wv = .slice none 0 0) /\ RowAt (fun y => w.heap.size ≤ y /\ y ∉ qs) w' wv 1 (ptrRows qs) /\ qs.length = xs.length /\ qs.Nodup /\ (∀ q ∈ qs, w.heap.size ≤ q) /\
  (∀ (i q : Nat) (x : Want), qs[i]? = some q -> xs[i]? = some x -> DepM (fun y => w.heap.size ≤ y /\ y ∉ qs) w' q x) /\ Chg No w w'
theorem WL.done {w : World} {xs : List Want} {wr : World} {wv : Value} {qs : List Nat} (h : WL w xs wr xs.length wv qs) : WantsRet w xs (.returned (.tuple #[wv, .bool true])) wr := by
 have hcell : ∀ q ∈ qs, ∃ cur, wr.heap[q]? = some (.cells cur 154 (0, 0)) := fun q hq => by
  obtain ⟨i, hi⟩ := List.getElem?_of_mem hq
  have hil := (List.getElem?_eq_some_iff.1 hi).1
  obtain ⟨x, hx⟩ : ∃ x, xs[i]? = some x := ⟨_, List.getElem?_eq_getElem (by rw [← h.len]; exact hil)⟩
  obtain ⟨repo, t1, t2, t3, hbk, -⟩ := h.dep i q x hi hx
  exact ⟨_, hbk⟩
 refine ⟨wv, qs, rfl, h.own.slice, fun e => h.nil (by rw [e]; rfl), h.own.rowAt.mono (fun b hb hk => ⟨(h.own.elem hk).1, fun hm => ?_⟩) (by decide), h.len, h.nd, h.lo, fun i q x h1 h2 => (h.dep i q x h1 h2).mono (fun b _ hb => ⟨hb.1, fun hm => ?_⟩), h.chg⟩
 ·obtain ⟨cur, hcur⟩ := hcell b hm
  have := h.own.blkTy hk hcur
  cases this
 ·obtain ⟨cur, hcur⟩ := hcell b hm
  exact hb.2 _ _ _ hcur (by decide)
theorem wantsOf_any {ok : Nat -> Prop} {lv : Value} {w : World} {rows : List (List Value)} {xs : List Want} (h : RowAt ok w lv 7 rows) (hn : rows.length = xs.length) (hx : ∀ (n : Nat) (r : List Value) (x : Want), rows[n]? = some r -> xs[n]? = some x -> WantJ ok w r x) (hs : ∀ x ∈ xs, WantR x) (h40 : xs.length ≤ 40) :
  Calls Tryz.prog 83 #[lv] w (WantsRet w xs) := by
 have HR := Hd (h.mono (ok' := okB ok w) (fun b hb h => ⟨h, hb⟩) (by decide))
 have HN := Hd hn
 have HX := Hd (fun n r x h1 h2 => (hx n r x h1 h2).mono (ok' := okB ok w) (fun b hb h => ⟨h, hb⟩))
 have HS := Hd hs
 have H40 := Hd h40
 have h4 : ¬ (40 : Int) < (rows.length : Int) := by omega
 have h5 : (rows.length : Int) ≤ 40 := by omega
 obtain ⟨-, -, la, lc, rfl, -, -⟩ := h
 have HWL0 := Hd (show WL w xs w 0 (.slice none 0 0) [] from ⟨Nat.zero_le _, OwnR.nil _ _ _ _, fun _ => rfl, rfl, by simp, by simp, fun i q x h => by simp at h, Chg.refl _ _⟩)
 clear hn hx hs h40
 go_enter Tryz.func83, Tryz.ntmps83
 go_wp2_with fail
 go_loopw [4, 12] (fun v ct wr => ∃ (n : Nat) (qs : List Nat) (wa : Option Addr) (wc : Nat), v = .slice wa n wc /\ ct = .int .i64 n /\ WL w xs wr n (.slice wa n wc) qs) (fun _ ct _ => rows.length - (intOf ct).toNat)
 case atStart => exact ⟨0, [], none, 0, rfl, rfl, HWL0.out⟩
 case round =>
  obtain ⟨n, qs, wa, wc, rfl, rfl, hwl⟩ := hrel
  have HWL := Hd hwl
  clear hwl HWL0
  by_cases hlt : n < rows.length
  ·obtain ⟨r, hr⟩ : ∃ r, rows[n]? = some r := ⟨_, List.getElem?_eq_getElem hlt⟩
   obtain ⟨x, hx⟩ : ∃ x, xs[n]? = some x := ⟨_, List.getElem?_eq_getElem (by rw [← HN.out]; exact hlt)⟩
   obtain ⟨lb, lo, rfl, -, hlc⟩ := HR.out.at (i := n) (r := r) hr
   have hlc := hlc.chg HWL.out.chg id
   have hwj := (HX.out n r x hr hx).chg HWL.out.chg (fun _ _ e => e)
   have hwr := HS.out x (List.mem_of_getElem? hx)
   obtain ⟨hrl, hro⟩ := hwj.len
   obtain ⟨tvv, ivv, rfl, ht, hi⟩ := hwj
   have HWS := Hd hwr.sm
   have HWV := Hd hwr.ver
   have HX0 := Hd hx
   have HTV0 := Hd ht
   have HIV0 := Hd hi
   have ht1 := ht.1
   have hi1 := hi.1
   have h20 := hwr.imps
   obtain ⟨-, -, ta, tc, rfl, -, -⟩ := ht
   obtain ⟨-, -, ia, ic, rfl, -, -⟩ := hi
   simp only [kRows, impRows, List.length_map] at ht1 hi1 hlc hrl hro HTV0 HIV0
   unfold maxLen at ht1 hi1
   have h20b : ¬ (20 : Int) < (x.imports.length : Int) := by omega
   have h20c : (x.imports.length : Int) ≤ 20 := by omega
   have h64 : (n : Int) < (rows.length : Int) := by omega
   obtain ⟨gx, hgx⟩ : ∃ g, g = wr.heap.size := ⟨_, rfl⟩
   have HGX := Hd hgx
   clear hr hx hwr hgx
   go_upto_region 5 with (first | (with_reducible refine wpList_loadAgg rfl agg79 rfl rfl hlc hrl ?_) | (with_reducible refine wpList_storeNew rfl agg79 rfl rfl rfl rfl hrl hro ?_))
   obtain ⟨wx, hwx⟩ : ∃ wx, wx = wr.alloc (.cells (cellsW x (.slice ta x.tags.length tc) (.slice ia x.imports.length ic)).toArray 79) := ⟨_, rfl⟩
   have hbx := Blk.newAt HGX.out (cellsW x (.slice ta x.tags.length tc) (.slice ia x.imports.length ic)) 79
   rw [← hwx] at hbx ⊢
   rw [← HGX.out]
   have HCX := Hd (show Chg No wr wx by rw [hwx]; exact (Chg.refl No wr).alloc _)
   have HBX := Hd hbx
   have HTV := Hd (HTV0.out.chg HCX.out (fun _ _ e => e))
   have HIV := Hd (HIV0.out.chg HCX.out (fun _ _ e => e))
   have k1 : wx.cell? ⟨gx, 1, none⟩ = some (.string x.version) := hbx.cell 1
   have k6 : wx.cell? ⟨gx, 6, none⟩ = some (.slice ia x.imports.length ic) := hbx.cell 6
   clear hbx hwx hlc hrl hro HTV0 HIV0
   go_wp2_with fail
   refine (plain_any x.version HWS.out.ver.ok HWV.out wx).mono ?_
   rintro e wt ⟨rfl, hwt⟩
   obtain rfl := hwt.symm
   clear hwt
   go_upto_region 7 with fail
   clear k1 k6
   refine wp_region_inv (FI [.eq (.pointer (some ⟨gx, 0, none⟩)), .eq (.string x.name), .eq (.pointer (some ⟨gx, 1, none⟩)), .eq (.string x.version), .eq (.pointer (some ⟨gx, 2, none⟩)), .eq (.string x.condition), .eq (.pointer (some ⟨gx, 3, none⟩)), .eq (.string x.alias_), .keepN (EmptyS wx.heap.size) EmptyS.keep, .eq (.pointer (some ⟨gx, 4, none⟩)), .eq (.slice ta x.tags.length tc), .own wx.heap.size 9 1 (kRows x.tags), .eq (.pointer (some ⟨gx, 5, none⟩)), .eq (.bool x.enabled), .keepN (DepS wx.heap.size x) DepS.keep, .keepN (DepB wx.heap.size x) DepB.keep, .keepN (DepB wx.heap.size x) DepB.keep])
    (fun done w' => Chg No wx w') (by kernel_rfl) (by kernel_rfl) ((Chg.refl No _).drew) ?_ ?_
   ·refine ⟨?_, ?_, ?_, ?_, ?_, ?_, ?_, ?_, ?_, ?_, ?_, ?_, ?_, ?_, ?_, ?_, ?_, trivial⟩
    ·intro done a w1 K hd qd qe qf qb hG hK
     have e6 : a.tmps[6]?.getD undef = .pointer (some ⟨gx, 0, none⟩) := qf 6 rfl
     clear qd qe qf qb
     go_simp
     exact hK _ _ rfl (hG.trans' (Chg.refl No _)) (fun _ _ _ _ h => h)
    ·intro done a w1 K hd qd qe qf qb hG hK
     have e31 : a.tmps[31]?.getD undef = .pointer (some ⟨gx, 0, none⟩) := qe 0 31 rfl (qb 0 rfl)
     have c0 : w1.cell? ⟨gx, 0, none⟩ = some (.string x.name) := (HBX.out.chg hG id).cell 0
     clear qd qe qf qb
     go_simp
     exact hK _ _ rfl (hG.trans' (Chg.refl No _)) (fun _ _ _ _ h => h)
    ·intro done a w1 K hd qd qe qf qb hG hK
     have e6 : a.tmps[6]?.getD undef = .pointer (some ⟨gx, 0, none⟩) := qf 6 rfl
     clear qd qe qf qb
     go_simp
     exact hK _ _ rfl (hG.trans' (Chg.refl No _)) (fun _ _ _ _ h => h)
    ·intro done a w1 K hd qd qe qf qb hG hK
     have e33 : a.tmps[33]?.getD undef = .pointer (some ⟨gx, 1, none⟩) := qe 2 33 rfl (qb 2 rfl)
     have c0 : w1.cell? ⟨gx, 1, none⟩ = some (.string x.version) := (HBX.out.chg hG id).cell 1
     clear qd qe qf qb
     go_simp
     exact hK _ _ rfl (hG.trans' (Chg.refl No _)) (fun _ _ _ _ h => h)
    ·intro done a w1 K hd qd qe qf qb hG hK
     have e6 : a.tmps[6]?.getD undef = .pointer (some ⟨gx, 0, none⟩) := qf 6 rfl
     clear qd qe qf qb
     go_simp
     exact hK _ _ rfl (hG.trans' (Chg.refl No _)) (fun _ _ _ _ h => h)
    ·intro done a w1 K hd qd qe qf qb hG hK
     have e35 : a.tmps[35]?.getD undef = .pointer (some ⟨gx, 2, none⟩) := qe 4 35 rfl (qb 4 rfl)
     have c0 : w1.cell? ⟨gx, 2, none⟩ = some (.string x.condition) := (HBX.out.chg hG id).cell 2
     clear qd qe qf qb
     go_simp
     exact hK _ _ rfl (hG.trans' (Chg.refl No _)) (fun _ _ _ _ h => h)
    ·intro done a w1 K hd qd qe qf qb hG hK
     have e6 : a.tmps[6]?.getD undef = .pointer (some ⟨gx, 0, none⟩) := qf 6 rfl
     clear qd qe qf qb
     go_simp
     exact hK _ _ rfl (hG.trans' (Chg.refl No _)) (fun _ _ _ _ h => h)
    ·intro done a w1 K hd qd qe qf qb hG hK
     have e37 : a.tmps[37]?.getD undef = .pointer (some ⟨gx, 3, none⟩) := qe 6 37 rfl (qb 6 rfl)
     have c0 : w1.cell? ⟨gx, 3, none⟩ = some (.string x.alias_) := (HBX.out.chg hG id).cell 3
     clear qd qe qf qb
     go_simp
     exact hK _ _ rfl (hG.trans' (Chg.refl No _)) (fun _ _ _ _ h => h)
    ·intro done a w1 K hd qd qe qf qb hG hK
     have hbs := run_build23_0
     have hc : Chg No w1 (w1.alloc (.cells #[] 9)) := (Chg.refl No w1).alloc _
     have HC := Hd hc
     have HE := Hd (EmptyS.new (B := wx.heap.size) hG.size)
     clear hc
     clear qd qe qf qb
     go_simp
     exact hK _ _ HE.out (hG.trans' HC.out) (fun _ _ _ _ h => h.keepNo HC.out)
    ·intro done a w1 K hd qd qe qf qb hG hK
     have e6 : a.tmps[6]?.getD undef = .pointer (some ⟨gx, 0, none⟩) := qf 6 rfl
     clear qd qe qf qb
     go_simp
     exact hK _ _ rfl (hG.trans' (Chg.refl No _)) (fun _ _ _ _ h => h)
    ·intro done a w1 K hd qd qe qf qb hG hK
     have e40 : a.tmps[40]?.getD undef = .pointer (some ⟨gx, 4, none⟩) := qe 9 40 rfl (qb 9 rfl)
     have c0 : w1.cell? ⟨gx, 4, none⟩ = some (.slice ta x.tags.length tc) := (HBX.out.chg hG id).cell 4
     clear qd qe qf qb
     go_simp
     exact hK _ _ rfl (hG.trans' (Chg.refl No _)) (fun _ _ _ _ h => h)
    ·intro done a w1 K hd qd qe qf qb hG hK
     obtain ⟨eb, e39, heb, hblk⟩ : EmptyS wx.heap.size (a.tmps[39]?.getD undef) w1 := qe 8 39 rfl (qb 8 rfl)
     have e41 : a.tmps[41]?.getD undef = .slice ta x.tags.length tc := qe 10 41 rfl (qb 10 rfl)
     refine if_wanted rfl ?_
     refine wp_appendEmpty elem23 rfl (by simpa [Act.eval] using e39) heb hblk (by simpa [Act.eval] using e41) (HTV.out.chg hG (fun _ _ e => e)) (by intro r hr; simp only [kRows, List.mem_map] at hr; obtain ⟨q, -, rfl⟩ := hr; rfl) (by have := HWS.out.tags.1; simp only [kRows, List.length_map]; omega) (by decide) hG.size ?_
     intro v' w2 hown hc
     exact hK _ _ hown (hG.trans' hc) (fun _ _ _ _ h => h.keepNo hc)
    ·intro done a w1 K hd qd qe qf qb hG hK
     have e6 : a.tmps[6]?.getD undef = .pointer (some ⟨gx, 0, none⟩) := qf 6 rfl
     clear qd qe qf qb
     go_simp
     exact hK _ _ rfl (hG.trans' (Chg.refl No _)) (fun _ _ _ _ h => h)
    ·intro done a w1 K hd qd qe qf qb hG hK
     have e43 : a.tmps[43]?.getD undef = .pointer (some ⟨gx, 5, none⟩) := qe 12 43 rfl (qb 12 rfl)
     have c0 : w1.cell? ⟨gx, 5, none⟩ = some (.bool x.enabled) := (HBX.out.chg hG id).cell 5
     clear qd qe qf qb
     go_simp
     exact hK _ _ rfl (hG.trans' (Chg.refl No _)) (fun _ _ _ _ h => h)
    ·intro done a w1 K hd qd qe qf qb hG hK
     have e32 : a.tmps[32]?.getD undef = .string x.name := qe 1 32 rfl (qb 1 rfl)
     have e34 : a.tmps[34]?.getD undef = .string x.version := qe 3 34 rfl (qb 3 rfl)
     have e36 : a.tmps[36]?.getD undef = .string x.condition := qe 5 36 rfl (qb 5 rfl)
     have e38 : a.tmps[38]?.getD undef = .string x.alias_ := qe 7 38 rfl (qb 7 rfl)
     have hown : OwnR w1 wx.heap.size 9 1 (a.tmps[42]?.getD undef) (kRows x.tags) := qe 11 42 rfl (qb 11 rfl)
     have e44 : a.tmps[44]?.getD undef = .bool x.enabled := qe 13 44 rfl (qb 13 rfl)
     obtain ⟨ua, un, uc, e42⟩ := hown.slice
     rw [e42] at hown
     have hbd := build154
     have HOWN := Hd hown
     clear hown
     clear qd qe qf qb
     go_simp
     exact hK _ _ ⟨_, rfl, HOWN.out⟩ (hG.trans' (Chg.refl No _)) (fun _ _ _ _ h => h)
    ·intro done a w1 K hd qd qe qf qb hG hK
     obtain ⟨tv, e45, hown⟩ : DepS wx.heap.size x (a.tmps[45]?.getD undef) w1 := qe 14 45 rfl (qb 14 rfl)
     have hc : Chg No w1 (w1.alloc (.cells (cellsD x ByteArray.empty tv (.slice none 0 0)).toArray 154)) := (Chg.refl No w1).alloc _
     have HC := Hd hc
     have HD := Hd (DepB.new (x := x) hG.size hown)
     have hl8 : (cellsD x ByteArray.empty tv (.slice none 0 0)).length = 8 := rfl
     clear hown hc
     clear qd qe qf qb
     go_simp
     exact hK _ _ HD.out (hG.trans' HC.out) (fun _ _ _ _ h => h.keepNo HC.out)
    ·intro done a w1 K hd qd qe qf qb hG hK
     have hdb : DepB wx.heap.size x (a.tmps[46]?.getD undef) w1 := qe 15 46 rfl (qb 15 rfl)
     obtain ⟨q, tv, e46, hqb⟩ := hdb
     have HQ := Hd hqb
     clear hqb
     clear qd qe qf qb
     go_simp
     exact hK _ _ ⟨q, tv, rfl, HQ.out⟩ (hG.trans' (Chg.refl No _)) (fun _ _ _ _ h => h)
   ·intro vs w2 hvs hvn hG
    obtain ⟨q, tv, e7, hq1, hq2, hq3⟩ : DepB wx.heap.size x (vs 16) w2 := hvs 16 _ rfl (by decide)
    have HQ1 := Hd hq1
    have HQ2 := Hd hq2
    have HQ3 := Hd hq3
    have HCG := Hd hG
    clear hvs hvn hG hq1 hq2 hq3
    simp only [putAll, Act.put, List.setIfInBounds_toArray, List.set_cons_succ, List.set_cons_zero, e7]
    clear e7
    have k6 : w2.cell? ⟨gx, 6, none⟩ = some (.slice ia x.imports.length ic) := (HBX.out.chg HCG.out id).cell 6
    have HIV := Hd (HIV.out.chg HCG.out (fun _ _ e => e))
    have HWI0 := Hd (show WI wx.heap.size x q tv w2 w2 0 (.slice none 0 0) [] from ⟨HQ2.out, OwnR.nil _ _ _ _, rfl, fun j u i h => by simp at h, Chg.refl _ _, fun k hk => by cases hk⟩)
    go_wp2_with fail
    clear k6
    go_loopw [50] (fun ct wr => ∃ (m : Nat) (iv : Value) (ivs : List Value), ct = .int .i64 m /\ m ≤ x.imports.length /\ WI wx.heap.size x q tv w2 wr m iv ivs) (fun ct _ => x.imports.length - (intOf ct).toNat)
    case atStart => exact ⟨0, _, _, rfl, Nat.zero_le _, HWI0.out⟩
    case round =>
     obtain ⟨m, iv, ivs, rfl, hml, hwi⟩ := hrel
     have HWIr := Hd hwi
     clear hwi HWI0
     by_cases hlm : m < x.imports.length
     ·obtain ⟨im, him⟩ : ∃ im, x.imports[m]? = some im := ⟨_, List.getElem?_eq_getElem hlm⟩
      obtain ⟨ib, io, rfl, hiok, hic⟩ := HIV.out.at (i := m) (r := cellsI im) (by simp [him])
      have hic := hic.chg HWIr.out.chg (fun e => by
       have e1 : ib = q := e
       have := hiok.2
       have := HQ1.out
       have := HWL.out.chg.size
       have := HCX.out.size
       omega)
      have hio : (cellsI im).all (·.oneCell') = true := rfl
      have HIM := Hd him
      have h66 : (m : Int) < (x.imports.length : Int) := by omega
      have HQL0 := Hd HWIr.out.blk.lt
      obtain ⟨g9, hg9⟩ : ∃ g, g = wr.heap.size := ⟨_, rfl⟩
      have HG9 := Hd hg9
      have h93 : (wr.alloc (.cells (cellsI im).toArray 110)).cell? ⟨g9, 3, none⟩ = some (.bool im.isMap) := (Blk.newAt hg9 (cellsI im) 110).cell 3
      clear him hiok hg9
      go_upto_if 55 with (first | (with_reducible refine wpList_loadAgg rfl agg110 rfl rfl hic rfl ?_) | (with_reducible refine wpList_storeNew rfl agg110 rfl rfl rfl rfl rfl hio ?_))
      obtain ⟨wy, hwy⟩ : ∃ wy, wy = wr.alloc (.cells (cellsI im).toArray 110) := ⟨_, rfl⟩
      have hb9 := Blk.newAt HG9.out (cellsI im) 110
      rw [← hwy] at hb9 ⊢
      rw [← HG9.out]
      have HB9 := Hd hb9
      have HWI := Hd (HWIr.out.keep (show Chg No wr wy by rw [hwy]; exact (Chg.refl No wr).alloc _))
      have HIVL := Hd (show ∀ k, iv.ownBlock = some k -> k < wy.heap.size from fun k hk => (HWI.out.own.elem hk).2.1)
      have HQL := Hd HWI.out.blk.lt
      have HN9 := Hd (show ¬ (g9 = q ∨ iv.ownBlock = some g9) from fun e => by
       rcases e with e | e
       ·have := HQL0.out; have := HG9.out; omega
       ·have := (HWIr.out.own.elem e).2.1; have := HG9.out; omega)
      have HLEN := Hd (show ivs.length + 1 ≤ 1000000 by rw [HWI.out.len]; omega)
      have HWXY := Hd (show wx.heap.size ≤ wy.heap.size by have := HCG.out.size; have := HWI.out.chg.size; omega)
      clear hb9 hwy hic hio h93
      cases hism : im.isMap with
      | false =>
       have HISM := Hd hism
       clear hism
       go_upto_region 13 with fail
       refine wp_region_inv (FI [.eq (ptr q), .eq (ptr q), .eq (ptr q), .eq (.pointer (some ⟨q, 6, none⟩)), .eq iv, .eq (.pointer (some ⟨g9, 0, none⟩)), .eq (.string im.plain), .eq (.iface 9 (.string im.plain)), .temp wy.heap.size [.iface 9 (.string im.plain)] 20, .ownN wx.heap.size 20 iv (ivs.map fun u => [u]) [.iface 9 (.string im.plain)] wy, .eq (ptr q), .eq (.pointer (some ⟨q, 6, none⟩)), .any])
        (fun done w' => AG q (fun l => cellsD x ByteArray.empty tv l) 154 wx.heap.size 20 iv (ivs.map fun u => [u]) [.iface 9 (.string im.plain)] wy w' (done 9) (done 12)) (by kernel_rfl) (by kernel_rfl) (AG.start HWI.out.own HWI.out.blk) ?_ ?_
       ·refine ⟨?_, ?_, ?_, ?_, ?_, ?_, ?_, ?_, ?_, ?_, ?_, ?_, ?_, trivial⟩
        ·intro done a w1 K hd qd qe qf qb hG hK
         have e7 : a.tmps[7]?.getD undef = ptr q := qf 7 rfl
         clear qd qe qf qb
         go_simp
         exact hK _ _ rfl (by simpa [dn] using hG) (fun _ _ _ _ h => h)
        ·intro done a w1 K hd qd qe qf qb hG hK
         have e7 : a.tmps[7]?.getD undef = ptr q := qf 7 rfl
         clear qd qe qf qb
         go_simp
         exact hK _ _ rfl (by simpa [dn] using hG) (fun _ _ _ _ h => h)
        ·intro done a w1 K hd qd qe qf qb hG hK
         have e75 : a.tmps[75]?.getD undef = ptr q := qe 1 75 rfl (qb 1 rfl)
         clear qd qe qf qb
         go_simp
         exact hK _ _ rfl (by simpa [dn] using hG) (fun _ _ _ _ h => h)
        ·intro done a w1 K hd qd qe qf qb hG hK
         have e76 : a.tmps[76]?.getD undef = ptr q := qe 2 76 rfl (qb 2 rfl)
         clear qd qe qf qb
         go_simp
         exact hK _ _ rfl (by simpa [dn] using hG) (fun _ _ _ _ h => h)
        ·intro done a w1 K hd qd qe qf qb hG hK
         have e77 : a.tmps[77]?.getD undef = .pointer (some ⟨q, 6, none⟩) := qe 3 77 rfl (qb 3 rfl)
         have n12 : done 12 = false := by
          cases hh0 : done 12 with
          | false => rfl
          | true =>
           have hh1 := qd 12 9 rfl hh0
           have hh2 := qd 9 4 rfl hh1
           rw [hd] at hh2; cases hh2
         have hG0 := hG
         rw [n12] at hG0
         obtain ⟨l', hb, h1, -⟩ := hG0.box
         obtain rfl := h1 rfl
         obtain ⟨ia, inn, ic, hiv⟩ := HWI.out.own.slice
         have c0 : w1.cell? ⟨q, 6, none⟩ = some (.slice ia inn ic) := by rw [← hiv]; exact hb.cell 6
         have HIV := Hd hiv
         clear hiv hG0 hb h1 n12
         clear qd qe qf qb
         go_simp
         exact hK _ _ HIV.out.symm (by simpa [dn] using hG) (fun _ _ _ _ h => h)
        ·intro done a w1 K hd qd qe qf qb hG hK
         have e9 : a.tmps[9]?.getD undef = .pointer (some ⟨g9, 0, none⟩) := qf 9 rfl
         clear qd qe qf qb
         go_simp
         exact hK _ _ rfl (by simpa [dn] using hG) (fun _ _ _ _ h => h)
        ·intro done a w1 K hd qd qe qf qb hG hK
         have e79 : a.tmps[79]?.getD undef = .pointer (some ⟨g9, 0, none⟩) := qe 5 79 rfl (qb 5 rfl)
         have c0 : w1.cell? ⟨g9, 0, none⟩ = some (.string im.plain) := (HB9.out.chg hG.chg HN9.out).cell 0
         clear qd qe qf qb
         go_simp
         exact hK _ _ rfl (by simpa [dn] using hG) (fun _ _ _ _ h => h)
        ·intro done a w1 K hd qd qe qf qb hG hK
         have e80 : a.tmps[80]?.getD undef = .string im.plain := qe 6 80 rfl (qb 6 rfl)
         clear qd qe qf qb
         go_simp
         exact hK _ _ rfl (by simpa [dn] using hG) (fun _ _ _ _ h => h)
        ·intro done a w1 K hd qd qe qf qb hG hK
         have e81 : a.tmps[81]?.getD undef = .iface 9 (.string im.plain) := qe 7 81 rfl (qb 7 rfl)
         have hbs := run_build151_1 (.iface 9 (.string im.plain)) rfl
         have hc : Chg No w1 (w1.alloc (.cells #[.iface 9 (.string im.plain)] 20)) := (Chg.refl No w1).alloc _
         have HC := Hd hc
         have HT := Hd (show ∃ t, (Value.slice (some ⟨w1.heap.size, 0, none⟩) 1 1) = .slice (some ⟨t, 0, none⟩) 1 1 /\ wy.heap.size ≤ t /\ Blk (w1.alloc (.cells #[.iface 9 (.string im.plain)] 20)) t [.iface 9 (.string im.plain)] 20 from ⟨_, rfl, hG.chg.size, Blk.new _ _ _⟩)
         have HGN := Hd (hG.chgNo hc)
         clear hc
         clear qd qe qf qb
         go_simp
         exact hK _ _ HT.out (by simpa [dn] using HGN.out) (fun _ _ _ _ h => h.keepNo HC.out)
        ·intro done a w1 K hd qd qe qf qb hG hK
         have e78 : a.tmps[78]?.getD undef = iv := qe 4 78 rfl (qb 4 rfl)
         obtain ⟨t, e82, htl, htb⟩ := qe 8 82 rfl (qb 8 rfl)
         have n12 : done 12 = false := by
          cases hh0 : done 12 with
          | false => rfl
          | true => have := qd 12 9 rfl hh0; rw [hd] at this; cases this
         rw [hd, n12] at hG
         refine if_wanted rfl ?_
         refine wp_appendRows elem151 rfl (by simpa [Act.eval] using e78) (hG.own rfl) (by simpa [Act.eval] using e82) (htb.row1 rfl) (by intro r hr; obtain rfl := List.mem_singleton.1 hr; rfl) (by have := HLEN.out; simp only [List.length_map, List.length_cons, List.length_nil]; omega) (by decide) (by have := hG.chg.size; have := HWXY.out; omega) ?_
         intro v' w2 hown hc hv' hold
         refine hK _ _ ⟨hown, hv'.imp id (fun h k hk => Nat.le_trans hG.chg.size (h k hk))⟩ (by simpa [dn, n12] using hG.app (by decide) hc) ?_
         refine fun j hj _ u hu => hu.keep hc (safe_of (i := 9) (fun j hl hj => ?_) j hj)
         match j, hj with
         | 0, _ => exact trivial
         | 1, _ => exact trivial
         | 2, _ => exact trivial
         | 3, _ => exact trivial
         | 4, _ => exact trivial
         | 5, _ => exact trivial
         | 6, _ => exact trivial
         | 7, _ => exact trivial
         | 8, _ => exact fun k hk => HIVL.out k hk
         | 9, hj => exact absurd rfl hj
         | 10, _ => exact trivial
         | 11, _ => exact trivial
         | 12, _ => exact trivial
         | j + 13, _ => exact absurd hl (by simp)
        ·intro done a w1 K hd qd qe qf qb hG hK
         have e74 : a.tmps[74]?.getD undef = ptr q := qe 0 74 rfl (qb 0 rfl)
         clear qd qe qf qb
         go_simp
         exact hK _ _ rfl (by simpa [dn] using hG) (fun _ _ _ _ h => h)
        ·intro done a w1 K hd qd qe qf qb hG hK
         have e84 : a.tmps[84]?.getD undef = ptr q := qe 10 84 rfl (qb 10 rfl)
         clear qd qe qf qb
         go_simp
         exact hK _ _ rfl (by simpa [dn] using hG) (fun _ _ _ _ h => h)
        ·intro done a w1 K hd qd qe qf qb hG hK
         have e85 : a.tmps[85]?.getD undef = .pointer (some ⟨q, 6, none⟩) := qe 11 85 rfl (qb 11 rfl)
         obtain ⟨hown, hnew⟩ := qe 9 83 rfl (qb 9 rfl)
         have h9 : done 9 = true := qb 9 rfl
         rw [hd, h9] at hG
         obtain ⟨l', hb, h1, -⟩ := hG.box
         obtain rfl := h1 rfl
         have HNQ : ∀ {w : World} {cs : List Value}, Blk w q cs 154 -> ¬ ∃ cur, w.heap[q]? = some (.cells cur 20 (0, 0)) := by rintro w cs hb ⟨cur, hcur⟩; have h2 : w.heap[q]? = _ := hb; rw [h2] at hcur; cases hcur
         refine if_wanted rfl ?_
         refine wp_setSlice rfl (by simpa [Act.eval] using e85) hown.slice Tryz.sizeOf151 hb (show 6 < 8 by decide) (by simp [Act.eval]) ?_
         intro w2 hb2 hc2 hs2
         refine hK undef _ trivial (by simpa [dn, h9] using hG.store (by decide) hb2 hc2 hown hnew) ?_
         refine fun j hj _ u hu => hu.keep hc2 (safe_of (i := 12) (fun j hl hj => ?_) j hj)
         match j, hj with
         | 0, _ => exact trivial
         | 1, _ => exact trivial
         | 2, _ => exact trivial
         | 3, _ => exact trivial
         | 4, _ => exact trivial
         | 5, _ => exact trivial
         | 6, _ => exact trivial
         | 7, _ => exact trivial
         | 8, _ => exact fun k hk => by have e1 : k = q := hk; have := HQL.out; omega
         | 9, _ => exact fun k hk _ => by have e1 : k = q := hk; subst e1; exact HNQ hb
         | 10, _ => exact trivial
         | 11, _ => exact trivial
         | 12, hj => exact absurd rfl hj
         | j + 13, _ => exact absurd hl (by simp)
       ·intro vs w2 hvs hvn hG
        obtain ⟨l', hb, -, h2⟩ := hG.box
        obtain ⟨hown, hnew⟩ := h2 rfl
        have HWI2 := Hd (HWI.out.step HIM.out hb hown hnew hG.chg (.inl ⟨HISM.out, rfl⟩) HIVL.out)
        clear hvs hvn hG hb h2 hown hnew
        simp only [putAll, Act.put, List.setIfInBounds_toArray, List.set_cons_succ, List.set_cons_zero]
        go_wp2_with fail
        go_roundw
        case rel => first | exact ⟨m + 1, _, _, by go_num, by omega, HWI2.out⟩ | ((repeat apply Exists.intro); exact ⟨⟨m + 1, _, _, by go_num, by omega, HWI2.out⟩, rfl⟩)
        case measure => simp [intOf]; omega
      | true =>
       have HISM := Hd hism
       clear hism
       go_upto_region 12 with fail
       refine wp_region_ghost (fun γ => FI [.eq (ptr q), .eq (ptr q), .eq (ptr q), .eq (.pointer (some ⟨q, 6, none⟩)), .eq iv, .mapG γ, .eq (.pointer (some ⟨g9, 1, none⟩)), .eq (.string im.child), .eq (.iface 9 (.string im.child)), .any, .eq (.pointer (some ⟨g9, 2, none⟩)), .eq (.string im.parent), .eq (.iface 9 (.string im.parent)), .any, .mapG γ, .ifM γ, .temp wy.heap.size [.iface 67 (.map γ)] 20, .ownN wx.heap.size 20 iv (ivs.map fun u => [u]) [.iface 67 (.map γ)] wy, .eq (ptr q), .eq (.pointer (some ⟨q, 6, none⟩)), .any])
        (fun γ done w' => AG q (fun l => cellsD x ByteArray.empty tv l) 154 wx.heap.size 20 iv (ivs.map fun u => [u]) [.iface 67 (.map γ)] wy w' (done 17) (done 20) /\ MG wy im γ done w') (by kernel_rfl) (by kernel_rfl) none ⟨AG.start HWI.out.own HWI.out.blk, MG.start wy im⟩ ?_ ?_
       ·refine ⟨?_, ?_, ?_, ?_, ?_, ?_, ?_, ?_, ?_, ?_, ?_, ?_, ?_, ?_, ?_, ?_, ?_, ?_, ?_, ?_, ?_, trivial⟩
        ·intro γ done a w1 K hd qd qe qf qb hG hK
         have e7 : a.tmps[7]?.getD undef = ptr q := qf 7 rfl
         clear qd qe qf qb
         go_simp
         exact hK γ _ _ rfl ⟨by simpa [dn] using hG.1, hG.2.other (by decide) (by decide) (by decide) (Chg.refl No _)⟩ (fun _ _ _ _ h => h)
        ·intro γ done a w1 K hd qd qe qf qb hG hK
         have e7 : a.tmps[7]?.getD undef = ptr q := qf 7 rfl
         clear qd qe qf qb
         go_simp
         exact hK γ _ _ rfl ⟨by simpa [dn] using hG.1, hG.2.other (by decide) (by decide) (by decide) (Chg.refl No _)⟩ (fun _ _ _ _ h => h)
        ·intro γ done a w1 K hd qd qe qf qb hG hK
         have e57 : a.tmps[57]?.getD undef = ptr q := qe 1 57 rfl (qb 1 rfl)
         clear qd qe qf qb
         go_simp
         exact hK γ _ _ rfl ⟨by simpa [dn] using hG.1, hG.2.other (by decide) (by decide) (by decide) (Chg.refl No _)⟩ (fun _ _ _ _ h => h)
        ·intro γ done a w1 K hd qd qe qf qb hG hK
         have e58 : a.tmps[58]?.getD undef = ptr q := qe 2 58 rfl (qb 2 rfl)
         clear qd qe qf qb
         go_simp
         exact hK γ _ _ rfl ⟨by simpa [dn] using hG.1, hG.2.other (by decide) (by decide) (by decide) (Chg.refl No _)⟩ (fun _ _ _ _ h => h)
        ·intro γ done a w1 K hd qd qe qf qb hG hK
         have e59 : a.tmps[59]?.getD undef = .pointer (some ⟨q, 6, none⟩) := qe 3 59 rfl (qb 3 rfl)
         have n20 : done 20 = false := by
          cases hh0 : done 20 with
          | false => rfl
          | true =>
           have hh1 := qd 20 17 rfl hh0
           have hh2 := qd 17 4 rfl hh1
           rw [hd] at hh2; cases hh2
         have hG0 := hG.1
         rw [n20] at hG0
         obtain ⟨l', hb, h1, -⟩ := hG0.box
         obtain rfl := h1 rfl
         obtain ⟨ia, inn, ic, hiv⟩ := HWI.out.own.slice
         have c0 : w1.cell? ⟨q, 6, none⟩ = some (.slice ia inn ic) := by rw [← hiv]; exact hb.cell 6
         have HIV := Hd hiv
         clear hiv hG0 hb h1 n20
         clear qd qe qf qb
         go_simp
         exact hK γ _ _ HIV.out.symm ⟨by simpa [dn] using hG.1, hG.2.other (by decide) (by decide) (by decide) (Chg.refl No _)⟩ (fun _ _ _ _ h => h)
        ·intro γ done a w1 K hd qd qe qf qb hG hK
         have n5 := hd
         have n17 : done 17 = false := by
          cases hh0 : done 17 with
          | false => rfl
          | true =>
           have hh1 := qd 17 16 rfl hh0
           have hh2 := qd 16 15 rfl hh1
           have hh3 := qd 15 14 rfl hh2
           have hh4 := qd 14 5 rfl hh3
           rw [hd] at hh4; cases hh4
         have n20 : done 20 = false := by
          cases hh0 : done 20 with
          | false => rfl
          | true =>
           have hh1 := qd 20 17 rfl hh0
           have hh2 := qd 17 16 rfl hh1
           have hh3 := qd 16 15 rfl hh2
           have hh4 := qd 15 14 rfl hh3
           have hh5 := qd 14 5 rfl hh4
           rw [hd] at hh5; cases hh5
         have hnone := hG.2.noMap hd
         subst hnone
         have hmk := run_makeMap67n
         have n9 : done 9 = false := by
          cases hh0 : done 9 with
          | false => rfl
          | true => have := qd 9 5 rfl hh0; rw [hd] at this; cases this
         have n13 : done 13 = false := by
          cases hh0 : done 13 with
          | false => rfl
          | true => have := qd 13 5 rfl hh0; rw [hd] at this; cases this
         have hAG := hG.1
         rw [n17, n20] at hAG
         have HLAY := Hd (hG.2.lay hAG.chg.size n9 n13)
         have HAG := Hd (show AG q (fun l => cellsD x ByteArray.empty tv l) 154 wx.heap.size 20 iv (ivs.map fun u => [u]) [.iface 67 (.map (some w1.heap.size))] wy (w1.alloc (.map #[] 0)) (dn done 5 17) (dn done 5 20) by simpa [dn, n17, n20] using (hAG.rerow (row' := [.iface 67 (.map (some w1.heap.size))])).chgNo ((Chg.refl No w1).alloc _))
         have HCL := Hd qd
         clear qe qf qb hAG n17 n20 n9 n13 qd
         go_simp
         have qd := HCL.out
         refine hK (some w1.heap.size) _ _ ⟨_, rfl, rfl⟩ ⟨HAG.out, HLAY.out⟩ ?_
         refine fun j hj hdj u hu => ?_
         match j, hj with
         | 0, _ => exact hu.keepNo ((Chg.refl No w1).alloc _)
         | 1, _ => exact hu.keepNo ((Chg.refl No w1).alloc _)
         | 2, _ => exact hu.keepNo ((Chg.refl No w1).alloc _)
         | 3, _ => exact hu.keepNo ((Chg.refl No w1).alloc _)
         | 4, _ => exact hu.keepNo ((Chg.refl No w1).alloc _)
         | 5, hj => exact absurd rfl hj
         | 6, _ => exact hu.keepNo ((Chg.refl No w1).alloc _)
         | 7, _ => exact hu.keepNo ((Chg.refl No w1).alloc _)
         | 8, _ => exact hu.keepNo ((Chg.refl No w1).alloc _)
         | 9, _ => exact hu.keepNo ((Chg.refl No w1).alloc _)
         | 10, _ => exact hu.keepNo ((Chg.refl No w1).alloc _)
         | 11, _ => exact hu.keepNo ((Chg.refl No w1).alloc _)
         | 12, _ => exact hu.keepNo ((Chg.refl No w1).alloc _)
         | 13, _ => exact hu.keepNo ((Chg.refl No w1).alloc _)
         | 14, _ => exact absurd (qd 14 5 rfl (hdj)) (by rw [n5]; decide)
         | 15, _ => exact absurd (qd 14 5 rfl (qd 15 14 rfl (hdj))) (by rw [n5]; decide)
         | 16, _ => exact absurd (qd 14 5 rfl (qd 15 14 rfl (qd 16 15 rfl (hdj)))) (by rw [n5]; decide)
         | 17, _ => exact absurd (qd 14 5 rfl (qd 15 14 rfl (qd 16 15 rfl (qd 17 16 rfl (hdj))))) (by rw [n5]; decide)
         | 18, _ => exact hu.keepNo ((Chg.refl No w1).alloc _)
         | 19, _ => exact hu.keepNo ((Chg.refl No w1).alloc _)
         | 20, _ => exact hu.keepNo ((Chg.refl No w1).alloc _)
         | j + 21, _ => exact hu.keepNo ((Chg.refl No w1).alloc _)
        ·intro γ done a w1 K hd qd qe qf qb hG hK
         have e9 : a.tmps[9]?.getD undef = .pointer (some ⟨g9, 0, none⟩) := qf 9 rfl
         clear qd qe qf qb
         go_simp
         exact hK γ _ _ rfl ⟨by simpa [dn] using hG.1, hG.2.other (by decide) (by decide) (by decide) (Chg.refl No _)⟩ (fun _ _ _ _ h => h)
        ·intro γ done a w1 K hd qd qe qf qb hG hK
         have e62 : a.tmps[62]?.getD undef = .pointer (some ⟨g9, 1, none⟩) := qe 6 62 rfl (qb 6 rfl)
         have c0 : w1.cell? ⟨g9, 1, none⟩ = some (.string im.child) := (HB9.out.chg hG.1.chg HN9.out).cell 1
         clear qd qe qf qb
         go_simp
         exact hK γ _ _ rfl ⟨by simpa [dn] using hG.1, hG.2.other (by decide) (by decide) (by decide) (Chg.refl No _)⟩ (fun _ _ _ _ h => h)
        ·intro γ done a w1 K hd qd qe qf qb hG hK
         have e63 : a.tmps[63]?.getD undef = .string im.child := qe 7 63 rfl (qb 7 rfl)
         clear qd qe qf qb
         go_simp
         exact hK γ _ _ rfl ⟨by simpa [dn] using hG.1, hG.2.other (by decide) (by decide) (by decide) (Chg.refl No _)⟩ (fun _ _ _ _ h => h)
        ·intro γ done a w1 K hd qd qe qf qb hG hK
         have ni := hd
         obtain ⟨b, hγ, e61⟩ := qe 5 61 rfl (qb 5 rfl)
         have e64 : a.tmps[64]?.getD undef = .iface 9 (.string im.child) := qe 8 64 rfl (qb 8 rfl)
         have n17 : done 17 = false := by
          cases hh0 : done 17 with
          | false => rfl
          | true =>
           have hh1 := qd 17 16 rfl hh0
           have hh2 := qd 16 15 rfl hh1
           have hh3 := qd 15 14 rfl hh2
           have hh4 := qd 14 9 rfl hh3
           rw [hd] at hh4; cases hh4
         have n20 : done 20 = false := by
          cases hh0 : done 20 with
          | false => rfl
          | true =>
           have hh1 := qd 20 17 rfl hh0
           have hh2 := qd 17 16 rfl hh1
           have hh3 := qd 16 15 rfl hh2
           have hh4 := qd 15 14 rfl hh3
           have hh5 := qd 14 9 rfl hh4
           rw [hd] at hh5; cases hh5
         subst hγ
         obtain ⟨hbl, hmb⟩ := hG.2.map b rfl
         have hAG := hG.1
         rw [n17, n20] at hAG
         refine if_wanted rfl ?_
         refine wp_insertB rfl (by simpa [Act.eval] using e61) hmb (mapN_lt _ _) (k := childK) rfl (by unfold childK maxLen; decide) (by simpa [Act.eval] using e64) ?_
         intro w2 hmb2 hc2 hs2
         refine hK (some b) undef _ trivial ⟨by simpa [dn, n17, n20] using hAG.chgNew hc2 hbl (by have := HQL.out; omega) (MapB.noRow hmb), hG.2.put9 hd hbl hmb2 hc2⟩ ?_
         refine fun j hj hdj u hu => ?_
         match j, hj with
         | 0, _ => exact hu.keep hc2 trivial
         | 1, _ => exact hu.keep hc2 trivial
         | 2, _ => exact hu.keep hc2 trivial
         | 3, _ => exact hu.keep hc2 trivial
         | 4, _ => exact hu.keep hc2 trivial
         | 5, _ => exact hu.keep hc2 trivial
         | 6, _ => exact hu.keep hc2 trivial
         | 7, _ => exact hu.keep hc2 trivial
         | 8, _ => exact hu.keep hc2 trivial
         | 9, hj => exact absurd rfl hj
         | 10, _ => exact hu.keep hc2 trivial
         | 11, _ => exact hu.keep hc2 trivial
         | 12, _ => exact hu.keep hc2 trivial
         | 13, _ => exact hu.keep hc2 trivial
         | 14, _ => exact hu.keep hc2 trivial
         | 15, _ => exact hu.keep hc2 trivial
         | 16, _ => exact absurd (qd 14 9 rfl (qd 15 14 rfl (qd 16 15 rfl (hdj)))) (by rw [ni]; decide)
         | 17, _ => exact absurd (qd 14 9 rfl (qd 15 14 rfl (qd 16 15 rfl (qd 17 16 rfl (hdj))))) (by rw [ni]; decide)
         | 18, _ => exact hu.keep hc2 trivial
         | 19, _ => exact hu.keep hc2 trivial
         | 20, _ => exact hu.keep hc2 trivial
         | j + 21, _ => exact hu.keep hc2 trivial
        ·intro γ done a w1 K hd qd qe qf qb hG hK
         have e9 : a.tmps[9]?.getD undef = .pointer (some ⟨g9, 0, none⟩) := qf 9 rfl
         clear qd qe qf qb
         go_simp
         exact hK γ _ _ rfl ⟨by simpa [dn] using hG.1, hG.2.other (by decide) (by decide) (by decide) (Chg.refl No _)⟩ (fun _ _ _ _ h => h)
        ·intro γ done a w1 K hd qd qe qf qb hG hK
         have e65 : a.tmps[65]?.getD undef = .pointer (some ⟨g9, 2, none⟩) := qe 10 65 rfl (qb 10 rfl)
         have c0 : w1.cell? ⟨g9, 2, none⟩ = some (.string im.parent) := (HB9.out.chg hG.1.chg HN9.out).cell 2
         clear qd qe qf qb
         go_simp
         exact hK γ _ _ rfl ⟨by simpa [dn] using hG.1, hG.2.other (by decide) (by decide) (by decide) (Chg.refl No _)⟩ (fun _ _ _ _ h => h)
        ·intro γ done a w1 K hd qd qe qf qb hG hK
         have e66 : a.tmps[66]?.getD undef = .string im.parent := qe 11 66 rfl (qb 11 rfl)
         clear qd qe qf qb
         go_simp
         exact hK γ _ _ rfl ⟨by simpa [dn] using hG.1, hG.2.other (by decide) (by decide) (by decide) (Chg.refl No _)⟩ (fun _ _ _ _ h => h)
        ·intro γ done a w1 K hd qd qe qf qb hG hK
         have ni := hd
         obtain ⟨b, hγ, e61⟩ := qe 5 61 rfl (qb 5 rfl)
         have e67 : a.tmps[67]?.getD undef = .iface 9 (.string im.parent) := qe 12 67 rfl (qb 12 rfl)
         have n17 : done 17 = false := by
          cases hh0 : done 17 with
          | false => rfl
          | true =>
           have hh1 := qd 17 16 rfl hh0
           have hh2 := qd 16 15 rfl hh1
           have hh3 := qd 15 14 rfl hh2
           have hh4 := qd 14 13 rfl hh3
           rw [hd] at hh4; cases hh4
         have n20 : done 20 = false := by
          cases hh0 : done 20 with
          | false => rfl
          | true =>
           have hh1 := qd 20 17 rfl hh0
           have hh2 := qd 17 16 rfl hh1
           have hh3 := qd 16 15 rfl hh2
           have hh4 := qd 15 14 rfl hh3
           have hh5 := qd 14 13 rfl hh4
           rw [hd] at hh5; cases hh5
         subst hγ
         obtain ⟨hbl, hmb⟩ := hG.2.map b rfl
         have hAG := hG.1
         rw [n17, n20] at hAG
         refine if_wanted rfl ?_
         refine wp_insertB rfl (by simpa [Act.eval] using e61) hmb (mapN_lt _ _) (k := parentK) rfl (by unfold parentK maxLen; decide) (by simpa [Act.eval] using e67) ?_
         intro w2 hmb2 hc2 hs2
         refine hK (some b) undef _ trivial ⟨by simpa [dn, n17, n20] using hAG.chgNew hc2 hbl (by have := HQL.out; omega) (MapB.noRow hmb), hG.2.put13 hd hbl hmb2 hc2⟩ ?_
         refine fun j hj hdj u hu => ?_
         match j, hj with
         | 0, _ => exact hu.keep hc2 trivial
         | 1, _ => exact hu.keep hc2 trivial
         | 2, _ => exact hu.keep hc2 trivial
         | 3, _ => exact hu.keep hc2 trivial
         | 4, _ => exact hu.keep hc2 trivial
         | 5, _ => exact hu.keep hc2 trivial
         | 6, _ => exact hu.keep hc2 trivial
         | 7, _ => exact hu.keep hc2 trivial
         | 8, _ => exact hu.keep hc2 trivial
         | 9, _ => exact hu.keep hc2 trivial
         | 10, _ => exact hu.keep hc2 trivial
         | 11, _ => exact hu.keep hc2 trivial
         | 12, _ => exact hu.keep hc2 trivial
         | 13, hj => exact absurd rfl hj
         | 14, _ => exact hu.keep hc2 trivial
         | 15, _ => exact hu.keep hc2 trivial
         | 16, _ => exact absurd (qd 14 13 rfl (qd 15 14 rfl (qd 16 15 rfl (hdj)))) (by rw [ni]; decide)
         | 17, _ => exact absurd (qd 14 13 rfl (qd 15 14 rfl (qd 16 15 rfl (qd 17 16 rfl (hdj))))) (by rw [ni]; decide)
         | 18, _ => exact hu.keep hc2 trivial
         | 19, _ => exact hu.keep hc2 trivial
         | 20, _ => exact hu.keep hc2 trivial
         | j + 21, _ => exact hu.keep hc2 trivial
        ·intro γ done a w1 K hd qd qe qf qb hG hK
         obtain ⟨b, hγ, e61⟩ := qe 5 61 rfl (qb 5 rfl)
         clear qd qe qf qb
         go_simp
         exact hK γ _ _ ⟨b, hγ, rfl⟩ ⟨by simpa [dn] using hG.1, hG.2.other (by decide) (by decide) (by decide) (Chg.refl No _)⟩ (fun _ _ _ _ h => h)
        ·intro γ done a w1 K hd qd qe qf qb hG hK
         obtain ⟨b, hγ, e68⟩ := qe 14 68 rfl (qb 14 rfl)
         clear qd qe qf qb
         go_simp
         exact hK γ _ _ ⟨b, hγ, rfl⟩ ⟨by simpa [dn] using hG.1, hG.2.other (by decide) (by decide) (by decide) (Chg.refl No _)⟩ (fun _ _ _ _ h => h)
        ·intro γ done a w1 K hd qd qe qf qb hG hK
         obtain ⟨b, hγ, e69⟩ := qe 15 69 rfl (qb 15 rfl)
         subst hγ
         have hbs := run_build151_1 (.iface 67 (.map (some b))) rfl
         have hc : Chg No w1 (w1.alloc (.cells #[.iface 67 (.map (some b))] 20)) := (Chg.refl No w1).alloc _
         have HC := Hd hc
         have HT := Hd (show ∃ t, (Value.slice (some ⟨w1.heap.size, 0, none⟩) 1 1) = .slice (some ⟨t, 0, none⟩) 1 1 /\ wy.heap.size ≤ t /\ Blk (w1.alloc (.cells #[.iface 67 (.map (some b))] 20)) t [.iface 67 (.map (some b))] 20 from ⟨_, rfl, hG.1.chg.size, Blk.new _ _ _⟩)
         have HGN := Hd (hG.1.chgNo hc)
         have HMN := Hd hG.2
         clear hc
         clear qd qe qf qb
         go_simp
         exact hK (some b) _ _ HT.out ⟨by simpa [dn] using HGN.out, HMN.out.other (by decide) (by decide) (by decide) HC.out⟩ (fun _ _ _ _ h => h.keepNo HC.out)
        ·intro γ done a w1 K hd qd qe qf qb hG hK
         have e60 : a.tmps[60]?.getD undef = iv := qe 4 60 rfl (qb 4 rfl)
         obtain ⟨t, e70, htl, htb⟩ := qe 16 70 rfl (qb 16 rfl)
         have n20 : done 20 = false := by
          cases hh0 : done 20 with
          | false => rfl
          | true => have := qd 20 17 rfl hh0; rw [hd] at this; cases this
         have hAG := hG.1
         rw [hd, n20] at hAG
         refine if_wanted rfl ?_
         refine wp_appendRows elem151 rfl (by simpa [Act.eval] using e60) (hAG.own rfl) (by simpa [Act.eval] using e70) (htb.row1 rfl) (by intro r hr; obtain rfl := List.mem_singleton.1 hr; rfl) (by have := HLEN.out; simp only [List.length_map, List.length_cons, List.length_nil]; omega) (by decide) (by have := hAG.chg.size; have := HWXY.out; omega) ?_
         intro v' w2 hown hc hv' hold
         refine hK γ _ _ ⟨hown, hv'.imp id (fun h k hk => Nat.le_trans hAG.chg.size (h k hk))⟩ ⟨by simpa [dn, n20] using hAG.app (by decide) hc, hG.2.chg (by decide) (by decide) (by decide) hc (fun b n f hm e => hm.noRow (hAG.own rfl |>.elem e).2.2)⟩ ?_
         refine fun j hj _ u hu => hu.keep hc (safe_of (i := 17) (fun j hl hj => ?_) j hj)
         match j, hj with
         | 0, _ => exact trivial
         | 1, _ => exact trivial
         | 2, _ => exact trivial
         | 3, _ => exact trivial
         | 4, _ => exact trivial
         | 5, _ => exact trivial
         | 6, _ => exact trivial
         | 7, _ => exact trivial
         | 8, _ => exact trivial
         | 9, _ => exact trivial
         | 10, _ => exact trivial
         | 11, _ => exact trivial
         | 12, _ => exact trivial
         | 13, _ => exact trivial
         | 14, _ => exact trivial
         | 15, _ => exact trivial
         | 16, _ => exact fun k hk => HIVL.out k hk
         | 17, hj => exact absurd rfl hj
         | 18, _ => exact trivial
         | 19, _ => exact trivial
         | 20, _ => exact trivial
         | j + 21, _ => exact absurd hl (by simp)
        ·intro γ done a w1 K hd qd qe qf qb hG hK
         have e56 : a.tmps[56]?.getD undef = ptr q := qe 0 56 rfl (qb 0 rfl)
         clear qd qe qf qb
         go_simp
         exact hK γ _ _ rfl ⟨by simpa [dn] using hG.1, hG.2.other (by decide) (by decide) (by decide) (Chg.refl No _)⟩ (fun _ _ _ _ h => h)
        ·intro γ done a w1 K hd qd qe qf qb hG hK
         have e72 : a.tmps[72]?.getD undef = ptr q := qe 18 72 rfl (qb 18 rfl)
         clear qd qe qf qb
         go_simp
         exact hK γ _ _ rfl ⟨by simpa [dn] using hG.1, hG.2.other (by decide) (by decide) (by decide) (Chg.refl No _)⟩ (fun _ _ _ _ h => h)
        ·intro γ done a w1 K hd qd qe qf qb hG hK
         have e73 : a.tmps[73]?.getD undef = .pointer (some ⟨q, 6, none⟩) := qe 19 73 rfl (qb 19 rfl)
         obtain ⟨hown, hnew⟩ := qe 17 71 rfl (qb 17 rfl)
         have h17 : done 17 = true := qb 17 rfl
         have hAG := hG.1
         rw [hd, h17] at hAG
         obtain ⟨l', hb, h1, -⟩ := hAG.box
         obtain rfl := h1 rfl
         have HNQ : ∀ {w : World} {cs : List Value}, Blk w q cs 154 -> ¬ ∃ cur, w.heap[q]? = some (.cells cur 20 (0, 0)) := by rintro w cs hb ⟨cur, hcur⟩; have h2 : w.heap[q]? = _ := hb; rw [h2] at hcur; cases hcur
         refine if_wanted rfl ?_
         refine wp_setSlice rfl (by simpa [Act.eval] using e73) hown.slice Tryz.sizeOf151 hb (show 6 < 8 by decide) (by simp [Act.eval]) ?_
         intro w2 hb2 hc2 hs2
         refine hK γ undef _ trivial ⟨by simpa [dn, h17] using hAG.store (by decide) hb2 hc2 hown hnew, hG.2.chg (by decide) (by decide) (by decide) hc2 (fun b n f hm e => by have e1 : b = q := e; subst e1; obtain ⟨es, c, h2, -⟩ := hm.choose_spec.1; have h3 : w1.heap[b]? = _ := hb; rw [h2] at h3; cases h3)⟩ ?_
         refine fun j hj _ u hu => hu.keep hc2 (safe_of (i := 20) (fun j hl hj => ?_) j hj)
         match j, hj with
         | 0, _ => exact trivial
         | 1, _ => exact trivial
         | 2, _ => exact trivial
         | 3, _ => exact trivial
         | 4, _ => exact trivial
         | 5, _ => exact trivial
         | 6, _ => exact trivial
         | 7, _ => exact trivial
         | 8, _ => exact trivial
         | 9, _ => exact trivial
         | 10, _ => exact trivial
         | 11, _ => exact trivial
         | 12, _ => exact trivial
         | 13, _ => exact trivial
         | 14, _ => exact trivial
         | 15, _ => exact trivial
         | 16, _ => exact fun k hk => by have e1 : k = q := hk; have := HQL.out; omega
         | 17, _ => exact fun k hk _ => by have e1 : k = q := hk; subst e1; exact HNQ hb
         | 18, _ => exact trivial
         | 19, _ => exact trivial
         | 20, hj => exact absurd rfl hj
         | j + 21, _ => exact absurd hl (by simp)
       ·intro γ vs w2 hvs hvn hG
        obtain ⟨l', hb, -, h2⟩ := hG.1.box
        obtain ⟨hown, hnew⟩ := h2 rfl
        obtain ⟨b, hγ⟩ : ∃ b, γ = some b := by
         have h5 := hG.2.iff
         cases γ with
         | none => cases h5
         | some b => exact ⟨b, rfl⟩
        subst hγ
        obtain ⟨hbl, hmb⟩ := hG.2.map b rfl
        have HWI2 := Hd (HWI.out.step HIM.out hb hown hnew hG.1.chg (.inr ⟨HISM.out, b, rfl, imp_any hmb (by have := HWXY.out; omega)⟩) HIVL.out)
        clear hvs hvn hG hb h2 hown hnew hmb hbl
        simp only [putAll, Act.put, List.setIfInBounds_toArray, List.set_cons_succ, List.set_cons_zero]
        go_wp2_with fail
        go_roundw
        case rel => first | exact ⟨m + 1, _, _, by go_num, by omega, HWI2.out⟩ | ((repeat apply Exists.intro); exact ⟨⟨m + 1, _, _, by go_num, by omega, HWI2.out⟩, rfl⟩)
        case measure => simp [intOf]; omega
     ·have hml2 : m = x.imports.length := by omega
      subst hml2
      have h66 : ¬ ((x.imports.length : Nat) : Int) < (x.imports.length : Int) := by omega
      have htv := HQ3.out.chg HWIr.out.chg (fun k hk e => HQ3.out.notTy (by decide) HQ2.out (by have e1 : k = q := e; rw [← e1]; exact hk))
      have HTVF := Hd htv
      have hown := (((HWL.out.own.chg HCX.out (fun _ _ e => e)).chg HCG.out (fun _ _ e => e)).chg HWIr.out.chg (fun k hk e => by
       have e1 : k = q := e
       have := (HWL.out.own.elem hk).2.1
       have := HQ1.out
       have := HCX.out.size
       omega))
      have hnb : (ptrRows qs).length + 1 ≤ 1099511627776 := by
       have := HWL.out.len
       have := HWL.out.le
       have := H40.out
       simp only [ptrRows, List.length_map]
       omega
      have hbs : w.heap.size ≤ wr.heap.size + 1 := by have := HWL.out.chg.size; have := HCX.out.size; have := HCG.out.size; have := HWIr.out.chg.size; omega
      clear htv
      go_wp2_with (first | (at_builtin; refine wpList_appendRows rfl elem117 rfl rfl (hown.alloc _) rfl (RowAt.one1 wr [ptr q] 152 1 rfl) (by simp [Value.oneCell']) hnb (by decide) (by simpa using hbs) ?_; intro wv' w6 hown' hc6 hv' hold; (obtain ⟨sa, sn, sc, rfl⟩ := hown'.slice1); go_frame))
      have HWLN := Hd (HWL.out.step HX0.out HCX.out HCG.out HQ1.out HWIr.out HTVF.out HQ2.out.lt hc6 hown')
      have hlen : (ptrRows qs ++ [[ptr q]]).length = n + 1 := by simp [ptrRows, HWL.out.len]
      have HLN := Hd hlen
      clear hown' hc6 hv' hold hown hlen
      refine ⟨⟨n + 1, qs ++ [q], sa, sn, by rw [HLN.out], by go_num, ?_⟩, by simp [intOf]; omega⟩
      have h9 := HWLN.out
      rw [HLN.out] at h9
      exact h9
  ·have hnl : n = rows.length := by have := HWL.out.le; have := HN.out; omega
   subst hnl
   have h64 : ¬ ((rows.length : Nat) : Int) < (rows.length : Int) := by omega
   have HD := Hd (show WL w xs wr xs.length (.slice wa rows.length wc) qs by rw [← HN.out]; exact HWL.out)
   go_wp2
   go_ret2
   exact HD.out.done
theorem run_appendRowsB {P : Program} {w : World} {t e size bytes base : Nat} (hT : ElemTy P t e size bytes) (ty : TypeId) {v : Value} {rows : List (List Value)} (hown : OwnR w base e size v rows)
  {ok : Nat -> Prop} {x : Value} {news : List (List Value)} (hx : RowAt ok w x size news) (h1 : ∀ r ∈ news, r.all (·.oneCell') = true)
  (hn : rows.length + news.length ≤ 1099511627776) (hbytes : (rows.length + news.length) * bytes ≤ 140737488355328) (hbase : base ≤ w.heap.size) :
  ∃ v' w', (Builtin.append_ #[t, t] ty #[v, x]).run P w = .ok v' w' /\ OwnR w' base e size v' (rows ++ news) /\ Chg (fun b => v.ownBlock = some b) w w' /\
   (v'.ownBlock = v.ownBlock ∨ ∀ k, v'.ownBlock = some k -> w.heap.size ≤ k) /\ OwnR w' base e size v rows := by
 obtain ⟨hu, ⟨i, z, hi, hz, hsize, hby, hzs⟩, hpos⟩ := hT
 have hx0 := hx
 obtain ⟨hm, hs, a, cap, rfl, hcap, hcell⟩ := hx0
 have hall : ∀ r ∈ rows ++ news, r.length = size := fun r hr => (List.mem_append.1 hr).elim (hown.1 r) (hs r)
 have hml : rows.length + news.length ≤ maxLen := by unfold maxLen; omega
 cases a with
 | none =>
  have hnil : news = [] := by
   cases news with
   | nil => rfl
   | cons r rs => obtain ⟨b, off, hb, -⟩ := hcell (by simp); cases hb
  subst hnil
  have hr := run_append_owned_none (P := P) w base t ty e i size hu hi v rows.length _ hown.2
  obtain rfl := hcap rfl
  exact ⟨_, _, hr, by simpa using hown, Chg.refl _ _, .inl rfl, hown⟩
 | some ad =>
  have hflat := hx.flat hpos rfl
  have hone : ∀ u ∈ news.flatten, u.oneCell' = true := fun u hu => by
   obtain ⟨r, hr, hur⟩ := List.mem_flatten.1 hu
   exact List.all_eq_true.1 (h1 r hr) u hur
  obtain ⟨v', w', hrun, hown', hgr, hiff⟩ := run_append_own (P := P) w base t ty e i z size bytes hu hi hz hsize hby hzs hpos v rows.length _ hown.2 ad news.length cap _ (flatten_length hs) hflat hone hml hbytes hbase
  have hO : OwnR w' base e size v' (rows ++ news) := ⟨hall, by simpa using hown'⟩
  suffices hs : (v'.ownBlock = v.ownBlock ∨ ∀ k, v'.ownBlock = some k -> w.heap.size ≤ k) /\ OwnR w' base e size v rows from ⟨v', w', hrun, hO, (Chg.grown hgr).mono (fun _ _ e => e), hs.1, hs.2⟩
  rcases hown.2.2 with ⟨rfl, hn0⟩ | ⟨g, cap0, cur, rfl, hbg, hg, hnc, hcm, hcs, htake⟩
  ·by_cases hm0 : news.length = 0
   ·have hnr : rows = [] := List.eq_nil_of_length_eq_zero hn0
    subst hnr
    exact ⟨.inl (by rw [hiff.2 ⟨rfl, hm0⟩]), OwnR.nil _ _ _ _⟩
   ·have hnr : rows = [] := List.eq_nil_of_length_eq_zero hn0
    subst hnr
    refine ⟨.inr ?_, OwnR.nil _ _ _ _⟩
    subst hsize
    have hr := run_append_nil (P := P) w t ty e i z hu hi hz ad news.length cap _ (flatten_length hs) hflat (by omega) (by unfold maxLen at hml; omega) (by subst hby; simp at hbytes; omega)
    rw [hrun] at hr
    cases hr
    intro k hk; cases hk; exact Nat.le_refl _
  ·by_cases hroom : rows.length + news.length ≤ cap0
   ·subst hsize
    have hr := run_append_room (P := P) w t ty e i hu hi g rows.length cap0 cur hg ad news.length cap _ (flatten_length hs) hflat hone hroom (by rw [flatten_length hs, hcs, ← Nat.add_mul]; exact Nat.mul_le_mul_right _ hroom)
    rw [hrun] at hr
    cases hr
    refine ⟨.inl rfl, hown.1, hown.2.1, .inr ⟨g, cap0, _, rfl, hbg, setRow_heap w g cur _ e _ hg, hnc, hcm, ?_, ?_⟩⟩
    ·have h2 := flatten_length hs
     have h3 : rows.length * i.size + news.flatten.length ≤ cur.size := by rw [h2, hcs, ← Nat.add_mul]; exact Nat.mul_le_mul_right _ hroom
     simp only [List.size_toArray, List.length_append, List.length_take, List.length_drop, Array.length_toList]
     omega
    ·rw [htake, List.append_assoc]
     have h2 := flatten_length hown.1
     rw [← h2]
     exact List.take_left
   ·subst hsize; subst hby
    have hr := run_append_grow (P := P) w t ty e i z hu hi hz ⟨g, 0, none⟩ rows.length cap0 _ hown.2.1 (hown.2.cells (g := g) rfl) ad news.length cap _ (flatten_length hs) hflat (by omega) (by unfold maxLen at hml; omega) (growslice_fits (by omega) hbytes)
    rw [hrun] at hr
    cases hr
    exact ⟨.inr (by intro k hk; cases hk; exact Nat.le_refl _), hown.chg (S := No) (((Chg.refl _ _).drew).alloc _) (fun _ _ e => e)⟩
theorem wp_appendRowsB {P : Program} {o : Oper} {a : Act} {w : World} {K : Act -> World -> Prop} {Q : Exit -> Act -> World -> Prop} {t e size bytes base : Nat} (hT : ElemTy P t e size bytes) {s x : Operand}
  (ho : o.op = .call { callee := .builtin .append, args := #[s, x], argTypes := #[t, t] }) {v : Value} {rows : List (List Value)} (hs : a.eval s = v) (hown : OwnR w base e size v rows)
  {ok : Nat -> Prop} {xv : Value} {news : List (List Value)} (hxv : a.eval x = xv) (hx : RowAt ok w xv size news) (h1 : ∀ r ∈ news, r.all (·.oneCell') = true)
  (hn : rows.length + news.length ≤ 1099511627776) (hbytes : (rows.length + news.length) * bytes ≤ 140737488355328) (hbase : base ≤ w.heap.size)
  (h : ∀ v' w', OwnR w' base e size v' (rows ++ news) -> Chg (fun b => v.ownBlock = some b) w w' -> (v'.ownBlock = v.ownBlock ∨ ∀ k, v'.ownBlock = some k -> w.heap.size ≤ k) -> OwnR w' base e size v rows -> K (a.put o.dst v') w') : o.wp P a w K Q := by
 obtain ⟨v', w', hr, h2, h3, h4, h5⟩ := run_appendRowsB (P := P) hT o.type hown hx h1 hn hbytes hbase
 unfold Oper.wp execOp
 simp only [ho, resolve, invoke, builtin, Sem.run_bind, Sem.run_pure, Result.andThen_ok, List.map_toArray, List.map_cons, List.map_nil, hs, hxv, hr]
 exact h v' w' h2 h3 h4 h5
@[reducible] def zero11 : List Value := cells11 ByteArray.empty ByteArray.empty 0 false 0 0 ByteArray.empty (.slice none 0 0) (.slice none 0 0) (.slice none 0 0) (.slice none 0 0)
theorem elem27 : ElemTy Tryz.prog 27 30 11 176 := by
 refine ⟨Tryz.underlying27, ?_, by decide⟩
 have h : (Tryz.prog.info? 30).map (fun i => (i.zero, i.size, i.bytes)) = some (some (.agg zero11.toArray), 11, 176) := by kernel_rfl
 obtain ⟨i, h1, h2, h3, h4⟩ := info_parts h
 exact ⟨i, _, h1, h2, h3, h4, rfl⟩
theorem elem28 : ElemTy Tryz.prog 28 79 7 120 := by
 refine ⟨Tryz.underlying28, ?_, by decide⟩
 have h : (Tryz.prog.info? 79).map (fun i => (i.zero, i.size, i.bytes)) = some (some (.agg #[.string ByteArray.empty, .string ByteArray.empty, .string ByteArray.empty, .string ByteArray.empty, .slice none 0 0, .bool false, .slice none 0 0]), 7, 120) := by kernel_rfl
 obtain ⟨i, h1, h2, h3, h4⟩ := info_parts h
 exact ⟨i, _, h1, h2, h3, h4, rfl⟩
theorem elem77 : ElemTy Tryz.prog 77 110 4 56 := by
 refine ⟨Tryz.underlying77, ?_, by decide⟩
 have h : (Tryz.prog.info? 110).map (fun i => (i.zero, i.size, i.bytes)) = some (some (.agg #[.string ByteArray.empty, .string ByteArray.empty, .string ByteArray.empty, .bool false]), 4, 56) := by kernel_rfl
 obtain ⟨i, h1, h2, h3, h4⟩ := info_parts h
 exact ⟨i, _, h1, h2, h3, h4, rfl⟩
theorem run_build27_1 (cs : List Value) (h : cs.length = 11) (w : World) : (Instr.buildSlice 27 1 #[(0, .agg cs.toArray)]).run Tryz.prog w = .ok (.slice (some ⟨w.heap.size, 0, none⟩) 1 1) (w.alloc (.cells cs.toArray 30)) := by
 obtain ⟨a, b, c, d, e, f, g, h1, h2, h3, h4, rfl⟩ : ∃ a b c d e f g h1 h2 h3 h4, cs = [a, b, c, d, e, f, g, h1, h2, h3, h4] := by
  match cs, h with
  | [a, b, c, d, e, f, g, h1, h2, h3, h4], _ => exact ⟨a, b, c, d, e, f, g, h1, h2, h3, h4, rfl⟩
 clear h
 kernel_rfl
theorem wp_build27 {o : Oper} {a : Act} {w : World} {K : Act -> World -> Prop} {Q : Exit -> Act -> World -> Prop} {x : Operand} (ho : o.op = .buildSlice 27 1 #[(0, x)]) {cs : List Value} (hx : a.eval x = .agg cs.toArray) (h1 : cs.length = 11)
  (h : K (a.put o.dst (.slice (some ⟨w.heap.size, 0, none⟩) 1 1)) (w.alloc (.cells cs.toArray 30))) : o.wp Tryz.prog a w K Q := by
 have h3 := run_build27_1 cs h1 w
 unfold Oper.wp
 simp only [execOp, ho, List.map_toArray, List.map_cons, List.map_nil, hx, Sem.run_bind, h3, Result.andThen_ok]
 exact h
def AppC (B : Nat) (d : Ch) (rows : List (List Value)) (iv : Value) (wr : World) (v : Value) (w : World) : Prop :=
 ∃ cs, OwnR w B 30 11 v (rows ++ [cs]) /\ ChJ (fun x => wr.heap.size ≤ x /\ v.ownBlock ≠ some x) w cs d /\ (v.ownBlock = iv.ownBlock ∨ ∀ k, v.ownBlock = some k -> wr.heap.size ≤ k)
theorem AppC.chg {B : Nat} {d : Ch} {rows : List (List Value)} {iv : Value} {wr : World} {v : Value} {S : Nat -> Prop} {w w' : World} (h : AppC B d rows iv wr v w) (hB : B ≤ wr.heap.size) (hc : Chg S w w') (hs : ∀ k, S k -> k < B) : AppC B d rows iv wr v w' := by
 obtain ⟨cs, h1, h2, h3⟩ := h
 exact ⟨cs, h1.chg hc (fun k hk e => by have := (h1.elem hk).1; have := hs k e; omega), h2.chg hc (fun k hk e => by have := hs k e; have := hk.1; omega), h3⟩
def Fact.chNew (wr : World) (d : Ch) : Fact :=
 ⟨fun v w => ∃ cs : List Value, v = .agg cs.toArray /\ ChJ (fun x => wr.heap.size ≤ x /\ x < w.heap.size) w cs d, fun S _ => ∀ k, S k -> k < wr.heap.size,
  fun S v w w' h hc hs => by
  obtain ⟨cs, rfl, h1⟩ := h
  exact ⟨cs, rfl, (h1.chg hc (fun b hb e => by have := hs b e; omega)).mono (fun b _ hb => ⟨hb.1, Nat.lt_of_lt_of_le hb.2 hc.size⟩)⟩, fun _ _ e => e.elim⟩
def Fact.chRow (wr : World) (d : Ch) : Fact :=
 ⟨fun v w => ∃ (cs : List Value) (t : Nat), v = .slice (some ⟨t, 0, Option.none⟩) 1 1 /\ wr.heap.size ≤ t /\ Blk w t cs 30 /\ ChJ (fun x => wr.heap.size ≤ x /\ x < w.heap.size) w cs d, fun S _ => ∀ k, S k -> k < wr.heap.size,
  fun S v w w' h hc hs => by
  obtain ⟨cs, t, rfl, ht, hb, h1⟩ := h
  exact ⟨cs, t, rfl, ht, hb.chg hc (fun e => by have := hs t e; omega), (h1.chg hc (fun b hb e => by have := hs b e; omega)).mono (fun b _ hb => ⟨hb.1, Nat.lt_of_lt_of_le hb.2 hc.size⟩)⟩, fun _ _ e => e.elim⟩
def Fact.chApp (B : Nat) (d : Ch) (rows : List (List Value)) (iv : Value) (wr : World) (hB : B ≤ wr.heap.size) : Fact :=
 ⟨fun v w => AppC B d rows iv wr v w, fun S _ => ∀ k, S k -> k < B, fun S v w w' h hc hs => h.chg hB hc hs, fun _ _ e => e.elim⟩
structure AC (q B : Nat) (mk : Value -> List Value) (iv : Value) (rows : List (List Value)) (d : Ch) (wr w : World) (da ds : Bool) : Prop where
 chg : Chg (fun b => b = q ∨ iv.ownBlock = some b) wr w
 hq : q < B /\ B ≤ wr.heap.size
 own : da = false -> OwnR w B 30 11 iv rows
 box : ∃ l', Blk w q (mk l') 30 /\ (ds = false -> l' = iv) /\ (ds = true -> AppC B d rows iv wr l' w)
section
variable {q B : Nat} {mk : Value -> List Value} {iv : Value} {rows : List (List Value)} {d : Ch} {wr w w' : World} {da ds : Bool}
theorem AC.start (hq : q < B /\ B ≤ wr.heap.size) (hown : OwnR wr B 30 11 iv rows) (hb : Blk wr q (mk iv) 30) : AC q B mk iv rows d wr wr.drew false false :=
 ⟨(Chg.refl _ wr).drew, hq, fun _ => hown.chg ((Chg.refl No wr).drew) (fun _ _ e => e), iv, hb.drew, fun _ => rfl, fun e => (by cases e)⟩
theorem AC.chgNo (g : AC q B mk iv rows d wr w da ds) (hc : Chg No w w') : AC q B mk iv rows d wr w' da ds := by
 obtain ⟨l', h1, h2, h3⟩ := g.box
 exact ⟨g.chg.trans' hc, g.hq, fun e => (g.own e).chg hc (fun _ _ e => e), l', h1.chg hc id, h2, fun e => (h3 e).chg g.hq.2 hc (fun _ e => e.elim)⟩
theorem AC.app (g : AC q B mk iv rows d wr w false false) (hc : Chg (fun b => iv.ownBlock = some b) w w') : AC q B mk iv rows d wr w' true false := by
 obtain ⟨l', h1, h2, h3⟩ := g.box
 exact ⟨g.chg.trans hc (fun i _ e => .inr e), g.hq, fun e => (by cases e), l', h1.chg hc (fun e => by have := ((g.own rfl).elem e).1; have := g.hq.1; omega), h2, fun e => (by cases e)⟩
theorem AC.store {v : Value} (g : AC q B mk iv rows d wr w true false) (hb : Blk w' q (mk v) 30) (hc : Chg (· = q) w w') (hv : AppC B d rows iv wr v w) : AC q B mk iv rows d wr w' true true := by
 obtain ⟨l', h1, h2, h3⟩ := g.box
 exact ⟨g.chg.trans hc (fun i _ e => .inl e), g.hq, fun e => (by cases e), v, hb, fun e => (by cases e), fun _ => hv.chg g.hq.2 hc (fun k hk => by have e : k = q := hk; have := g.hq.1; omega)⟩
theorem AppC.of {cs : List Value} {v' : Value} {w1 w2 : World} (hown : OwnR w2 B 30 11 v' (rows ++ [cs])) (hj : ChJ (fun x => wr.heap.size ≤ x /\ x < w1.heap.size) w1 cs d) (hw : OwnR wr B 30 11 iv rows) (hs : wr.heap.size ≤ w1.heap.size)
  (hc : Chg (fun b => iv.ownBlock = some b) w1 w2) (hv : v'.ownBlock = iv.ownBlock ∨ ∀ k, v'.ownBlock = some k -> w1.heap.size ≤ k) : AppC B d rows iv wr v' w2 := by
 have hel : ∀ k, iv.ownBlock = some k -> k < wr.heap.size := fun k hk => (hw.elem hk).2.1
 refine ⟨cs, hown, (hj.chg hc (fun b hb e => by have := hel b e; omega)).mono (fun b _ hb => ⟨hb.1, fun e => ?_⟩), hv.imp id (fun h k hk => Nat.le_trans hs (h k hk))⟩
 rcases hv with h | h
 ·have := hel b (h ▸ e); omega
 ·have := h b e; omega
end
structure CC (w : World) (g B : Nat) (mk : Value -> List Value) (cv : List Value) (vals : J) (xs : List Ch) (wr : World) (n : Nat) (v : Value) (rows : List (List Value)) : Prop where
 le : n ≤ xs.length
 blk : Blk wr g (mk v) 30
 own : OwnR wr B 30 11 v rows
 len : rows.length = n
 vals : ValJ (okF B v) wr cv vals
 val : ∀ (i : Nat) (r : List Value) (x : Ch), rows[i]? = some r -> xs[i]? = some x -> ChJ (okF B v) wr r x
 chg : Chg No w wr
 hB : w.heap.size ≤ g /\ g < B /\ B ≤ wr.heap.size
 res : Blk wr (g + 1) zero11 30 /\ g + 1 < B
theorem CC.step {w : World} {g B : Nat} {mk : Value -> List Value} {cv : List Value} {vals : J} {xs : List Ch} {wr : World} {n : Nat} {v : Value} {rows : List (List Value)} (h : CC w g B mk cv vals xs wr n v rows) {x : Ch} (hx : xs[n]? = some x) {w1 w2 : World} (h1 : Chg No wr w1)
  (ha : AC g B mk v rows x w1 w2 true true) : ∃ v' rows', CC w g B mk cv vals xs w2 (n + 1) v' rows' := by
 obtain ⟨v', hb, -, h3⟩ := ha.box
 obtain ⟨cs, hown, hj, hnew⟩ := h3 rfl
 have hlt : n < xs.length := (List.getElem?_eq_some_iff.1 hx).1
 have hel : ∀ k, v.ownBlock = some k -> B ≤ k /\ k < wr.heap.size := fun k hk => ⟨(h.own.elem hk).1, (h.own.elem hk).2.1⟩
 have hs1 := h1.size
 have hs2 := ha.chg.size
 have hB := h.hB
 have hall : Chg (fun b => b = g ∨ v.ownBlock = some b) wr w2 := (h1.mono (fun _ _ e => e.elim)).trans ha.chg (fun _ _ e => e)
 have hmono : ∀ b, b < wr.heap.size -> okF B v b -> okF B v' b := fun b hb hne => ⟨hne.1, fun e => by
  rcases hnew with hv | hv
  ·exact hne.2 (hv ▸ e)
  ·have := hv b e; omega⟩
 have hsep : ∀ b, okF B v b /\ b < wr.heap.size -> ¬ (b = g ∨ v.ownBlock = some b) := fun b hb e => by
  rcases e with e | e
  ·have := hb.1.1; omega
  ·exact hb.1.2 e
 refine ⟨v', rows ++ [cs], hlt, hb, hown, by simp [h.len], ?_, fun i r y hr hy => ?_, h.chg.trans hall (fun i hi e => ?_), ⟨hB.1, hB.2.1, by omega⟩, ⟨h.res.1.chg hall (fun e => ?_), h.res.2⟩⟩
 ·exact ((h.vals.mono (ok' := fun b => okF B v b /\ b < wr.heap.size) (fun b hb hb2 => ⟨hb2, hb⟩)).chg hall hsep).mono (fun b _ hb => hmono b hb.2 hb.1)
 ·by_cases hi : i < rows.length
  ·rw [List.getElem?_append_left hi] at hr
   exact (((h.val i r y hr hy).mono (ok' := fun b => okF B v b /\ b < wr.heap.size) (fun b hb hb2 => ⟨hb2, hb⟩)).chg hall hsep).mono (fun b _ hb => hmono b hb.2 hb.1)
  ·have hi2 : i = rows.length := by
    have := (List.getElem?_eq_some_iff.1 hr).1
    simp at this
    omega
   subst hi2
   rw [List.getElem?_append_right (Nat.le_refl _), Nat.sub_self] at hr
   cases hr
   rw [h.len, hx] at hy
   cases hy
   exact hj.mono (fun b _ hb => ⟨by have := hb.1; omega, hb.2⟩)
 ·rcases e with e | e
  ·omega
  ·have := (hel i e).1; omega
 ·rcases e with e | e
  ·omega
  ·have := (hel _ e).1; have := h.res.2; omega
theorem Blk.eq {w : World} {g : Nat} {a b : List Value} {ty : TypeId} (h : Blk w g a ty) (h2 : Blk w g b ty) : a = b := by
 have h3 := h.symm.trans h2
 simpa using h3
theorem CC.keep {w : World} {g B : Nat} {mk : Value -> List Value} {cv : List Value} {vals : J} {xs : List Ch} {wr w' : World} {n : Nat} {v : Value} {rows : List (List Value)} (h : CC w g B mk cv vals xs wr n v rows) (hc : Chg No wr w') : CC w g B mk cv vals xs w' n v rows :=
 ⟨h.le, h.blk.chg hc id, h.own.chg hc (fun _ _ e => e), h.len, h.vals.chg hc (fun _ _ e => e), fun i r x a b => (h.val i r x a b).chg hc (fun _ _ e => e), h.chg.trans' hc, ⟨h.hB.1, h.hB.2.1, Nat.le_trans h.hB.2.2 hc.size⟩, h.res.1.chg hc id, h.res.2⟩
theorem set_row {A R : List Value} {r : List Value} {j : Nat} (hj : j < r.length) (u : Value) : (A ++ (r ++ R)).set (A.length + j) u = A ++ (r.set j u ++ R) := by
 rw [List.set_append_right _ _ (Nat.le_add_right _ _), Nat.add_sub_cancel_left, List.set_append_left _ _ hj]
structure WC (b n : Nat) (x : Want) (A R : List Value) (tv iv : Value) (B : Nat) (wr w : World) (dt di : Bool) : Prop where
 chg : Chg (· = b) wr w
 hB : b < B /\ B ≤ w.heap.size
 box : ∃ t' i', Blk w b (A ++ (cellsW x t' i' ++ R)) 79 /\ (dt = false -> t' = tv) /\ (dt = true -> OwnR w B 9 1 t' (kRows x.tags)) /\ (di = false -> i' = iv) /\ (di = true -> OwnR w B 110 4 i' (impRows x.imports))
theorem WC.start {b n : Nat} {x : Want} {A R : List Value} {tv iv : Value} {B : Nat} {wr : World} (hB : b < B /\ B ≤ wr.heap.size) (h : Blk wr b (A ++ (cellsW x tv iv ++ R)) 79) : WC b n x A R tv iv B wr wr.drew false false :=
 ⟨(Chg.refl _ wr).drew, hB, tv, iv, h.drew, fun _ => rfl, (fun e => by cases e), fun _ => rfl, (fun e => by cases e)⟩
theorem WC.chgNo {b n : Nat} {x : Want} {A R : List Value} {tv iv : Value} {B : Nat} {wr w w' : World} {dt di : Bool} (h : WC b n x A R tv iv B wr w dt di) (hc : Chg No w w') : WC b n x A R tv iv B wr w' dt di := by
 obtain ⟨k', l', h1, h2, h3, h4, h5⟩ := h.box
 exact ⟨h.chg.trans' hc, ⟨h.hB.1, Nat.le_trans h.hB.2 hc.size⟩, k', l', h1.chg hc id, h2, fun e => (h3 e).chg hc (fun _ _ e => e), h4, fun e => (h5 e).chg hc (fun _ _ e => e)⟩
theorem WC.storeT {b n : Nat} {x : Want} {A R : List Value} {tv iv : Value} {B : Nat} {wr w w' : World} {di : Bool} (h : WC b n x A R tv iv B wr w false di) {v : Value} (hv : OwnR w B 9 1 v (kRows x.tags)) {cs : List Value} (hcb : Blk w b cs 79) (hcb2 : Blk w' b (cs.set (A.length + 4) v) 79) (hc : Chg (· = b) w w') : WC b n x A R tv iv B wr w' true di := by
 obtain ⟨k', l', h1, h2, h3, h4, h5⟩ := h.box
 obtain rfl := h2 rfl
 have hB := h.hB
 obtain rfl := hcb.eq h1
 rw [set_row (by simp [cellsW])] at hcb2
 refine ⟨h.chg.trans hc (fun _ _ e => e), ⟨hB.1, Nat.le_trans hB.2 hc.size⟩, v, l', hcb2, (fun e => by cases e), fun _ => hv.chg hc (fun q hq e => by have e : q = b := e; have := (hv.elem hq).1; omega), h4, fun e => (h5 e).chg hc (fun q hq e2 => by have e2 : q = b := e2; have := ((h5 e).elem hq).1; omega)⟩
theorem WC.storeI {b n : Nat} {x : Want} {A R : List Value} {tv iv : Value} {B : Nat} {wr w w' : World} {dt : Bool} (h : WC b n x A R tv iv B wr w dt false) {v : Value} (hv : OwnR w B 110 4 v (impRows x.imports)) {cs : List Value} (hcb : Blk w b cs 79) (hcb2 : Blk w' b (cs.set (A.length + 6) v) 79) (hc : Chg (· = b) w w') : WC b n x A R tv iv B wr w' dt true := by
 obtain ⟨k', l', h1, h2, h3, h4, h5⟩ := h.box
 obtain rfl := h4 rfl
 have hB := h.hB
 obtain rfl := hcb.eq h1
 rw [set_row (by simp [cellsW])] at hcb2
 refine ⟨h.chg.trans hc (fun _ _ e => e), ⟨hB.1, Nat.le_trans hB.2 hc.size⟩, k', v, hcb2, h2, fun e => (h3 e).chg hc (fun q hq e2 => by have e2 : q = b := e2; have := ((h3 e).elem hq).1; omega), (fun e => by cases e), fun _ => hv.chg hc (fun q hq e => by have e : q = b := e; have := (hv.elem hq).1; omega)⟩
structure WK (wx : World) (b B : Nat) (wants : List Want) (rows : List (List Value)) (pad : List Value) (wr : World) (n : Nat) (A : List (List Value)) : Prop where
 le : n ≤ wants.length
 len : A.length = n
 seven : ∀ r ∈ A, r.length = 7
 blk : Blk wr b (A.flatten ++ ((rows.drop n).flatten ++ pad)) 79
 hB : b < B /\ B ≤ wr.heap.size
 val : ∀ (i : Nat) (r : List Value) (x : Want), A[i]? = some r -> wants[i]? = some x -> WantJ (fun y => B ≤ y) wr r x
 chg : Chg (· = b) wx wr
theorem flat_len {A : List (List Value)} (h : ∀ r ∈ A, r.length = 7) : A.flatten.length = A.length * 7 := flatten_length h
theorem WK.step {wx : World} {b B : Nat} {wants : List Want} {rows : List (List Value)} {pad : List Value} {wr : World} {n : Nat} {A : List (List Value)} (h : WK wx b B wants rows pad wr n A) {x : Want} (hx : wants[n]? = some x) {R : List Value} (hR : R = (rows.drop (n + 1)).flatten ++ pad) {tv iv : Value} {w1 w2 : World} (h1 : Chg No wr w1)
  (hw : WC b n x A.flatten R tv iv B w1 w2 true true) : ∃ A', WK wx b B wants rows pad w2 (n + 1) A' := by
 obtain ⟨t', i', hb, -, ht, -, hi⟩ := hw.box
 have ht := ht rfl
 have hi := hi rfl
 have hall : Chg (· = b) wr w2 := (h1.mono (fun _ _ e => e.elim)).trans hw.chg (fun _ _ e => e)
 have hB := h.hB
 refine ⟨A ++ [cellsW x t' i'], (List.getElem?_eq_some_iff.1 hx).1, by simp [h.len], fun r hr => ?_, ?_, ⟨hB.1, by have := hall.size; omega⟩, fun i r y hr hy => ?_, h.chg.trans hall (fun _ _ e => e)⟩
 ·rcases List.mem_append.1 hr with hr | hr
  ·exact h.seven r hr
  ·obtain rfl := List.mem_singleton.1 hr; rfl
 ·subst hR; simpa using hb
 ·by_cases hl : i < A.length
  ·rw [List.getElem?_append_left hl] at hr
   exact (h.val i r y hr hy).chg hall (fun k hk e => by have e : k = b := e; omega)
  ·have hi2 : i = A.length := by
    have := (List.getElem?_eq_some_iff.1 hr).1
    simp at this
    omega
   subst hi2
   rw [List.getElem?_append_right (Nat.le_refl _), Nat.sub_self] at hr
   cases hr
   rw [h.len, hx] at hy
   cases hy
   refine ⟨t', i', rfl, ht.rowAt.mono (fun k _ hk => (ht.elem hk).1) (by decide), hi.rowAt.mono (fun k _ hk => (hi.elem hk).1) (by decide)⟩
theorem RowAt.ofBlk {w : World} {b : Nat} {rows : List (List Value)} {pad : List Value} {ty : TypeId} {size cap : Nat} (h : Blk w b (rows.flatten ++ pad) ty) (h7 : ∀ r ∈ rows, r.length = size) (hl : rows.length ≤ maxLen) : RowAt (fun x => x = b) w (.slice (some ⟨b, 0, none⟩) rows.length cap) size rows := by
 refine ⟨hl, h7, _, _, rfl, (by intro e; cases e), fun _ => ⟨b, 0, rfl, rfl, fun i r hr j u hu => ?_⟩⟩
 rw [Nat.zero_add, h.cell, List.getElem?_append_left, flatten_get h7 hr hu]
 have h1 := flatten_get h7 hr hu
 exact (List.getElem?_eq_some_iff.1 h1).1
def setsL (cs : List Value) : Nat -> List Value -> List Value
 | _, [] => cs
 | o, v :: vs => setsL (cs.set o v) (o + 1) vs
theorem Blk.setCells (vs : List Value) : ∀ {w : World} {g : Nat} {cs : List Value} {ty : TypeId} (_ : Blk w g cs ty) (o : Nat), Blk (w.setCells g o vs) g (setsL cs o vs) ty /\ Chg (· = g) w (w.setCells g o vs) /\ (w.setCells g o vs).heap.size = w.heap.size := by
 induction vs with
 | nil => intro w g cs ty h o; exact ⟨h, Chg.refl _ _, rfl⟩
 | cons v vs ih =>
  intro w g cs ty h o
  obtain ⟨h1, h2, h3⟩ := h.setCell o v
  obtain ⟨k1, k2, k3⟩ := ih h1 (o + 1)
  exact ⟨k1, h2.trans k2 (fun _ _ e => e), k3.trans h3⟩
theorem wpList_storeMid {P : Program} {ops : Array Oper} {rest : List Oper} {o : Oper} {a : Act} {w : World} {Q : Exit -> Act -> World -> Prop} {ty n : Nat} (hgd : o.guard = none) (hT : AggTy P ty n) {x y : Operand} (ho : o.op = .store ty x y)
  {g i : Nat} {t : TypeId} {old cs : List Value} (hx : a.eval x = .pointer (some ⟨g, i, none⟩)) (hy : a.eval y = .agg cs.toArray) (hb : Blk w g old t) (hold : i + n ≤ old.length) (hl : cs.length = n) (h1 : cs.all (·.oneCell') = true)
  (h : ∀ w', Blk w' g (setsL old i cs) t -> Chg (· = g) w w' -> w'.heap.size = w.heap.size -> wpList P ops Q rest (a.put o.dst undef) w') : wpList P ops Q (o :: rest) a w := by
 obtain ⟨h2, h3, h4⟩ := hb.setCells cs i
 refine wpList_store_mid hgd ty x y ho g i cs.toArray hx hy (fun j hj => ?_) (by simpa [hl] using hT.2) (by simpa using h1) (h _ h2 h3 h4)
 simp at hj
 exact ⟨by rw [hb.cell, List.getElem?_eq_getElem (by omega)]; rfl, hb.frozen _⟩
theorem WK.cells {wx : World} {b B : Nat} {wants : List Want} {rows : List (List Value)} {pad : List Value} {wr : World} {n : Nat} {A : List (List Value)} (h : WK wx b B wants rows pad wr n A) {r : List Value} (hr : rows[n]? = some r) :
  Blk wr b (A.flatten ++ (r ++ ((rows.drop (n + 1)).flatten ++ pad))) 79 /\ A.flatten.length = n * 7 /\ CellsAt wr b (n * 7) r := by
 obtain ⟨hl, he⟩ := List.getElem?_eq_some_iff.1 hr
 have h1 := h.blk
 rw [List.drop_eq_getElem_cons hl, he, List.flatten_cons, List.append_assoc] at h1
 have h2 : A.flatten.length = n * 7 := by rw [flat_len h.seven, h.len]
 refine ⟨h1, h2, fun j u hu => ?_⟩
 have hj := (List.getElem?_eq_some_iff.1 hu).1
 rw [h1.cell, List.getElem?_append_right (by omega), h2, Nat.add_sub_cancel_left, List.getElem?_append_left hj, hu]
theorem WK.start {wx : World} {b B : Nat} {wants : List Want} {rows : List (List Value)} {pad : List Value} (hb : Blk wx b (rows.flatten ++ pad) 79) (hB : b < B /\ B ≤ wx.heap.size) : WK wx b B wants rows pad wx 0 [] :=
 ⟨Nat.zero_le _, rfl, (fun r h => by cases h), by simpa using hb, hB, (fun i r x h => by simp at h), Chg.refl _ _⟩
theorem WK.keep {wx : World} {b B : Nat} {wants : List Want} {rows : List (List Value)} {pad : List Value} {wr w' : World} {n : Nat} {A : List (List Value)} (h : WK wx b B wants rows pad wr n A) (hc : Chg No wr w') : WK wx b B wants rows pad w' n A :=
 ⟨h.le, h.len, h.seven, h.blk.chg hc id, ⟨h.hB.1, Nat.le_trans h.hB.2 hc.size⟩, fun i r x a b => (h.val i r x a b).chg hc (fun _ _ e => e), h.chg.trans' hc⟩
theorem ChJ.fin {w : World} {g B : Nat} {name ver : K} {k : Int} {b : Bool} {i : Int} {f : Nat} {t : K} {kv lv wv0 wv : Value} {c : Ch} {wr wE : World} {v : Value} {rows A : List (List Value)}
  (h : CC w g B (fun l => cells11 name ver k b i f t kv lv l wv0) (cells7 k b i f t kv lv) c.vals c.deps wr c.deps.length v rows) (hn : c.name = name) (hr : c.version = ver) (hc : Chg (· = g) wr wE)
  (hw : RowAt (fun y => B ≤ y) wE wv 7 A) (hl : A.length = c.wants.length) (hx : ∀ (j : Nat) (r : List Value) (x : Want), A[j]? = some r -> c.wants[j]? = some x -> WantJ (fun y => B ≤ y) wE r x) : ChJ (fun x => B ≤ x) wE (cells11 name ver k b i f t kv lv v wv) c := by
 have hsep : ∀ x, okF B v x -> ¬ x = g := fun x hx e => by have := hx.1; have := h.hB.2.1; omega
 obtain ⟨nm, vr, vals, deps, wants⟩ := c
 obtain rfl : nm = name := hn
 obtain rfl : vr = ver := hr
 refine .mk ((h.vals.chg hc hsep).mono (fun b _ hb => hb.1)) ?_ h.len (fun n r d h1 h2 => ((h.val n r d h1 h2).chg hc hsep).mono (fun b _ hb => hb.1)) hw hl hx
 have ho := h.own.chg hc (fun k hk e => by have e1 : k = g := e; have := (h.own.elem hk).1; have := h.hB.2.1; omega)
 exact ho.rowAt.mono (fun b _ hb => (ho.elem hb).1) (by decide)
abbrev Ent := Nat × K × Value
def insF : List Ent -> (Nat -> Bool) -> K -> Option Value
 | [], _, _ => none
 | e :: r, done, k => if done e.1 = true /\ k = e.2.1 then some e.2.2 else insF r done k
def cntD : List Ent -> (Nat -> Bool) -> Nat
 | [], _ => 0
 | e :: r, done => (done e.1).toNat + cntD r done
theorem insF_ne {l : List Ent} {done : Nat -> Bool} {i : Nat} (h : ∀ e ∈ l, e.1 ≠ i) : insF l (dn done i) = insF l done := by
 induction l with
 | nil => rfl
 | cons e r ih =>
  funext k
  simp only [insF]
  rw [dn_of_ne (fun h2 => h e (by simp) (by first | exact h2 | exact h2.symm)), ih (fun x hx => h x (by simp [hx]))]
theorem cntD_ne {l : List Ent} {done : Nat -> Bool} {i : Nat} (h : ∀ e ∈ l, e.1 ≠ i) : cntD l (dn done i) = cntD l done := by
 induction l with
 | nil => rfl
 | cons e r ih =>
  simp only [cntD]
  rw [dn_of_ne (fun h2 => h e (by simp) (by first | exact h2 | exact h2.symm)), ih (fun x hx => h x (by simp [hx]))]
theorem insF_none {l : List Ent} {done : Nat -> Bool} (h : ∀ e ∈ l, done e.1 = false) : insF l done = fun _ => none := by
 induction l with
 | nil => rfl
 | cons e r ih =>
  funext k
  simp only [insF]
  rw [h e (by simp), ih (fun x hx => h x (by simp [hx]))]
  simp
theorem cntD_none {l : List Ent} {done : Nat -> Bool} (h : ∀ e ∈ l, done e.1 = false) : cntD l done = 0 := by
 induction l with
 | nil => rfl
 | cons e r ih =>
  simp only [cntD]
  rw [h e (by simp), ih (fun x hx => h x (by simp [hx]))]
  rfl
theorem cntD_le (l : List Ent) (done : Nat -> Bool) : cntD l done ≤ l.length := by
 induction l with
 | nil => exact Nat.le_refl _
 | cons e r ih =>
  simp only [cntD, List.length_cons]
  have : (done e.1).toNat ≤ 1 := by cases done e.1 <;> decide
  omega
theorem insF_put {l : List Ent} {done : Nat -> Bool} {i : Nat} {k : K} {v : Value} (hm : (i, k, v) ∈ l) (hi : (l.map (·.1)).Nodup) (hk : (l.map (·.2.1)).Nodup) (hd : done i = false) :
  (insF l (dn done i) = fun z => if z = k then some v else insF l done z) /\ cntD l (dn done i) = cntD l done + 1 := by
 induction l with
 | nil => cases hm
 | cons e r ih =>
  simp only [List.map_cons, List.nodup_cons] at hi hk
  rcases List.mem_cons.1 hm with rfl | hm
  ·have hne : ∀ x ∈ r, x.1 ≠ i := fun x hx h => hi.1 (by rw [← h]; exact List.mem_map.2 ⟨x, hx, rfl⟩)
   constructor
   ·funext z
    simp only [insF]
    rw [dn_self, insF_ne hne, hd]
    by_cases h : z = k <;> simp [h]
   ·simp only [cntD]
    rw [dn_self, cntD_ne hne, hd]
    simp
    omega
  ·have hne : e.1 ≠ i := fun h => hi.1 (by rw [h]; exact List.mem_map.2 ⟨_, hm, rfl⟩)
   have hke : e.2.1 ≠ k := fun h => hk.1 (by rw [h]; exact List.mem_map.2 ⟨_, hm, rfl⟩)
   obtain ⟨h1, h2⟩ := ih hm hi.2 hk.2
   constructor
   ·funext z
    simp only [insF]
    rw [dn_of_ne (by first | exact hne | exact hne.symm), h1]
    by_cases h : z = k
    ·subst h
     simp [hke.symm]
    ·simp [h]
   ·simp only [cntD]
    rw [dn_of_ne (by first | exact hne | exact hne.symm), h2]
    omega
structure MH (B mk : Nat) (l : List Ent) (γ : Option Nat) (done : Nat -> Bool) (w : World) : Prop where
 iff : done mk = γ.isSome
 map : ∀ b, γ = some b -> B ≤ b /\ MapB w b (cntD l done) (insF l done)
section
variable {B mk : Nat} {l : List Ent} {γ : Option Nat} {done : Nat -> Bool} {w w' : World}
theorem MH.start (B mk : Nat) (l : List Ent) (w : World) : MH B mk l none (fun _ => false) w := ⟨rfl, fun b h => by cases h⟩
theorem MH.chg {S : Nat -> Prop} (h : MH B mk l γ done w) {i : Nat} (h5 : i ≠ mk) (hi : ∀ e ∈ l, e.1 ≠ i) (hc : Chg S w w') (hS : ∀ b n f, γ = some b -> MapB w b n f -> ¬ S b) : MH B mk l γ (dn done i) w' := by
 refine ⟨by rw [dn_of_ne (by first | exact h5 | exact h5.symm)]; exact h.iff, fun b hb => ?_⟩
 obtain ⟨h1, h2⟩ := h.map b hb
 rw [insF_ne hi, cntD_ne hi]
 exact ⟨h1, h2.chg hc (hS _ _ _ hb h2)⟩
theorem MH.other (h : MH B mk l γ done w) {i : Nat} (h5 : i ≠ mk) (hi : ∀ e ∈ l, e.1 ≠ i) (hc : Chg No w w') : MH B mk l γ (dn done i) w' := h.chg h5 hi hc (fun _ _ _ _ _ e => e)
theorem MH.noMap (h : MH B mk l γ done w) (hd : done mk = false) : γ = none := by
 have h1 := h.iff
 rw [hd] at h1
 cases γ with
 | none => rfl
 | some t => cases h1
theorem MH.lay (h : MH B mk l none done w) {l' : List Ent} (hs : B ≤ w.heap.size) (hn : ∀ e ∈ l', done e.1 = false /\ e.1 ≠ mk) : MH B mk l' (some w.heap.size) (dn done mk) (w.alloc (.map #[] 0)) := by
 refine ⟨by rw [dn_self]; rfl, fun b hb => ?_⟩
 cases hb
 have h1 : ∀ e ∈ l', dn done mk e.1 = false := fun e he => by rw [dn_of_ne (by first | exact (hn e he).2 | exact (hn e he).2.symm)]; exact (hn e he).1
 rw [insF_none h1, cntD_none h1]
 exact ⟨hs, MapB.made w⟩
theorem MH.put {b i : Nat} {k : K} {v : Value} (h : MH B mk l (some b) done w) (hm : (i, k, v) ∈ l) (hi : (l.map (·.1)).Nodup) (hk : (l.map (·.2.1)).Nodup) (hd : done i = false) (h5 : i ≠ mk)
  (hb : MapB w' b (cntD l done + 1) (fun z => if z = k then some v else insF l done z)) : MH B mk l (some b) (dn done i) w' := by
 refine ⟨by rw [dn_of_ne (by first | exact h5 | exact h5.symm)]; exact h.iff, fun b' hb' => ?_⟩
 cases hb'
 obtain ⟨h1, h2⟩ := insF_put hm hi hk hd
 rw [h1, h2]
 exact ⟨(h.map b rfl).1, hb⟩
theorem MH.tell {l' : List Ent} (h : MH B mk l γ done w) (h1 : insF l' done = insF l done) (h2 : cntD l' done = cntD l done) : MH B mk l' γ done w :=
 ⟨h.iff, fun b hb => by rw [h1, h2]; exact h.map b hb⟩
end
theorem cntD_lt (l : List Ent) (done : Nat -> Bool) (h : l.length < 100) : cntD l done < maxLen := by
 have := cntD_le l done
 unfold maxLen; omega
theorem valueIn_tab (N : Nat) (hN : N < 1099511627776) {bm nm : Nat} {fm : K -> Option Value} {kvs : T} (w : World) (dep : Nat) (hmb : MapB w bm nm fm) (hdom : ∀ k, (fm k).isSome = (get kvs k).isSome)
  (wf : Sorted kvs /\ kvs.length ≤ N /\ ∀ p ∈ kvs, kOk p.1 /\ True) (hd : dep < 4000)
  (hval : ∀ (k : K) (u : Value) (x : J), fm k = some u -> get kvs k = some x -> ∀ w1, Chg No w w1 -> Calls Tryz.prog 94 #[u, .int .i64 ((dep + 1 : Nat) : Int)] w1 (ValPost w1 x)) :
  Calls Tryz.prog 94 #[.iface 67 (.map (some bm)), .int .i64 (dep : Int)] w (ValPost w (.table kvs)) := by
 have hb0 := Blk.new w zero7 26
 have WF := Hd wf
 have HU := Hd hval
 have HD := Hd hd
 have hd5 : ¬ (4000 : Int) < (dep : Int) := by omega
 have hd3 : (dep : Int) + 1 ≤ 4001 := by omega
 clear wf hval hd
 have f4 := as67_4
 have f2 := as67_2
 have f22 := as67_22
 have f9 := as67_9
 have f151 := as67_151
 have f3 := as67_3
 have f120 := as67_120
 have f86 := as67_86
 have f67 := as67_67
 have hmb := hmb.fit hdom
 have hmn := run_mapNil
 obtain ⟨nk, hnk⟩ : ∃ nk, nk = kvs.length := ⟨_, rfl⟩
 rw [← hnk] at hmb
 have HNK := Hd hnk
 have HDOM := Hd hdom
 have HMB := Hd hmb
 have hbl := hmb.lt
 clear hdom hnk
 go_enter Tryz.func94, Tryz.ntmps94
 go_wp2_with (first | (at_range; refine wpList_rangeB rfl rfl rfl ((hmb.alloc _).alloc _) ?_; intro w0 cnt0 hrg0 hcn0 hc0 hs0; go_frame))
 obtain ⟨h, hh⟩ : ∃ h, h = w.heap.size + 1 := ⟨_, rfl⟩
 have hb1 := (Blk.newAt (w := w.alloc (.cells zero7.toArray 26)) (n := h) (by simp [hh]) (cells7 7 false 0 0 ⟨#[]⟩ (.slice none 0 0) (.slice none 0 0)) 26)
 obtain ⟨r, hr⟩ : ∃ r, r = w.heap.size + 1 + 1 := ⟨_, rfl⟩
 have hsz2 : ∀ o1 o2, ((w.alloc o1).alloc o2).heap.size = r := fun _ _ => by simp [hr]
 rw [hsz2] at hrg0 hs0
 rw [← hr]
 have HKC0 := Hd (show KC w h bm r nk fm w0 (fun k => (fm k).isSome) cnt0 (.slice none 0 0) [] from
  ⟨hrg0, by simpa using hcn0, OwnR.nil _ _ _ _, List.nodup_nil, fun k => (by cases h : fm k <;> simp), (((Chg.refl No w).alloc _).alloc _).trans' hc0, (hb0.alloc _).chg hc0 id, hb1.chg hc0 id, by omega, by omega, hbl⟩)
 rw [← hh]
 clear hb0 hb1 hh hr hsz2 hrg0 hcn0 hc0 hs0 hmb
 go_loopw [19] (fun _ wr => ∃ (left : K -> Bool) (cnt : Nat) (kv : Value) (ks : List K), KC w h bm r nk fm wr left cnt kv ks) (fun _ wr => wr.rangeLeft bm r)
 case atStart => exact ⟨_, _, _, _, HKC0.out⟩
 case round =>
  obtain ⟨left, cnt, kv, ks, hkc⟩ := hrel
  have HKC := Hd hkc
  have hrg := hkc.rng
  clear hkc HKC0
  go_wp2_with (first | (at_next; refine wpList_nextB rfl rfl rfl hrg ?_ ?_))
  ·intro hc0 hl0
   have HL0 := Hd hl0
   have hkc := HKC.out
   have c5 : wr.cell? ⟨h, 5, none⟩ = some kv := hkc.box.cell 5
   have HOWN := Hd hkc.own
   have hkl : ks.length < 1099511627776 := by have h1 := hkc.num; have h2 := WF.out.2.1; have h3 := HNK.out; omega
   clear hl0 hkc
   go_wp2_with fail
   refine (sort_keys HOWN.out hkl).mono ?_
   rintro e w1 ⟨rfl, ks', hperm, hsort, hown', hc1⟩
   have hks := HKC.out.keys HL0.out WF.out.1 HDOM.out hperm hsort
   subst hks
   obtain ⟨qa, qc, rfl⟩ : ∃ a c, kv = .slice a kvs.length c := by
    obtain ⟨-, -, a, c, e, -, -⟩ := hown'.rowAt
    exact ⟨a, c, by simpa using e⟩
   have HVL0 := Hd (show VL w h 7 (kvs.map (·.1)) (.slice qa kvs.length qc) (kvs.map (·.2)) w1 0 (.slice none 0 0) [] from
    ⟨Nat.zero_le _, OwnR.nil _ _ _ _, hown', rfl, fun i r x hr => by simp at hr, HKC.out.chg.trans hc1 (fun i hi e => by have := (HOWN.out.elem e).1; have := HKC.out.hw; omega),
     HKC.out.res.chg hc1 (fun e => by have := (HOWN.out.elem e).1; have := HKC.out.hw; omega), HKC.out.box.chg hc1 (fun e => by have := (HOWN.out.elem e).1; omega), HKC.out.hw⟩)
   have c51 : w1.cell? ⟨h, 5, none⟩ = some (.slice qa kvs.length qc) := HVL0.out.box.cell 5
   have hl1 : kvs.length ≤ 2 ^ 63 - 1 := by have := WF.out.2.1; omega
   clear hperm hsort hown' hc1 c5 HOWN hrg
   go_wp2_with fail
   clear c51
   go_loopw [124] (fun ct wr => ∃ (n : Nat) (lv : Value) (rows : List (List Value)), ct = .int .i64 n /\ VL w h 7 (kvs.map (·.1)) (.slice qa kvs.length qc) (kvs.map (·.2)) wr n lv rows) (fun ct _ => kvs.length - (intOf ct).toNat)
   case atStart => exact ⟨0, _, _, rfl, HVL0.out⟩
   case round =>
    obtain ⟨n, lv, rows, rfl, hvl⟩ := hrel
    have HVL := Hd hvl
    clear hvl HVL0
    by_cases hlt : n < kvs.length
    ·obtain ⟨p, hp⟩ : ∃ p, kvs[n]? = some p := ⟨_, List.getElem?_eq_getElem hlt⟩
     have HGET := Hd (mem_get WF.out.1 (List.mem_of_getElem? hp))
     obtain ⟨u, hfu⟩ : ∃ u, fm p.1 = some u := by
      have h1 := HDOM.out p.1
      rw [HGET.out] at h1
      cases hf : fm p.1 with
      | none => rw [hf] at h1; cases h1
      | some u => exact ⟨u, rfl⟩
     have HFU := Hd hfu
     have hrow := HVL.out.keys.rowAt
     obtain ⟨kb, ko, rfl, hkok, hkc⟩ := hrow.at (i := n) (r := [.string p.1]) (by simp [hp])
     have hkc := hkc.one
     simp only [Nat.mul_one] at hkc
     have h64 : (n : Int) < (kvs.length : Int) := Int.ofNat_lt.2 hlt
     have HUX := Hd (HU.out p.1 u p.2 hfu HGET.out)
     have HX := Hd (show (kvs.map (·.2))[n]? = some p.2 by simp [hp])
     have HP := Hd hp
     have hwrap : IntKind.i64.wrap ((dep : Int) + 1) = (dep : Int) + 1 := IntWalk.i64_in _ (by omega)
     have HB := Hd HVL.out.box.lt
     have HNB := Hd (show rows.length + 1 ≤ 1099511627776 by have h1 := HVL.out.len; have h2 := WF.out.2.1; omega)
     have HPK := Hd (show p.1.size ≤ maxLen by have h1 := (WF.out.2.2 _ (List.mem_of_getElem? hp)).1; unfold kOk at h1; unfold maxLen; omega)
     clear hfu hp hrow
     go_upto_region 50 with (fail)
     refine wp_region_inv (FI [.eq (.pointer (some ⟨h, 6, none⟩)), .eq lv, .eq (.map (some bm)), .eq (.string p.1), .eq u, .eq (.int .i64 (dep : Int)), .eq (.int .i64 ((dep : Int) + 1)), .val (fun b => wr.heap.size ≤ b) p.2, .tempV wr.heap.size p.2, .ownV h wr.heap.size lv rows p.2 HB.out, .eq (.pointer (some ⟨h, 6, none⟩)), .any])
      (fun done w' => VG h (fun l => cells7 7 false 0 0 ⟨#[]⟩ (.slice (some ⟨kb, ko, none⟩) kvs.length qc) l) lv rows p.2 wr w' (done 9) (done 11))
      (by kernel_rfl) (by kernel_rfl) (VG.start HVL.out.own HVL.out.box) ?_ ?_
     ·refine ⟨?_, ?_, ?_, ?_, ?_, ?_, ?_, ?_, ?_, ?_, ?_, ?_, trivial⟩
      ·intro done a w1 K hd qd qe qf qb hG hK
       have e18 : a.tmps[18]?.getD undef = .pointer (some ⟨h, 0, none⟩) := qf 18 rfl
       clear qd qe qf qb
       go_simp
       exact hK _ _ rfl (by simpa [dn] using hG) (fun _ _ _ _ h => h)
      ·intro done a w1 K hd qd qe qf qb hG hK
       have e128 : a.tmps[128]?.getD undef = .pointer (some ⟨h, 6, none⟩) := qe 0 128 rfl (qb 0 rfl)
       have nS : done 11 = false := by
        cases hh0 : done 11 with
        | false => rfl
        | true =>
         have hh1 := qd 11 9 rfl hh0
         have hh2 := qd 9 1 rfl hh1
         rw [hd] at hh2; cases hh2
       obtain ⟨l', hb, h1, -⟩ := hG.box
       obtain rfl : l' = lv := h1 nS
       have c6 : w1.cell? ⟨h, 6, none⟩ = some l' := hb.cell 6
       clear qd qe qf qb
       clear hb h1
       go_simp
       exact hK _ _ rfl (by simpa [dn] using hG) (fun _ _ _ _ h => h)
      ·intro done a w1 K hd qd qe qf qb hG hK
       have e17 : a.tmps[17]?.getD undef = .map (some bm) := qf 17 rfl
       clear qd qe qf qb
       go_simp
       exact hK _ _ rfl (by simpa [dn] using hG) (fun _ _ _ _ h => h)
      ·intro done a w1 K hd qd qe qf qb hG hK
       have e21 : a.tmps[21]?.getD undef = .string p.1 := qf 21 rfl
       clear qd qe qf qb
       go_simp
       exact hK _ _ rfl (by simpa [dn] using hG) (fun _ _ _ _ h => h)
      ·intro done a w1 K hd qd qe qf qb hG hK
       have e130 : a.tmps[130]?.getD undef = .map (some bm) := qe 2 130 rfl (qb 2 rfl)
       have e131 : a.tmps[131]?.getD undef = .string p.1 := qe 3 131 rfl (qb 3 rfl)
       have hm1 := (HMB.out.chg HVL.out.chg id).chg hG.chg (fun e => by rcases e with e | e; (have := HVL.out.hw; omega); (have := (hG.low _ e).1; have := HVL.out.hw; omega))
       refine if_wanted rfl ?_
       refine wp_lookB1 rfl (by simpa [Act.eval] using e130) hm1 (by simpa [Act.eval] using e131) HPK.out ?_
       rw [HFU.out]
       exact hK _ _ rfl (by simpa [dn] using hG) (fun _ _ _ _ h => h)
      ·intro done a w1 K hd qd qe qf qb hG hK
       have e1 : a.tmps[1]?.getD undef = .int .i64 (dep : Int) := qf 1 rfl
       clear qd qe qf qb
       go_simp
       exact hK _ _ rfl (by simpa [dn] using hG) (fun _ _ _ _ h => h)
      ·intro done a w1 K hd qd qe qf qb hG hK
       have e133 : a.tmps[133]?.getD undef = .int .i64 (dep : Int) := qe 5 133 rfl (qb 5 rfl)
       clear qd qe qf qb
       go_simp
       exact hK _ _ rfl (by simpa [dn] using hG) (fun _ _ _ _ h => h)
      ·intro done a w1 K hd qd qe qf qb hG hK
       have e132 : a.tmps[132]?.getD undef = u := qe 4 132 rfl (qb 4 rfl)
       have e134 : a.tmps[134]?.getD undef = .int .i64 ((dep : Int) + 1) := qe 6 134 rfl (qb 6 rfl)
       have hcall := HUX.out w1 (HVL.out.chg.trans hG.chg (fun i hi e => by rcases e with e | e; (have := HVL.out.hw; omega); (have := (hG.low i e).1; have := HVL.out.hw; omega)))
       rw [show ((dep + 1 : Nat) : Int) = (dep : Int) + 1 by omega] at hcall
       refine if_wanted rfl ?_
       refine wp_callV Tryz.call94 rfl (by simpa [Act.eval] using e132) (by simpa [Act.eval] using e134) hcall ?_
       rintro e w2 ⟨cs, rfl, hj, hc2⟩
       have hsz := hG.size
       exact ⟨_, rfl, hK _ _ ⟨cs, rfl, hj.mono (fun b _ hb => Nat.le_trans hsz hb)⟩ (by simpa [dn] using hG.chgNo hc2) (fun _ _ _ _ h => h.keepNo hc2)⟩
      ·intro done a w1 K hd qd qe qf qb hG hK
       obtain ⟨cs, e135, hj⟩ := qe 7 135 rfl (qb 7 rfl)
       refine if_wanted rfl ?_
       refine wp_build24V rfl (by simpa [Act.eval] using e135) hj.length ?_
       have hsz := hG.size
       refine hK _ _ ⟨_, cs, rfl, hsz, Blk.new _ cs _, hj.chg ((Chg.refl No _).alloc _) (fun _ _ e => e)⟩ (by simpa [dn] using hG.chgNo ((Chg.refl _ _).alloc _)) (fun _ _ _ _ h => h.keepNo ((Chg.refl _ _).alloc _))
      ·intro done a w1 K hd qd qe qf qb hG hK
       have e129 : a.tmps[129]?.getD undef = lv := qe 1 129 rfl (qb 1 rfl)
       obtain ⟨t, cs, e136, hlt, hbt, hj⟩ := qe 8 136 rfl (qb 8 rfl)
       have nS : done 11 = false := by
        cases hh0 : done 11 with
        | false => rfl
        | true =>
         have hh1 := qd 11 9 rfl hh0
         rw [hd] at hh1; cases hh1
       have hGs : VG h (fun l => cells7 7 false 0 0 ⟨#[]⟩ (.slice (some ⟨kb, ko, none⟩) kvs.length qc) l) lv rows p.2 wr w1 false false := by have h' := hG; rw [hd, nS] at h'; exact h'
       refine if_wanted rfl ?_
       refine wp_appendRows elem24 rfl (by simpa [Act.eval] using e129) (hGs.own rfl) (by simpa [Act.eval] using e136) (hbt.row1 hj.length) (by intro r hr; obtain rfl := List.mem_singleton.1 hr; exact hj.one) (by simp only [List.length_singleton]; have := HNB.out; omega) (by decide) (Nat.le_trans hGs.hB hGs.size) fun v' w' hO hC hB hOld => ?_
       have hown : OwnV h wr.heap.size lv rows p.2 v' w' := by
        have hj2 := hj.mono (ok' := fun b => wr.heap.size ≤ b /\ b < w1.heap.size) (fun b hb hb2 => ⟨hb2, hb⟩)
        have hj3 := hj2.chg hC (fun b hb e => by have := (hGs.low b e).2; have := hb.1; omega)
        refine ⟨cs, hO, hj3.mono (fun b _ hb => ⟨hb.1, fun e => ?_⟩), ?_⟩
        ·rcases hB with hB | hB
         ·have := (hGs.low b (hB ▸ e)).2; have := hb.1; omega
         ·have := hB b e; have := hb.2; omega
        ·rcases hB with hB | hB
         ·exact .inl hB
         ·exact .inr (fun k hk => Nat.le_trans hGs.size (hB k hk))
       have hGl := hGs.low
       refine hK v' w' hown (by have h' := hGs.app hC; simpa [dn, nS] using h') ?_
       refine fun j hj _ u' hu => hu.keep hC (safe_of (i := 9) (fun j hl hj => ?_) j hj)
       match j, hj with
       | 0, _ => exact trivial
       | 1, _ => exact trivial
       | 2, _ => exact trivial
       | 3, _ => exact trivial
       | 4, _ => exact trivial
       | 5, _ => exact trivial
       | 6, _ => exact trivial
       | 7, _ => exact fun b hb e => by have := (hGl b e).2; omega
       | 8, _ => exact fun k hk => (hGl k hk).2
       | 9, hj => exact absurd rfl hj
       | 10, _ => exact trivial
       | 11, _ => exact trivial
       | j + 12, _ => exact absurd hl (by simp)
      ·intro done a w1 K hd qd qe qf qb hG hK
       have e18 : a.tmps[18]?.getD undef = .pointer (some ⟨h, 0, none⟩) := qf 18 rfl
       clear qd qe qf qb
       go_simp
       exact hK _ _ rfl (by simpa [dn] using hG) (fun _ _ _ _ h => h)
      ·intro done a w1 K hd qd qe qf qb hG hK
       have e138 : a.tmps[138]?.getD undef = .pointer (some ⟨h, 6, none⟩) := qe 10 138 rfl (qb 10 rfl)
       have hO := qe 9 137 rfl (qb 9 rfl)
       change OwnV _ _ _ _ _ _ _ at hO
       obtain ⟨sa, sn, sc, hv⟩ := hO.choose_spec.1.slice
       rw [hv] at hO
       have e137 := hv
       have hGs : VG h (fun l => cells7 7 false 0 0 ⟨#[]⟩ (.slice (some ⟨kb, ko, none⟩) kvs.length qc) l) lv rows p.2 wr w1 true false := by have h' := hG; rw [qb 9 rfl, hd] at h'; exact h'
       obtain ⟨l', hb, -, -⟩ := hGs.box
       have c6 : w1.cell? ⟨h, 6, none⟩ = some l' := hb.cell 6
       have f6 : w1.frozen? ⟨h, 6, none⟩ = false := hb.frozen 6
       obtain ⟨hb2, hC, -⟩ := hb.setCell 6 (.slice sa sn sc)
       have HG2 := Hd (hGs.store hb2 hC hO)
       have HC2 := Hd hC
       have HD2 := Hd (qb 9 rfl)
       clear qd qe qf qb
       clear hv hG hGs hO hb hb2 hC
       go_simp
       refine hK undef _ trivial (by have h' := HG2.out; simpa [dn, HD2.out] using h') ?_
       have hC := HC2.out
       refine fun j hj _ u' hu => hu.keep hC (safe_of (i := 11) (fun j hl hj => ?_) j hj)
       match j, hj with
       | 0, _ => exact trivial
       | 1, _ => exact trivial
       | 2, _ => exact trivial
       | 3, _ => exact trivial
       | 4, _ => exact trivial
       | 5, _ => exact trivial
       | 6, _ => exact trivial
       | 7, _ => exact fun b hb e => by have := HB.out; omega
       | 8, _ => exact fun k hk => by have := HB.out; omega
       | 9, _ => exact fun k hk => by omega
       | 10, _ => exact trivial
       | 11, hj => exact absurd rfl hj
       | j + 12, _ => exact absurd hl (by simp)
     ·intro vs w2 hvs _ hG
      obtain ⟨lv', rows', hvl⟩ := HVL.out.step HX.out hG
      have HVL' := Hd hvl
      clear hvl hG hvs
      simp only [putAll, Act.put, List.setIfInBounds_toArray, List.set_cons_succ, List.set_cons_zero]
      go_wp2_with fail
      go_roundw
      case rel => exact ⟨n + 1, lv', rows', by go_num, HVL'.out⟩
      case measure => simp [intOf]; omega
    ·have hnl : n = kvs.length := Nat.le_antisymm (by have := HVL.out.le; simpa using this) (Nat.not_lt.1 hlt)
     subst hnl
     have hvl := HVL.out
     have hbx := hvl.box
     have hrs := hvl.res
     have hval := hvl.table
     have ho1 := hval.one
     have HVAL := Hd hval
     clear hvl hval
     go_wp2_with (first | (with_reducible refine wpList_loadAgg rfl agg26 rfl rfl hbx.cells rfl ?_) | (with_reducible refine wpList_storeBlk rfl agg26 rfl rfl rfl hrs rfl rfl ho1 ?_; intro w6 hb6 hc6 hs6))
     exact bodyPost_ret (results_blk rfl agg26 rfl hb6 rfl) rfl ⟨_, rfl, (HVAL.out.chg hc6 (fun b hb e => by have := HVL.out.hw; omega)).mono (fun b _ hb => by have := HVL.out.hw; omega), HVL.out.chg.trans hc6 (fun i hi e => absurd e (by omega))⟩
  ·intro k u w1 cnt1 hk hlk hfv hrg1 hlt hc1 hs1 hen
   have HKS := Hd (fun w6 kv' => HKC.out.step (w6 := w6) (kv' := kv') hlk hfv hrg1 hlt hc1)
   have hkc := HKC.out
   have hown := hkc.own.chg hc1 (fun i hi e => (hkc.rng.apart hkc.own hi).1 e)
   have c5 : w1.cell? ⟨h, 5, none⟩ = some kv := (hkc.box.chg hc1 (by have := hkc.hr; omega)).cell 5
   have hnb : (kRows ks).length + 1 ≤ 1099511627776 := by
    have h1 := hkc.num
    have h2 := WF.out.2.1
    have h3 := HNK.out
    simp only [kRows, List.length_map]
    omega
   have hbs : h + 1 ≤ w1.heap.size + 1 := by have h1 := hkc.hr; have h2 := hkc.rng.lt; omega
   have HLT := Hd hlt
   have HLE := Hd hkc.rng.left_eq
   clear hkc hlk hfv hrg1 hlt hc1 hs1 hrg
   go_wp2_with (first | (at_builtin; refine wpList_appendRows rfl elem23 rfl rfl (hown.alloc _) rfl (RowAt.one1 w1 [.string k] 9 1 rfl) (by simp [Value.oneCell']) hnb (by decide) (by simpa using hbs) ?_; intro kv' w6 hown' hc6 hv' hold; (obtain ⟨sa, sn, sc, rfl⟩ := hown'.slice); go_frame) | (refine wpList_setSlice rfl rfl rfl rfl Tryz.sizeOf23 (HKS.out w6 _ hc6 hown').1 (show 5 < 7 by decide) ?_; intro w7 hb7 hc7 hs7))
   go_frame
   have HK7 := Hd ((HKS.out w6 _ hc6 hown').2 w7 hb7 hc7)
   clear hown' hc6 hv' hold hown hb7 hc7
   go_roundw
   case rel => exact ⟨_, _, _, _, HK7.out⟩
   case measure => rw [HK7.out.rng.left_eq, HLE.out]; exact HLT.out
theorem as86_4 (v : Value) (w : World) : (Instr.typeAssert (.iface 86 v) 20 4 true).run Tryz.prog w = .ok (.tuple #[.bool false, .bool false]) w := by kernel_rfl
theorem as86_2 (v : Value) (w : World) : (Instr.typeAssert (.iface 86 v) 20 2 true).run Tryz.prog w = .ok (.tuple #[.int .i64 0, .bool false]) w := by kernel_rfl
theorem as86_22 (v : Value) (w : World) : (Instr.typeAssert (.iface 86 v) 20 22 true).run Tryz.prog w = .ok (.tuple #[.float .f64 0, .bool false]) w := by kernel_rfl
theorem as86_9 (v : Value) (w : World) : (Instr.typeAssert (.iface 86 v) 20 9 true).run Tryz.prog w = .ok (.tuple #[.string ByteArray.empty, .bool false]) w := by kernel_rfl
theorem as86_151 (v : Value) (w : World) : (Instr.typeAssert (.iface 86 v) 20 151 true).run Tryz.prog w = .ok (.tuple #[.slice none 0 0, .bool false]) w := by kernel_rfl
theorem as86_3 (v : Value) (w : World) : (Instr.typeAssert (.iface 86 v) 20 3 true).run Tryz.prog w = .ok (.tuple #[.int .i64 0, .bool false]) w := by kernel_rfl
theorem as86_120 (v : Value) (w : World) : (Instr.typeAssert (.iface 86 v) 20 120 true).run Tryz.prog w = .ok (.tuple #[.pointer none, .bool false]) w := by kernel_rfl
theorem as86_86 (v : Value) (w : World) : (Instr.typeAssert (.iface 86 v) 20 86 true).run Tryz.prog w = .ok (.tuple #[v, .bool true]) w := by kernel_rfl
theorem as120_4 (v : Value) (w : World) : (Instr.typeAssert (.iface 120 v) 20 4 true).run Tryz.prog w = .ok (.tuple #[.bool false, .bool false]) w := by kernel_rfl
theorem as120_2 (v : Value) (w : World) : (Instr.typeAssert (.iface 120 v) 20 2 true).run Tryz.prog w = .ok (.tuple #[.int .i64 0, .bool false]) w := by kernel_rfl
theorem as120_22 (v : Value) (w : World) : (Instr.typeAssert (.iface 120 v) 20 22 true).run Tryz.prog w = .ok (.tuple #[.float .f64 0, .bool false]) w := by kernel_rfl
theorem as120_9 (v : Value) (w : World) : (Instr.typeAssert (.iface 120 v) 20 9 true).run Tryz.prog w = .ok (.tuple #[.string ByteArray.empty, .bool false]) w := by kernel_rfl
theorem as120_151 (v : Value) (w : World) : (Instr.typeAssert (.iface 120 v) 20 151 true).run Tryz.prog w = .ok (.tuple #[.slice none 0 0, .bool false]) w := by kernel_rfl
theorem as120_3 (v : Value) (w : World) : (Instr.typeAssert (.iface 120 v) 20 3 true).run Tryz.prog w = .ok (.tuple #[.int .i64 0, .bool false]) w := by kernel_rfl
theorem as120_120 (v : Value) (w : World) : (Instr.typeAssert (.iface 120 v) 20 120 true).run Tryz.prog w = .ok (.tuple #[v, .bool true]) w := by kernel_rfl
theorem as3_4 (v : Value) (w : World) : (Instr.typeAssert (.iface 3 v) 20 4 true).run Tryz.prog w = .ok (.tuple #[.bool false, .bool false]) w := by kernel_rfl
theorem as3_2 (v : Value) (w : World) : (Instr.typeAssert (.iface 3 v) 20 2 true).run Tryz.prog w = .ok (.tuple #[.int .i64 0, .bool false]) w := by kernel_rfl
theorem as3_22 (v : Value) (w : World) : (Instr.typeAssert (.iface 3 v) 20 22 true).run Tryz.prog w = .ok (.tuple #[.float .f64 0, .bool false]) w := by kernel_rfl
theorem as3_9 (v : Value) (w : World) : (Instr.typeAssert (.iface 3 v) 20 9 true).run Tryz.prog w = .ok (.tuple #[.string ByteArray.empty, .bool false]) w := by kernel_rfl
theorem as3_151 (v : Value) (w : World) : (Instr.typeAssert (.iface 3 v) 20 151 true).run Tryz.prog w = .ok (.tuple #[.slice none 0 0, .bool false]) w := by kernel_rfl
theorem as3_3 (v : Value) (w : World) : (Instr.typeAssert (.iface 3 v) 20 3 true).run Tryz.prog w = .ok (.tuple #[v, .bool true]) w := by kernel_rfl
theorem valueIn_int (i : Int) (w : World) (dep : Nat) (hd : dep ≤ 4000) : Calls Tryz.prog 94 #[.iface 3 (.int .i64 i), .int .i64 (dep : Int)] w (ValPost w (.int i)) := by
 have f4 := as3_4
 have f2 := as3_2
 have f22 := as3_22
 have f9 := as3_9
 have f151 := as3_151
 have f3 := as3_3
 have hd5 : ¬ (4000 : Int) < (dep : Int) := by omega
 clear hd
 go_enter Tryz.func94, Tryz.ntmps94
 go_wp2
 exact bodyPost_ret (results_blk rfl agg26 rfl (Blk.new w (cells7 2 false i 0 ⟨#[]⟩ (.slice none 0 0) (.slice none 0 0)) 26) rfl) rfl ⟨_, rfl, .int (rowNil _ _ _) (rowNil _ _ _), (Chg.refl _ _).alloc _⟩
theorem valueIn_86 {m : Option Nat} {j : J} {w : World} (dep : Nat) (hd : dep ≤ 4000) (hc : Calls Tryz.prog 94 #[.iface 67 (.map m), .int .i64 (dep : Int)] (w.alloc (.cells zero7.toArray 26)) (ValPost (w.alloc (.cells zero7.toArray 26)) j)) :
  Calls Tryz.prog 94 #[.iface 86 (.map m), .int .i64 (dep : Int)] w (ValPost w j) := by
 have f4 := as86_4
 have f2 := as86_2
 have f22 := as86_22
 have f9 := as86_9
 have f151 := as86_151
 have f3 := as86_3
 have f120 := as86_120
 have f86 := as86_86
 have hd5 : ¬ (4000 : Int) < (dep : Int) := by omega
 have HC := Hd hc
 have hb := Blk.new w zero7 26
 clear hc hd
 go_enter Tryz.func94, Tryz.ntmps94
 go_wp2_with fail
 refine HC.out.mono ?_
 rintro e w1 ⟨cs, rfl, hj, hc⟩
 have hb1 := hb.chg hc id
 have hl := hj.length
 have ho := hj.one
 have HJ := Hd hj
 clear hj
 go_wp2_with (first | (with_reducible refine wpList_storeBlk rfl agg26 rfl rfl rfl hb1 rfl hl ho ?_; intro w6 hb6 hc6 hs6))
 refine bodyPost_ret (results_blk rfl agg26 rfl hb6 hl) rfl ⟨_, rfl, ?_, (((Chg.refl No w).alloc _).trans' hc).trans hc6 (fun i hi e => absurd e (by omega))⟩
 refine ((HJ.out.chg hc6 (fun b hb e => ?_)).mono (fun b _ hb => ?_))
 ·simp at hb; omega
 ·simp at hb; omega
def nameK : K := ⟨#[78, 97, 109, 101]⟩
def verK : K := ⟨#[86, 101, 114, 115, 105, 111, 110]⟩
theorem nameK_ne : nameK ≠ verK := by decide
def kvsT (name ver : K) : T := [(nameK, .text name), (verK, .text ver)]
def jT (name ver : K) : J := .table (kvsT name ver)
def entT (name ver : K) : List Ent := [(6, nameK, .iface 9 (.string name)), (12, verK, .iface 9 (.string ver))]
theorem jT_wf {name ver : K} (h1 : kOk name) (h2 : kOk ver) : Wf 400 3 (jT name ver) := by
 have hk1 : kOk nameK := by unfold kOk nameK; decide
 have hk2 : kOk verK := by unfold kOk verK; decide
 refine ⟨?_, by simp [kvsT], ?_⟩
 ·simp only [kvsT, Sorted, List.pairwise_cons, List.mem_cons, List.not_mem_nil, or_false, forall_eq]
  exact ⟨by unfold klt nameK verK; decide, by simp, List.Pairwise.nil⟩
 ·intro p hp
  simp only [kvsT, List.mem_cons, List.not_mem_nil, or_false] at hp
  rcases hp with rfl | rfl
  ·exact ⟨hk1, trivial⟩
  ·exact ⟨hk2, trivial⟩
structure GT (B g : Nat) (l : List Ent) (j : J) (wr : World) (γ : Option Nat) (done : Nat -> Bool) (w : World) : Prop where
 mh : MH B 0 l γ done w
 chg : Chg (fun b => b = g) wr w
 box : ∃ cs, Blk w g cs 26 /\ cs.length = 7 /\ (done 17 = true -> ValJ (fun x => B ≤ x) w cs j)
 hB : g < B /\ B = wr.heap.size
section
variable {B g : Nat} {name ver : K} {j : J} {wr : World} {γ : Option Nat} {done : Nat -> Bool} {w w' : World}
theorem GT.start {l : List Ent} (hB : g < B /\ B = wr.heap.size) {cs : List Value} (hb : Blk wr g cs 26 /\ cs.length = 7) : GT B g l j wr none (fun _ => false) wr.drew :=
 ⟨MH.start _ _ _ _, (Chg.refl _ wr).drew, ⟨cs, hb.1.drew, hb.2, fun e => by cases e⟩, hB⟩
theorem GT.other (h : GT B g (entT name ver) j wr γ done w) {i : Nat} (hi : i ≠ 0 /\ i ≠ 6 /\ i ≠ 12 /\ i ≠ 17) (hc : Chg No w w') : GT B g (entT name ver) j wr γ (dn done i) w' := by
 obtain ⟨cs, h1, h2, h3⟩ := h.box
 refine ⟨h.mh.other hi.1 (fun e he => ?_) hc, h.chg.trans' hc, ⟨cs, h1.chg hc id, h2, fun e => ?_⟩, h.hB⟩
 ·simp only [entT, List.mem_cons, List.not_mem_nil, or_false] at he
  rcases he with rfl | rfl
  ·exact hi.2.1.symm
  ·exact hi.2.2.1.symm
 ·rw [dn_of_ne hi.2.2.2] at e
  exact (h3 e).chg hc (fun _ _ e => e)
theorem GT.lay (h : GT B g (entT name ver) j wr none done w) (n6 : done 6 = false) (n12 : done 12 = false) : GT B g (entT name ver) j wr (some w.heap.size) (dn done 0) (w.alloc (.map #[] 0)) := by
 obtain ⟨cs, h1, h2, h3⟩ := h.box
 have hc := (Chg.refl No w).alloc (.map #[] 0)
 refine ⟨h.mh.lay (by have := h.hB; have := h.chg.size; omega) (fun e he => ?_), h.chg.trans' hc, ⟨cs, h1.alloc _, h2, fun e => ?_⟩, h.hB⟩
 ·simp only [entT, List.mem_cons, List.not_mem_nil, or_false] at he
  rcases he with rfl | rfl
  ·exact ⟨n6, by simp⟩
  ·exact ⟨n12, by simp⟩
 ·rw [dn_of_ne (by decide)] at e
  exact (h3 e).chg hc (fun _ _ e => e)
theorem GT.put {b i : Nat} {k : K} {v : Value} (h : GT B g (entT name ver) j wr (some b) done w) (hm : (i, k, v) ∈ entT name ver) (h0 : i ≠ 0) (h17 : i ≠ 17) (n17 : done 17 = false) (hd : done i = false) (hmb : MapB w' b (cntD (entT name ver) done + 1) (fun z => if z = k then some v else insF (entT name ver) done z)) (hc : Chg (· = b) w w') : GT B g (entT name ver) j wr (some b) (dn done i) w' := by
 obtain ⟨cs, h1, h2, h3⟩ := h.box
 obtain ⟨hbl, hb0⟩ := h.mh.map b rfl
 have hbg : g ≠ b := by have := h.hB; omega
 refine ⟨h.mh.put hm (by simp [entT]) (by simp [entT, nameK_ne]) hd h0 hmb, h.chg.trans hc (fun x hx e => by have e1 : x = b := e; have := h.hB; have := hbl; omega), ⟨cs, h1.chg hc hbg, h2, fun e => ?_⟩, h.hB⟩
 rw [dn_of_ne h17, n17] at e
 cases e
theorem GT.put6 {b : Nat} (h : GT B g (entT name ver) j wr (some b) done w) (hd : done 6 = false) (n17 : done 17 = false) (hmb : MapB w' b (cntD (entT name ver) done + 1) (fun z => if z = nameK then some (.iface 9 (.string name)) else insF (entT name ver) done z)) (hc : Chg (· = b) w w') : GT B g (entT name ver) j wr (some b) (dn done 6) w' :=
 h.put (by simp [entT]) (by decide) (by decide) n17 hd hmb hc
theorem GT.put12 {b : Nat} (h : GT B g (entT name ver) j wr (some b) done w) (hd : done 12 = false) (n17 : done 17 = false) (hmb : MapB w' b (cntD (entT name ver) done + 1) (fun z => if z = verK then some (.iface 9 (.string ver)) else insF (entT name ver) done z)) (hc : Chg (· = b) w w') : GT B g (entT name ver) j wr (some b) (dn done 12) w' :=
 h.put (by simp [entT]) (by decide) (by decide) n17 hd hmb hc
theorem GT.store {cs : List Value} (h : GT B g (entT name ver) j wr γ done w) (hb : Blk w' g cs 26) (hc : Chg (· = g) w w') (hj : ValJ (fun x => B ≤ x) w cs j) : GT B g (entT name ver) j wr γ (dn done 17) w' := by
 refine ⟨h.mh.chg (by decide) (fun e he => ?_) hc (fun b n f hb2 hm e => ?_), h.chg.trans hc (fun _ _ e => e), ⟨cs, hb, hj.length, fun _ => hj.chg hc (fun b hb e => by have e1 : b = g := e; have := h.hB; omega)⟩, h.hB⟩
 ·simp only [entT, List.mem_cons, List.not_mem_nil, or_false] at he
  rcases he with rfl | rfl <;> simp
 ·have e1 : b = g := e
  have := (h.mh.map b hb2).1
  have := h.hB
  omega
theorem GT.any {b : Nat} (h : GT B g (entT name ver) j wr (some b) done w) (h6 : done 6 = true) (h12 : done 12 = true) : AnyJ (fun _ => True) w (.iface 67 (.map (some b))) (jT name ver) := by
 obtain ⟨-, hm⟩ := h.mh.map b rfl
 have hf : insF (entT name ver) done = fun k => if k = nameK then some (.iface 9 (.string name)) else if k = verK then some (.iface 9 (.string ver)) else none := by
  funext k
  simp [insF, entT, h6, h12]
 rw [hf] at hm
 refine .table hm trivial (fun k => ?_) (fun k u x hu hx => ?_)
 ·simp only [kvsT, get, eq_comm (b := k)]
  by_cases h1 : k = nameK
  ·simp [h1]
  ·by_cases h2 : k = verK
   ·simp [h1, h2, Ne.symm nameK_ne]
   ·simp [h1, h2]
 ·simp only [kvsT, get, eq_comm (b := k)] at hx
  by_cases h1 : k = nameK
  ·simp only [if_pos h1] at hu hx; cases hu; cases hx; exact .text
  ·by_cases h2 : k = verK
   ·simp only [if_neg h1, if_pos h2] at hu hx; cases hu; cases hx; exact .text
   ·simp only [if_neg h1, if_neg h2] at hu; cases hu
end
theorem valueIn_120 {pm : Nat} {name ver : K} {wv : Value} (w : World) (dep : Nat) (hd : dep ≤ 3900) (hb : Blk w pm [.string name, .string ver, wv] 122) (h1 : kOk name) (h2 : kOk ver) :
  Calls Tryz.prog 94 #[.iface 120 (.pointer (some ⟨pm, 0, none⟩)), .int .i64 (dep : Int)] w (ValPost w (jT name ver)) := by
 have f4 := as120_4
 have f2 := as120_2
 have f22 := as120_22
 have f9 := as120_9
 have f151 := as120_151
 have f3 := as120_3
 have f120 := as120_120
 have hd5 : ¬ (4000 : Int) < (dep : Int) := by omega
 have HDEP := Hd (show dep + 3 ≤ 4001 by omega)
 have HN1 := Hd h1
 have HN2 := Hd h2
 have hlt := hb.lt
 have hfacts : ∀ wr, w.alloc (.cells zero7.toArray 26) = wr -> Blk wr pm [.string name, .string ver, wv] 122 /\ Blk wr w.heap.size zero7 26 /\ Chg No w wr /\ wr.heap.size = w.heap.size + 1 := by
  rintro wr rfl
  exact ⟨hb.alloc _, Blk.new _ _ _, (Chg.refl No w).alloc _, by simp⟩
 have HF := Hd hfacts
 have HLT := Hd hlt
 clear hd hb h1 h2 hlt hfacts
 go_enter Tryz.func94, Tryz.ntmps94
 go_upto_region 33 with fail
 generalize hgw : World.alloc _ _ = wr
 obtain ⟨hp, hg, hc, hs⟩ := HF.out wr hgw
 clear hgw HF
 obtain ⟨g, hge⟩ : ∃ g, g = w.heap.size := ⟨_, rfl⟩
 rw [← hge] at hg hs ⊢
 have HPM := Hd hp
 have HB := Hd (show g < wr.heap.size /\ wr.heap.size = wr.heap.size by omega)
 have HBR := Hd (show Blk wr g zero7 26 /\ zero7.length = 7 from ⟨hg, rfl⟩)
 have HCW := Hd hc
 have HGE := Hd hge
 have HNP := Hd (show ¬ pm = g by have := HLT.out; omega)
 clear hp hg hc hs hge
 refine wp_region_ghost (fun γ => FI [.mapG γ, .eq (.pointer (some ⟨pm, 0, none⟩)), .eq (.pointer (some ⟨pm, 0, none⟩)), .eq (.pointer (some ⟨pm, 0, none⟩)), .eq (.string name), .eq (.iface 9 (.string name)), .any, .eq (.pointer (some ⟨pm, 0, none⟩)), .eq (.pointer (some ⟨pm, 0, none⟩)), .eq (.pointer (some ⟨pm, 1, none⟩)), .eq (.string ver), .eq (.iface 9 (.string ver)), .any, .mapG γ, .ifM γ, .eq (.int .i64 (dep : Int)), .val (fun x => wr.heap.size ≤ x) (jT name ver), .any])
  (fun γ done w' => GT wr.heap.size g (entT name ver) (jT name ver) wr γ done w') (by kernel_rfl) (by kernel_rfl) none (GT.start HB.out HBR.out) ?_ ?_
 ·refine ⟨?_, ?_, ?_, ?_, ?_, ?_, ?_, ?_, ?_, ?_, ?_, ?_, ?_, ?_, ?_, ?_, ?_, ?_, trivial⟩
  ·intro γ done a w1 K hd qd qe qf qb hG hK
   have hnone := hG.mh.noMap hd
   subst hnone
   have n6 : done 6 = false := by
    cases hh0 : done 6 with
    | false => rfl
    | true => have := qd 6 0 rfl hh0; rw [hd] at this; cases this
   have n12 : done 12 = false := by
    cases hh0 : done 12 with
    | false => rfl
    | true => have := qd 12 0 rfl hh0; rw [hd] at this; cases this
   have hmk := run_makeMap67n
   have HLAY := Hd (hG.lay n6 n12)
   have HCL := Hd qd
   have HD0 := Hd hd
   clear qe qf qb n6 n12 qd
   go_simp
   have qd := HCL.out
   refine hK (some w1.heap.size) _ _ ⟨_, rfl, rfl⟩ HLAY.out ?_
   refine fun j hj hdj u hu => ?_
   match j, hj with
   | 0, hj => exact absurd rfl hj
   | 1, _ => exact hu.keepNo ((Chg.refl No w1).alloc _)
   | 2, _ => exact hu.keepNo ((Chg.refl No w1).alloc _)
   | 3, _ => exact hu.keepNo ((Chg.refl No w1).alloc _)
   | 4, _ => exact hu.keepNo ((Chg.refl No w1).alloc _)
   | 5, _ => exact hu.keepNo ((Chg.refl No w1).alloc _)
   | 6, _ => exact hu.keepNo ((Chg.refl No w1).alloc _)
   | 7, _ => exact hu.keepNo ((Chg.refl No w1).alloc _)
   | 8, _ => exact hu.keepNo ((Chg.refl No w1).alloc _)
   | 9, _ => exact hu.keepNo ((Chg.refl No w1).alloc _)
   | 10, _ => exact hu.keepNo ((Chg.refl No w1).alloc _)
   | 11, _ => exact hu.keepNo ((Chg.refl No w1).alloc _)
   | 12, _ => exact hu.keepNo ((Chg.refl No w1).alloc _)
   | 13, _ => exact absurd (qd 13 0 rfl (hdj)) (by rw [HD0.out]; decide)
   | 14, _ => exact absurd (qd 13 0 rfl (qd 14 13 rfl (hdj))) (by rw [HD0.out]; decide)
   | 15, _ => exact hu.keepNo ((Chg.refl No w1).alloc _)
   | 16, _ => exact hu.keepNo ((Chg.refl No w1).alloc _)
   | 17, _ => exact hu.keepNo ((Chg.refl No w1).alloc _)
   | j + 18, _ => exact hu.keepNo ((Chg.refl No w1).alloc _)
  ·intro γ done a w1 K hd qd qe qf qb hG hK
   have e15 : a.tmps[15]?.getD undef = .pointer (some ⟨pm, 0, none⟩) := qf 15 rfl
   clear qd qe qf qb
   go_simp
   exact hK γ _ _ rfl (hG.other (by decide) (Chg.refl No _)) (fun _ _ _ _ h => h)
  ·intro γ done a w1 K hd qd qe qf qb hG hK
   have e78 : a.tmps[78]?.getD undef = .pointer (some ⟨pm, 0, none⟩) := qe 1 78 rfl (qb 1 rfl)
   clear qd qe qf qb
   go_simp
   exact hK γ _ _ rfl (hG.other (by decide) (Chg.refl No _)) (fun _ _ _ _ h => h)
  ·intro γ done a w1 K hd qd qe qf qb hG hK
   have e79 : a.tmps[79]?.getD undef = .pointer (some ⟨pm, 0, none⟩) := qe 2 79 rfl (qb 2 rfl)
   clear qd qe qf qb
   go_simp
   exact hK γ _ _ rfl (hG.other (by decide) (Chg.refl No _)) (fun _ _ _ _ h => h)
  ·intro γ done a w1 K hd qd qe qf qb hG hK
   have e80 : a.tmps[80]?.getD undef = .pointer (some ⟨pm, 0, none⟩) := qe 3 80 rfl (qb 3 rfl)
   have c0 : w1.cell? ⟨pm, 0, none⟩ = some (.string name) := (HPM.out.chg hG.chg HNP.out).cell 0
   clear qd qe qf qb
   go_simp
   exact hK γ _ _ rfl (hG.other (by decide) (Chg.refl No _)) (fun _ _ _ _ h => h)
  ·intro γ done a w1 K hd qd qe qf qb hG hK
   have e81 : a.tmps[81]?.getD undef = .string name := qe 4 81 rfl (qb 4 rfl)
   clear qd qe qf qb
   go_simp
   exact hK γ _ _ rfl (hG.other (by decide) (Chg.refl No _)) (fun _ _ _ _ h => h)
  ·intro γ done a w1 K hd qd qe qf qb hG hK
   have ni := hd
   have n17 : done 17 = false := by
    cases hh0 : done 17 with
    | false => rfl
    | true =>
     have hh1 := qd 17 16 rfl hh0
     have hh2 := qd 16 14 rfl hh1
     have hh3 := qd 14 13 rfl hh2
     have hh4 := qd 13 6 rfl hh3
     rw [hd] at hh4; cases hh4
   obtain ⟨b, hγ, e77⟩ := qe 0 77 rfl (qb 0 rfl)
   have e82 : a.tmps[82]?.getD undef = .iface 9 (.string name) := qe 5 82 rfl (qb 5 rfl)
   subst hγ
   obtain ⟨hbl, hmb⟩ := hG.mh.map b rfl
   refine if_wanted rfl ?_
   refine wp_insertB rfl (by simpa [Act.eval] using e77) hmb (cntD_lt _ _ (by simp [entT])) (k := nameK) rfl (by unfold nameK maxLen; decide) (by simpa [Act.eval] using e82) ?_
   intro w2 hmb2 hc2 hs2
   refine hK (some b) undef _ trivial (hG.put6 hd n17 hmb2 hc2) ?_
   refine fun j hj hdj u hu => ?_
   match j, hj with
   | 0, _ => exact hu.keep hc2 trivial
   | 1, _ => exact hu.keep hc2 trivial
   | 2, _ => exact hu.keep hc2 trivial
   | 3, _ => exact hu.keep hc2 trivial
   | 4, _ => exact hu.keep hc2 trivial
   | 5, _ => exact hu.keep hc2 trivial
   | 6, hj => exact absurd rfl hj
   | 7, _ => exact hu.keep hc2 trivial
   | 8, _ => exact hu.keep hc2 trivial
   | 9, _ => exact hu.keep hc2 trivial
   | 10, _ => exact hu.keep hc2 trivial
   | 11, _ => exact hu.keep hc2 trivial
   | 12, _ => exact hu.keep hc2 trivial
   | 13, _ => exact hu.keep hc2 trivial
   | 14, _ => exact hu.keep hc2 trivial
   | 15, _ => exact hu.keep hc2 trivial
   | 16, _ => exact absurd (qd 13 6 rfl (qd 14 13 rfl (qd 16 14 rfl (hdj)))) (by rw [ni]; decide)
   | 17, _ => exact hu.keep hc2 trivial
   | j + 18, _ => exact hu.keep hc2 trivial
  ·intro γ done a w1 K hd qd qe qf qb hG hK
   have e15 : a.tmps[15]?.getD undef = .pointer (some ⟨pm, 0, none⟩) := qf 15 rfl
   clear qd qe qf qb
   go_simp
   exact hK γ _ _ rfl (hG.other (by decide) (Chg.refl No _)) (fun _ _ _ _ h => h)
  ·intro γ done a w1 K hd qd qe qf qb hG hK
   have e83 : a.tmps[83]?.getD undef = .pointer (some ⟨pm, 0, none⟩) := qe 7 83 rfl (qb 7 rfl)
   clear qd qe qf qb
   go_simp
   exact hK γ _ _ rfl (hG.other (by decide) (Chg.refl No _)) (fun _ _ _ _ h => h)
  ·intro γ done a w1 K hd qd qe qf qb hG hK
   have e84 : a.tmps[84]?.getD undef = .pointer (some ⟨pm, 0, none⟩) := qe 8 84 rfl (qb 8 rfl)
   clear qd qe qf qb
   go_simp
   exact hK γ _ _ rfl (hG.other (by decide) (Chg.refl No _)) (fun _ _ _ _ h => h)
  ·intro γ done a w1 K hd qd qe qf qb hG hK
   have e85 : a.tmps[85]?.getD undef = .pointer (some ⟨pm, 1, none⟩) := qe 9 85 rfl (qb 9 rfl)
   have c0 : w1.cell? ⟨pm, 1, none⟩ = some (.string ver) := (HPM.out.chg hG.chg HNP.out).cell 1
   clear qd qe qf qb
   go_simp
   exact hK γ _ _ rfl (hG.other (by decide) (Chg.refl No _)) (fun _ _ _ _ h => h)
  ·intro γ done a w1 K hd qd qe qf qb hG hK
   have e86 : a.tmps[86]?.getD undef = .string ver := qe 10 86 rfl (qb 10 rfl)
   clear qd qe qf qb
   go_simp
   exact hK γ _ _ rfl (hG.other (by decide) (Chg.refl No _)) (fun _ _ _ _ h => h)
  ·intro γ done a w1 K hd qd qe qf qb hG hK
   have ni := hd
   have n17 : done 17 = false := by
    cases hh0 : done 17 with
    | false => rfl
    | true =>
     have hh1 := qd 17 16 rfl hh0
     have hh2 := qd 16 14 rfl hh1
     have hh3 := qd 14 13 rfl hh2
     have hh4 := qd 13 12 rfl hh3
     rw [hd] at hh4; cases hh4
   obtain ⟨b, hγ, e77⟩ := qe 0 77 rfl (qb 0 rfl)
   have e87 : a.tmps[87]?.getD undef = .iface 9 (.string ver) := qe 11 87 rfl (qb 11 rfl)
   subst hγ
   obtain ⟨hbl, hmb⟩ := hG.mh.map b rfl
   refine if_wanted rfl ?_
   refine wp_insertB rfl (by simpa [Act.eval] using e77) hmb (cntD_lt _ _ (by simp [entT])) (k := verK) rfl (by unfold verK maxLen; decide) (by simpa [Act.eval] using e87) ?_
   intro w2 hmb2 hc2 hs2
   refine hK (some b) undef _ trivial (hG.put12 hd n17 hmb2 hc2) ?_
   refine fun j hj hdj u hu => ?_
   match j, hj with
   | 0, _ => exact hu.keep hc2 trivial
   | 1, _ => exact hu.keep hc2 trivial
   | 2, _ => exact hu.keep hc2 trivial
   | 3, _ => exact hu.keep hc2 trivial
   | 4, _ => exact hu.keep hc2 trivial
   | 5, _ => exact hu.keep hc2 trivial
   | 6, _ => exact hu.keep hc2 trivial
   | 7, _ => exact hu.keep hc2 trivial
   | 8, _ => exact hu.keep hc2 trivial
   | 9, _ => exact hu.keep hc2 trivial
   | 10, _ => exact hu.keep hc2 trivial
   | 11, _ => exact hu.keep hc2 trivial
   | 12, hj => exact absurd rfl hj
   | 13, _ => exact hu.keep hc2 trivial
   | 14, _ => exact hu.keep hc2 trivial
   | 15, _ => exact hu.keep hc2 trivial
   | 16, _ => exact absurd (qd 13 12 rfl (qd 14 13 rfl (qd 16 14 rfl (hdj)))) (by rw [ni]; decide)
   | 17, _ => exact hu.keep hc2 trivial
   | j + 18, _ => exact hu.keep hc2 trivial
  ·intro γ done a w1 K hd qd qe qf qb hG hK
   obtain ⟨b, hγ, e77⟩ := qe 0 77 rfl (qb 0 rfl)
   clear qd qe qf qb
   go_simp
   exact hK γ _ _ ⟨b, hγ, rfl⟩ (hG.other (by decide) (Chg.refl No _)) (fun _ _ _ _ h => h)
  ·intro γ done a w1 K hd qd qe qf qb hG hK
   obtain ⟨b, hγ, e88⟩ := qe 13 88 rfl (qb 13 rfl)
   clear qd qe qf qb
   go_simp
   exact hK γ _ _ ⟨b, hγ, rfl⟩ (hG.other (by decide) (Chg.refl No _)) (fun _ _ _ _ h => h)
  ·intro γ done a w1 K hd qd qe qf qb hG hK
   have e1 : a.tmps[1]?.getD undef = .int .i64 (dep : Int) := qf 1 rfl
   clear qd qe qf qb
   go_simp
   exact hK γ _ _ rfl (hG.other (by decide) (Chg.refl No _)) (fun _ _ _ _ h => h)
  ·intro γ done a w1 K hd qd qe qf qb hG hK
   obtain ⟨b, hγ, e89⟩ := qe 14 89 rfl (qb 14 rfl)
   have e90 : a.tmps[90]?.getD undef = .int .i64 (dep : Int) := qe 15 90 rfl (qb 15 rfl)
   have h13 := qd 14 13 rfl (qb 14 rfl)
   have h6 := qd 13 6 rfl h13
   have h12 := qd 13 12 rfl h13
   refine if_wanted rfl ?_
   subst hγ
   refine wp_callV Tryz.call94 rfl (by simpa [Act.eval] using e89) (by simpa [Act.eval] using e90) (valueIn_any 400 (by decide) 3 (fun _ => True) (jT name ver) (.iface 67 (.map (some b))) w1 dep (hG.any h6 h12) (jT_wf HN1.out HN2.out) HDEP.out) ?_
   rintro e w2 ⟨cs, rfl, hj, hc⟩
   exact ⟨_, rfl, hK _ _ _ ⟨cs, rfl, hj.mono (fun b _ h => Nat.le_trans hG.chg.size h)⟩ (hG.other (by decide) hc) (fun _ _ _ _ h => h.keepNo hc)⟩
  ·intro γ done a w1 K hd qd qe qf qb hG hK
   have e4 : a.tmps[4]?.getD undef = .pointer (some ⟨g, 0, none⟩) := qf 4 rfl
   obtain ⟨cs, e91, hj⟩ : ∃ cs : List Value, a.tmps[91]?.getD undef = .agg cs.toArray /\ ValJ (fun x => wr.heap.size ≤ x) w1 cs (jT name ver) := qe 16 91 rfl (qb 16 rfl)
   obtain ⟨c0, hb0, hl0, -⟩ := hG.box
   refine if_wanted rfl ?_
   refine wp_storeBlk agg26 rfl (by simpa [Act.eval] using e4) (by simpa [Act.eval] using e91) hb0 hl0 hj.length hj.one ?_
   intro w2 hb2 hb2c hs2
   refine hK γ undef _ trivial (hG.store hb2 hb2c hj) ?_
   refine fun j hj _ u hu => hu.keep hb2c (safe_of (i := 17) (fun j hl hj => ?_) j hj)
   match j, hj with
   | 0, _ => exact trivial
   | 1, _ => exact trivial
   | 2, _ => exact trivial
   | 3, _ => exact trivial
   | 4, _ => exact trivial
   | 5, _ => exact trivial
   | 6, _ => exact trivial
   | 7, _ => exact trivial
   | 8, _ => exact trivial
   | 9, _ => exact trivial
   | 10, _ => exact trivial
   | 11, _ => exact trivial
   | 12, _ => exact trivial
   | 13, _ => exact trivial
   | 14, _ => exact trivial
   | 15, _ => exact trivial
   | 16, _ => exact fun q hq e => by have e1 : q = g := e; have := HB.out; omega
   | 17, hj => exact absurd rfl hj
   | j + 18, _ => exact absurd hl (by simp)
 ·intro γ vs w2 hvs hvn hG
  obtain ⟨cs, hb, hl, hj⟩ := hG.box
  have hj := hj rfl
  have HCG := Hd hG.chg
  clear hvs hvn hG
  simp only [putAll, Act.put, List.setIfInBounds_toArray, List.set_cons_succ, List.set_cons_zero]
  go_wp2_with fail
  refine bodyPost_ret (results_blk rfl agg26 rfl hb hl) rfl ⟨_, rfl, hj.mono (fun b _ hb => by have := HB.out; have := HGE.out; omega), HCW.out.trans HCG.out (fun x hx e => by have e1 : x = g := e; have := HGE.out; omega)⟩
def ChW (U : List K) (N D : Nat) : Nat -> Ch -> Prop
 | 0, _ => False
 | h + 1, c => kOk c.name /\ c.name ∈ U /\ c.name ≠ gK /\ (∀ t, c.vals = .table t -> WU U N D (.table t) /\ ShalA (.table t)) /\ (c.deps.map Ch.name).Nodup /\ ∀ d ∈ c.deps, ChW U N D h d
def AllPost (U : List K) (N : Nat) (ok Sa : Nat -> Prop) (w : World) (ba : Nat) : Option T -> Ending -> World -> Prop
 | none, e, w' => (∃ mv b, e = .returned (.tuple #[mv, .iface 175 (.pointer (some ⟨b, 0, none⟩))])) /\ Chg Sa w w'
 | some t, e, w' => e = .returned (.tuple #[.map (some ba), .nilIface]) /\ OwnJ ok Sa w w' (.iface 67 (.map (some ba))) (.table t) /\ ∃ E, WU U N E (.table t)
theorem OwnJ.full {ok Sa : Nat -> Prop} {w w' : World} {v : Value} {j : J} (h : OwnJ ok Sa w w' v j) (hnok : ∀ x, Sa x -> ¬ ok x) :
  ∃ R S, AnyO R w' v j S /\ (∀ x, R x -> x < w'.heap.size /\ (okB ok w x ∨ w.heap.size ≤ x)) /\ (∀ x, okB ok w x -> R x) /\ (∀ x, S x -> Sa x ∨ w.heap.size ≤ x) /\ (∀ x, R x -> ¬ S x) /\ Chg Sa w w' := by
 obtain ⟨R, S, h1, h2, h3, h4, h5⟩ := h
 have hsz := h5.size
 refine ⟨fun x => R x ∨ okB ok w x, S, h1.mono (fun x _ hx => .inl hx), fun x hx => ?_, fun x hx => .inr hx, h3, fun x hx hs => ?_, h5⟩
 ·rcases hx with hx | hx
  ·exact h2 x hx
  ·exact ⟨by have := hx.2; omega, .inl hx⟩
 ·rcases hx with hx | hx
  ·exact h4 x hx hs
  ·rcases h3 x hs with q | q
   ·exact hnok x q hx.1
   ·have := hx.2; omega
theorem AllPost.trans {U : List K} {N : Nat} {ok Sa R S : Nat -> Prop} {w w1 : World} {ba : Nat} (hR : ∀ x, R x -> x < w1.heap.size /\ (okB ok w x ∨ w.heap.size ≤ x)) (hS : ∀ x, S x -> Sa x ∨ w.heap.size ≤ x) (hc : Chg Sa w w1) {r : Option T} {e : Ending} {w2 : World}
  (h : AllPost U N R S w1 ba r e w2) : AllPost U N ok Sa w ba r e w2 := by
 have hsz := hc.size
 have htr : ∀ {w2 : World}, Chg S w1 w2 -> Chg Sa w w2 := fun h => hc.trans h (fun i hi q => (hS i q).elim id (fun q => absurd q (Nat.not_le.2 hi)))
 cases r with
 | none => exact ⟨h.1, htr h.2⟩
 | some t =>
  obtain ⟨h1, ⟨R2, S2, h2, h3, h4, h5, h6⟩, h7⟩ := h
  refine ⟨h1, ⟨R2, S2, h2, fun x hx => ⟨(h3 x hx).1, ?_⟩, fun x hx => ?_, h5, htr h6⟩, h7⟩
  ·rcases (h3 x hx).2 with q | q
   ·exact (hR x q.1).2
   ·exact .inr (by omega)
  ·rcases h4 x hx with q | q
   ·exact hS x q
   ·exact .inr (by omega)
structure CD (U : List K) (N : Nat) (m : Bool) (ok Sa : Nat -> Prop) (w : World) (ba : Nat) (deps : List Ch) (v : T) (n : Nat) (out : T) (R S : Nat -> Prop) (wr : World) : Prop where
 le : n ≤ deps.length
 own : AnyO R wr (.iface 67 (.map (some ba))) (.table out) S
 rb : ∀ x, R x -> x < wr.heap.size /\ (okB ok w x ∨ w.heap.size ≤ x)
 rok : ∀ x, okB ok w x -> R x
 sb : ∀ x, S x -> Sa x ∨ w.heap.size ≤ x
 rs : ∀ x, R x -> ¬ S x
 chg : Chg Sa w wr
 all : allD m (deps.drop n) out = allD m deps v
 same : ∀ k, k ∉ (deps.take n).map Ch.name -> get out k = get v k
 wu : ∃ E, WU U N E (.table out)
structure CJ (R S : Nat -> Prop) (wr : World) (out : T) (nm : K) (ba : Nat) (wc : World) (n1 : Nat) (f1 : K -> Option Value) (F1 : K -> Nat -> Prop) (bd : Nat) (x1 out1 : T) : Prop where
 tab : TabO R wc ba n1 f1 out1 F1
 at_ : f1 nm = some (.iface 67 (.map (some bd)))
 get_ : get out1 nm = some (.table x1)
 tabAt_ : tabAt out nm = some x1
 oth : ∀ k, k ≠ nm -> get out1 k = get out k
 srt : Sorted out1
 len : n1 < 2199023255552
 sub : ∀ x, footT ba F1 x -> S x ∨ wr.heap.size ≤ x
 chg : Chg S wr wc
theorem CD.step {U : List K} {N : Nat} {m : Bool} {ok Sa : Nat -> Prop} {w : World} {ba : Nat} {deps : List Ch} {v : T} {n : Nat} {out : T} {R S : Nat -> Prop} {wr : World} (h : CD U N m ok Sa w ba deps v n out R S wr) {dd : Ch} (hdd : deps[n]? = some dd)
  {wc : World} {n1 : Nat} {f1 : K -> Option Value} {F1 : K -> Nat -> Prop} {bd : Nat} {x1 out1 : T} (j : CJ R S wr out dd.name ba wc n1 f1 F1 bd x1 out1) {w2 w3 w4 : World} {S' : Nat -> Prop} (hS' : ∀ x, S' x -> F1 dd.name x ∨ wc.heap.size ≤ x) (hc2 : Chg (F1 dd.name) wc w2) {y : T}
  (ho : OwnJ R S' w2 w3 (.iface 67 (.map (some bd))) (.table y)) {n4 : Nat} (hm : MapB w4 ba n4 (fun z => if z = dd.name then some (.iface 67 (.map (some bd))) else f1 z)) (hc4 : Chg (· = ba) w3 w4)
  (hall : allD m (deps.drop n) out = allD m (deps.drop (n + 1)) (ins out dd.name (.table y))) (hwu : ∃ E, WU U N E (.table y)) (hnU : dd.name ∈ U) : ∃ R4 S4, CD U N m ok Sa w ba deps v (n + 1) (ins out dd.name (.table y)) R4 S4 w4 := by
 obtain ⟨R2, S2, h1, h2, h3, h4, h5⟩ := ho
 have hszr := h.chg.size
 have hszc := j.chg.size
 have hsz2 := hc2.size
 have hsz3 := h5.size
 have hsz4 := hc4.size
 have hF1l : ∀ k x, F1 k x -> x < wc.heap.size := fun k x hx => j.tab.lt (.inr ⟨k, hx⟩)
 have hbal : ba < wc.heap.size := j.tab.lt (.inl rfl)
 have hRF : ∀ x, R x -> ¬ footT ba F1 x := fun x hx hf => by
  rcases j.sub x hf with q | q
  ·exact h.rs x hx q
  ·have := (h.rb x hx).1; omega
 have hS2 : ∀ x, S2 x -> F1 dd.name x ∨ wc.heap.size ≤ x := fun x hx => by
  rcases h3 x hx with q | q
  ·exact hS' x q
  ·exact .inr (by omega)
 have hc13 : Chg (fun x => F1 dd.name x ∨ wc.heap.size ≤ x) wc w3 := (hc2.mono (fun _ _ q => .inl q)).trans h5 (fun i hi q => hS' i q)
 have hR2 : ∀ x, R2 x -> R x ∨ w2.heap.size ≤ x := fun x hx => (h2 x hx).2.imp (fun q => q.1) id
 have hR2F : ∀ k x, R2 x -> ¬ F1 k x := fun k x hx hf => by
  rcases hR2 x hx with q | q
  ·exact hRF x q (.inr ⟨k, hf⟩)
  ·have := hF1l k x hf; omega
 have hR2b : ∀ x, R2 x -> x ≠ ba := fun x hx e => by
  rcases hR2 x hx with q | q
  ·exact hRF x q (.inl e)
  ·omega
 have ho4 : AnyO (fun x => R x ∨ R2 x) w4 (.iface 67 (.map (some bd))) (.table y) S2 := (h1.chg hc4 (fun x hx q => hR2b x hx q) (fun x hx q => by
  have q1 : x = ba := q
  rcases hS2 x hx with q2 | q2
  ·exact j.tab.notb _ (q1 ▸ q2)
  ·omega)).mono (fun x _ hx => .inr hx)
 have hT := tabO_insAt (k := dd.name) j.tab j.srt hc13 (fun _ q => q) (fun x hx => ⟨by have := (h.rb x hx).1; omega, fun q => hRF x hx (.inr ⟨_, q⟩), fun q => hRF x hx (.inl q)⟩) (fun x hx => .inl hx) hc4 hm ho4 hS2
 have hout : ins out1 dd.name (.table y) = ins out dd.name (.table y) := by
  obtain ⟨E, hE⟩ := h.wu
  refine t_ext (sorted_ins _ _ j.srt) (sorted_ins _ _ hE.sorted) fun k => ?_
  rw [get_ins, get_ins]
  by_cases e : dd.name = k
  ·rw [if_pos e, if_pos e]
  ·rw [if_neg e, if_neg e, j.oth k (fun q => e q.symm)]
 rw [hout] at hT
 have hlt : n < deps.length := (List.getElem?_eq_some_iff.1 hdd).1
 have hsub4 : ∀ x, footT ba (fun z => if z = dd.name then S2 else F1 z) x -> Sa x ∨ w.heap.size ≤ x := fun x hx => by
  have hs : ∀ x, S x ∨ wr.heap.size ≤ x -> Sa x ∨ w.heap.size ≤ x := fun x hx => hx.elim (h.sb x) (fun q => .inr (by omega))
  rcases hx with q | ⟨k, q⟩
  ·exact hs x (j.sub x (.inl q))
  ·by_cases e : k = dd.name
   ·rw [if_pos e] at q
    rcases hS2 x q with q2 | q2
    ·exact hs x (j.sub x (.inr ⟨_, q2⟩))
    ·exact .inr (by omega)
   ·rw [if_neg e] at q
    exact hs x (j.sub x (.inr ⟨k, q⟩))
 refine ⟨_, _, hlt, hT.any, fun x hx => ?_, fun x hx => .inl (h.rok x hx), hsub4, fun x hx hs => ?_, ?_, hall.symm.trans h.all, fun k hk => ?_, ?_⟩
 ·rcases hx with hx | hx
  ·exact ⟨by have := (h.rb x hx).1; omega, (h.rb x hx).2⟩
  ·refine ⟨by have := (h2 x hx).1; omega, ?_⟩
   rcases hR2 x hx with q | q
   ·exact (h.rb x q).2
   ·exact .inr (by omega)
 ·rcases hs with q | ⟨k, q⟩
  ·rcases hx with hx | hx
   ·exact hRF x hx (.inl q)
   ·exact hR2b x hx q
  ·by_cases e : k = dd.name
   ·rw [if_pos e] at q
    rcases hx with hx | hx
    ·rcases hS2 x q with q2 | q2
     ·exact hRF x hx (.inr ⟨_, q2⟩)
     ·have := (h.rb x hx).1; omega
    ·exact h4 x hx q
   ·rw [if_neg e] at q
    rcases hx with hx | hx
    ·exact hRF x hx (.inr ⟨k, q⟩)
    ·exact hR2F k x hx q
 ·have hSF : ∀ x, x < w.heap.size -> footT ba F1 x -> Sa x := fun x hx hf => by
   rcases j.sub x hf with q | q
   ·rcases h.sb x q with q | q
    ·exact q
    ·omega
   ·omega
  refine (((h.chg.trans j.chg (fun x hx q => (h.sb x q).elim id (fun q => by omega))).trans hc13 (fun x hx q => ?_)).trans hc4 (fun x hx q => hSF x hx (.inl q)))
  rcases q with q | q
  ·exact hSF x hx (.inr ⟨_, q⟩)
  ·omega
 ·rw [List.take_add_one, hdd] at hk
  simp only [Option.toList_some, List.map_append, List.map_cons, List.map_nil, List.mem_append, List.mem_singleton, not_or] at hk
  rw [get_ins, if_neg (fun q => hk.2 q.symm)]
  exact h.same k hk.1
 ·obtain ⟨E, hE⟩ := h.wu
  obtain ⟨E2, hE2⟩ := hwu
  have h6 : WU U N (E + E2 + 1) (.table out) := hE.mono (fun _ h => h) (Nat.le_refl _) (by omega)
  exact ⟨E + E2 + 1, h6.ins hnU (hE2.mono (fun _ h => h) (Nat.le_refl _) (by omega))⟩
theorem errNew_any (s : K) (w : World) : Calls Tryz.prog 99 #[.string s] w fun e w' => (∃ b, e = .returned (.iface 175 (.pointer (some ⟨b, 0, none⟩)))) /\ Chg No w w' := by
 go_enter Tryz.func99, Tryz.ntmps99
 go_wp2
 go_ret
 exact ⟨⟨_, rfl⟩, (Chg.refl No w).alloc _⟩
theorem run_neErr (b : Nat) (w : World) : (Go.binOp BinOp.neq 75 (.iface 175 (.pointer (some ⟨b, 0, none⟩))) .nilIface).run Tryz.prog w = .ok (.bool true) w := by kernel_rfl
theorem run_guardErr (b : Nat) (x : Operand) (w : World) : (eqGuard BinOp.neq 75 x (.const .nilIface) (.iface 175 (.pointer (some ⟨b, 0, none⟩))) .nilIface).run Tryz.prog w = .ok () w := by
 cases x <;> kernel_rfl
theorem run_neErr0 (w : World) : (Go.binOp BinOp.neq 75 .nilIface .nilIface).run Tryz.prog w = .ok (.bool false) w := by kernel_rfl
theorem run_guardErr0 (x : Operand) (w : World) : (eqGuard BinOp.neq 75 x (.const .nilIface) .nilIface .nilIface).run Tryz.prog w = .ok () w := by
 cases x <;> kernel_rfl
def CoalesceAt (U : List K) (N : Nat) (m : Bool) (d h : Nat) : Prop :=
 ∀ c, ChW U N (d + 2) h c -> ∀ (ok : Nat -> Prop) (p : Nat) (v : T) (ba : Nat) (Sa : Nat -> Prop) (w : World) (pre : K), ChartM ok w p c -> AnyO ok w (.iface 67 (.map (some ba))) (.table v) Sa -> (∀ x, Sa x -> ¬ ok x) -> WU U N (d + 2) (.table v) -> ShalA (.table v) ->
  pre.size + (d + h + 8) * 140737488355329 ≤ 900000000000000000 -> Calls Tryz.prog 92 #[printV, .pointer (some ⟨p, 0, none⟩), .map (some ba), .string pre, .bool m] w (AllPost U N ok Sa w ba (allV m c v))
theorem allD_at {m : Bool} {deps : List Ch} {n : Nat} {dd : Ch} (h : deps[n]? = some dd) (out : T) : allD m (deps.drop n) out = match tabAt out dd.name with
  | none => none
  | some x => match allV m dd (globals x out) with
   | none => none
   | some y => allD m (deps.drop (n + 1)) (ins out dd.name (.table y)) := by
 obtain ⟨hlt, hge⟩ := List.getElem?_eq_some_iff.1 h
 rw [List.drop_eq_getElem_cons hlt, hge]
 rw [allD]
 cases tabAt out dd.name with
 | none => rfl
 | some x =>
  dsimp only
  cases allV m dd (globals x out) <;> rfl
theorem names_at {deps : List Ch} {n : Nat} {dd : Ch} (h : deps[n]? = some dd) (hn : (deps.map Ch.name).Nodup) : dd.name ∉ (deps.take n).map Ch.name := by
 intro hm
 obtain ⟨hlt, hge⟩ := List.getElem?_eq_some_iff.1 h
 have h2 : deps.map Ch.name = (deps.take n).map Ch.name ++ (deps.drop n).map Ch.name := by rw [← List.map_append, List.take_append_drop]
 rw [h2] at hn
 refine (List.nodup_append.1 hn).2.2 _ hm dd.name ?_ rfl
 rw [List.drop_eq_getElem_cons hlt, hge]
 simp
theorem pre_le {a b c x m : Nat} (h : a + b * x ≤ m) (hc : c ≤ b) : a + c * x ≤ m := Nat.le_trans (Nat.add_le_add_left (Nat.mul_le_mul_right _ hc) _) h
theorem globals_congr {x a b : T} (h : get a gK = get b gK) : globals x a = globals x b := by
 unfold globals tabAt; rw [h]
theorem coalesceDeps_of (U : List K) (N : Nat) (hN : N < 1099511627776) (hUN : U.length ≤ N) (hUk : ∀ k ∈ U, kOk k) (hgU : gK ∈ U) (m : Bool) (d h : Nat) (IH0 : CoalesceAt U N m d h) (c : Ch) (hc : ChW U N (d + 2) (h + 1) c) (ok : Nat -> Prop) (p : Nat) (v : T) (ba : Nat) (Sa : Nat -> Prop) (w : World) (pre : K)
  (hch : ChartM ok w p c) (ha : AnyO ok w (.iface 67 (.map (some ba))) (.table v) Sa) (hnok : ∀ x, Sa x -> ¬ ok x) (wa : WU U N (d + 2) (.table v)) (hsh : ShalA (.table v)) (hpre : pre.size + (d + h + 9) * 140737488355329 ≤ 900000000000000000) :
  Calls Tryz.prog 118 #[printV, .pointer (some ⟨p, 0, none⟩), .map (some ba), .string pre, .bool m] w (AllPost U N ok Sa w ba (allD m c.deps v)) := by
 cases hch with
 | @mk _ pm mv par dv wv name ver vals deps wants ps hp okp hm okm hv hd hn hh =>
  obtain ⟨hnm, hnU, hnG, -, hnd, hdeps⟩ := hc
  simp only [Ch.name, Ch.deps] at hnm hnU hnG hnd hdeps ⊢
  have HNM := Hd hnm
  have HND := Hd hnd
  have HDEPS := Hd hdeps
  have HH := Hd hh
  have HD := Hd hd
  have hd1 := hd.1
  have HN := Hd hn
  have HNOK := Hd hnok
  have HA := Hd ha
  have WA := Hd wa
  have HSH := Hd hsh
  have HPRE := Hd hpre
  have HUK := Hd hUk
  have IH := Hd IH0
  obtain ⟨-, -, da, dc, rfl, -, -⟩ := hd
  simp only [ptrRows, List.length_map] at HD hd1 hp
  unfold maxLen at hd1
  have HDP := Hd (deps_any hp)
  have HP := Hd hp
  have HM := Hd hm
  have HPK := Hd (show ok p /\ ok pm from ⟨okp, okm⟩)
  have hcd : CD U N m ok Sa w ba deps v 0 v (okB ok w) Sa w := ⟨Nat.zero_le _, ha.bel, fun x hx => ⟨hx.2, .inl hx⟩, fun x hx => hx, fun x hx => .inl hx, fun x hx hs => hnok x hs hx.1, Chg.refl _ _, by rw [List.drop_zero], fun k _ => rfl, ⟨_, wa⟩⟩
  have HCD0 := Hd hcd
  clear hp okp hm okm hv hn hh hnm hnU hnG hnd hdeps hnok ha wa hsh hpre hUk IH0 hcd
  go_enter Tryz.func118, Tryz.ntmps118
  go_wp2_with fail
  refine HDP.out.mono ?_
  rintro e wt ⟨rfl, hwt⟩
  obtain rfl := hwt.symm
  go_wp2_with fail
  go_loopw [24] (fun ct wr => ∃ (n : Nat) (out : T) (R S : Nat -> Prop), ct = .int .i64 n /\ CD U N m ok Sa w ba deps v n out R S wr) (fun ct _ => ps.length - (intOf ct).toNat)
  case atStart => exact ⟨0, _, _, _, rfl, HCD0.out⟩
  case round =>
   obtain ⟨n, out, R, S, rfl, hcd⟩ := hrel
   have HCD := Hd hcd
   clear hcd HCD0
   by_cases hlt : n < ps.length
   ·obtain ⟨q, hq⟩ : ∃ q, ps[n]? = some q := ⟨_, List.getElem?_eq_getElem hlt⟩
    obtain ⟨dd, hdd⟩ : ∃ d, deps[n]? = some d := ⟨_, List.getElem?_eq_getElem (by rw [← HN.out]; exact hlt)⟩
    obtain ⟨lb, lo, rfl, hlok, hlc⟩ := HD.out.at (i := n) (r := [.pointer (some ⟨q, 0, none⟩)]) (by simp [hq])
    have hlc := (hlc.chg HCD.out.chg (fun q => HNOK.out lb q hlok)).one
    simp only [Nat.mul_one] at hlc
    have HQ0 := Hd (HH.out n q dd hq hdd).bel
    have HQ := Hd (show ChartM R wr q dd from ((HH.out n q dd hq hdd).bel.chg HCD.out.chg (fun x hx q => HNOK.out x q hx.1)).mono (fun x _ hx => HCD.out.rok x hx))
    have HDD := Hd hdd
    have h64 : (n : Int) < (ps.length : Int) := by omega
    have HCW := Hd (HDEPS.out dd (List.mem_of_getElem? hdd))
    obtain ⟨h0, rfl⟩ : ∃ h', h = h' + 1 := by
     cases h with
     | zero => exact HCW.out.elim
     | succ h => exact ⟨h, rfl⟩
    have HNAME := Hd (show kOk dd.name /\ dd.name ∈ U /\ dd.name ≠ gK from ⟨HCW.out.1, HCW.out.2.1, HCW.out.2.2.1⟩)
    have hkk : dd.name.size ≤ maxLen := by have := HNAME.out.1; unfold kOk at this; unfold maxLen; omega
    have hse : get out dd.name = get v dd.name := HCD.out.same _ (names_at hdd HND.out)
    have HSE := Hd hse
    obtain ⟨_, nn0, f, F, eo, tO, hSF⟩ := HCD.out.own.tab
    cases eo
    replace tO := tO.fit
    obtain ⟨nn, hnn⟩ : ∃ nn, nn = out.length := ⟨_, rfl⟩
    rw [← hnn] at tO
    have HNN := Hd (show nn < 1099511627776 by obtain ⟨E, hE⟩ := HCD.out.wu; have := hE.len; omega)
    have HTO := Hd tO
    have HSF := Hd hSF
    have hmo := tO.map
    have hnnm : nn < maxLen := by have := HNN.out; unfold maxLen; omega
    clear hq hdd hlok hse tO hnn hSF
    go_upto_if 36 with (first | (refine (name_any HQ.out).mono ?_; rintro e wt ⟨rfl, hwt⟩; obtain rfl := hwt.symm) | (at_lookup; refine wpList_lookB rfl rfl rfl hmo rfl hkk ?_; go_frame))
    go_cut [14, 15, 24] from 24 to 89 (fun s14 s15 s24 wc => s24 = .int .i64 n /\ ∃ (n1 : Nat) (f1 : K -> Option Value) (F1 : K -> Nat -> Prop) (bd : Nat) (x1 out1 : T), CJ R S wr out dd.name ba wc n1 f1 F1 bd x1 out1)
    case first =>
     cases hgo : get out dd.name with
     | none =>
      have hfo : f dd.name = none := by
       have h := HTO.out.dom dd.name
       rw [hgo] at h
       cases hf : f dd.name with
       | none => rfl
       | some _ => rw [hf] at h; cases h
      have HGO := Hd hgo
      have HFO := Hd hfo
      have hmk := run_makeMap67n
      clear hgo hfo
      rw [HFO.out]
      dsimp only [Option.getD_none, Option.isSome_none, Bool.not_false]
      have hmo2 := hmo.alloc (.map #[] 0)
      go_wp2_with (first | (refine (name_any HQ.out).mono ?_; rintro e wt ⟨rfl, hwt⟩; obtain rfl := hwt.symm) | (at_mapUpdate; refine wpList_putB (u := .iface 67 (.map (some wr.heap.size))) rfl rfl rfl hmo2 hnnm rfl hkk rfl ?_; intro w3 hm3 hc3 hs3; go_frame))
      go_meet
      obtain ⟨E, hE⟩ := HCD.out.wu
      have hbl := HTO.out.map.lt
      have hsz1 : (wr.alloc (.map #[] 0)).heap.size = wr.heap.size + 1 := by simp
      have hmb : AnyO R w3 (.iface 67 (.map (some wr.heap.size))) (.table []) (fun x => x = wr.heap.size) :=
       (AnyO.set (TabO.any (TabO.made (ok := R) (MapB.made wr))) (fun x => ⟨fun h => .inl h, fun h => h.elim id (fun ⟨_, h⟩ => h.elim)⟩)).chg hc3 (fun y hy q => HCD.out.rs y hy ((HSF.out y).2 (.inl q))) (fun y hy q => by have h1 : y = ba := q; have h2 : y = wr.heap.size := hy; omega)
      have hT := tabO_insAt (k := dd.name) (ok' := R) (j := .table []) (G := fun x => x = wr.heap.size) HTO.out hE.sorted ((Chg.refl No wr).alloc (.map #[] 0)) (fun y q => q.elim) (fun y hy => ⟨(HCD.out.rb y hy).1, fun q => HCD.out.rs y hy ((HSF.out y).2 (.inr ⟨_, q⟩)), fun q => HCD.out.rs y hy ((HSF.out y).2 (.inl q))⟩) (fun y hy => hy) hc3 hm3 hmb (fun y hy => .inr (Nat.le_of_eq hy.symm))
      refine ⟨rfl, nn + 1, _, _, wr.heap.size, [], ins out dd.name (.table []), hT, by rw [if_pos rfl], by rw [get_ins, if_pos rfl], by unfold tabAt; rw [HGO.out], fun k hk => by rw [get_ins, if_neg (fun q => hk q.symm)], sorted_ins _ _ hE.sorted, by have := HNN.out; omega, fun x hx => ?_, (((Chg.refl No wr).alloc (.map #[] 0)).mono (fun _ _ q => q.elim)).trans hc3 (fun i hi q => (HSF.out i).2 (.inl q))⟩
      rcases hx with q | ⟨k, q⟩
      ·exact .inl ((HSF.out x).2 (.inl q))
      ·by_cases e : k = dd.name
       ·rw [if_pos e] at q; exact .inr (Nat.le_of_eq q.symm)
       ·rw [if_neg e] at q; exact .inl ((HSF.out x).2 (.inr ⟨k, q⟩))
     | some x =>
      obtain ⟨u0, hfo⟩ : ∃ u0, f dd.name = some u0 := by
       have h := HTO.out.dom dd.name
       rw [hgo] at h
       cases hf : f dd.name with
       | none => rw [hf] at h; cases h
       | some v => exact ⟨v, rfl⟩
      have HV := Hd (HTO.out.val dd.name u0 x hfo hgo)
      have HGO := Hd hgo
      have HFO := Hd hfo
      clear hgo hfo
      rw [HFO.out]
      dsimp only [Option.getD_some, Option.isSome_some, Bool.not_true]
      go_wp2_with fail
      refine (istable_any HV.out.any0 wr).mono ?_
      rintro e wt ⟨rfl, hwt⟩
      obtain rfl := hwt.symm
      cases hxt : isT x with
      | false =>
       have hnone : allD m deps v = none := by
        rw [← HCD.out.all, allD_at HDD.out, show tabAt out dd.name = none by unfold tabAt; rw [HGO.out]; cases x <;> first | rfl | (cases hxt; done)]
       have HNONE := Hd hnone
       clear hxt hnone
       go_wp2_with fail
       refine (errNew_any _ wr).mono ?_
       rintro e w3 ⟨⟨eb, rfl⟩, hc3⟩
       have HC3 := Hd hc3
       clear hc3
       go_wp2_with fail
       go_ret2
       rw [HNONE.out]
       exact ⟨⟨_, _, rfl⟩, HCD.out.chg.trans' HC3.out⟩
      | true =>
       obtain ⟨xt, rfl⟩ := isT_table hxt
       clear hxt
       go_wp2_with fail
       go_meet
       obtain ⟨E, hE⟩ := HCD.out.wu
       obtain ⟨bd, _, _, _, rfl, -, -⟩ := HV.out.tab
       exact ⟨rfl, nn, f, F, bd, xt, out, HTO.out, HFO.out, HGO.out, by unfold tabAt; rw [HGO.out], fun k _ => rfl, hE.sorted, by have := HNN.out; omega, fun x hx => .inl ((HSF.out x).2 hx), Chg.refl _ _⟩
    case rest =>
    obtain ⟨rfl, n1, f1, F1, bd, x1, out1, hcj⟩ := hcut
    have HCJ := Hd hcj
    have hm1 := hcj.tab.map
    have hRl : ∀ x, R x -> x < wr.heap.size := fun x hx => (HCD.out.rb x hx).1
    have hSl : ∀ x, S x -> Sa x ∨ w.heap.size ≤ x := HCD.out.sb
    have hcw : Chg Sa w wc := HCD.out.chg.trans hcj.chg (fun i hi q => (hSl i q).elim id (fun q => by omega))
    have hQc : ChartM R wc q dd := HQ.out.chg hcj.chg (fun x hx q => HCD.out.rs x hx q)
    have HQC := Hd hQc
    have k0 : wc.cell? ⟨p, 0, none⟩ = some (.pointer (some ⟨pm, 0, none⟩)) := (HP.out.chg hcw (fun q => HNOK.out p q HPK.out.1)).cell 0
    have q0 : wc.cell? ⟨pm, 0, none⟩ = some (.string name) := (HM.out.chg hcw (fun q => HNOK.out pm q HPK.out.2)).cell 0
    have hmu := run_must67 (.map (some bd))
    have hp18 : pre.size ≤ 1000000000000000000 := by have := HPRE.out; omega
    have hk18 : name.size ≤ 1000000000000000000 := by have := HNM.out; unfold kOk at this; omega
    have HCP := Hd (concatPrefix_any pre name wc hp18 hk18)
    have HWC := Hd hcw
    have HAT := Hd hcj.at_
    clear hcj hcw hQc hp18 hk18 hRl hSl hmo hlc
    go_wp2_with (first | (refine (name_any HQC.out).mono ?_; rintro e wt ⟨rfl, hwt⟩; obtain rfl := hwt.symm) | (at_lookup; refine wpList_lookB rfl rfl rfl hm1 rfl hkk ?_; rw [HAT.out]; go_frame))
    refine HCP.out.mono ?_
    rintro e wt ⟨⟨sx, rfl, hsx⟩, hwt⟩
    obtain rfl := hwt.symm
    have HSX := Hd (show sx.size + (d + h0 + 9) * 140737488355329 ≤ 900000000000000000 by have h1 := HPRE.out; have h2 := HNM.out; unfold kOk at h2; omega)
    have hRF : ∀ x, R x -> ¬ footT ba F1 x := fun x hx hf => by
     rcases HCJ.out.sub x hf with q | q
     ·exact HCD.out.rs x hx q
     ·have := (HCD.out.rb x hx).1; omega
    have hgv : get out1 gK = get v gK := (HCJ.out.oth gK (fun q => HNAME.out.2.2 q.symm)).trans (HCD.out.same gK (fun hm => by
     obtain ⟨z, hz, he⟩ := List.mem_map.1 hm
     have h := HDEPS.out z (List.mem_of_mem_take hz)
     exact h.2.2.1 he))
    have hgv0 : get out gK = get v gK := (HCJ.out.oth gK (fun q => HNAME.out.2.2 q.symm)).symm.trans hgv
    have htv : tabAt v dd.name = some x1 := by have h := HCJ.out.tabAt_; unfold tabAt at h ⊢; rwa [HSE.out] at h
    have hszb : sx.size + (d + 3) * 140737488355329 ≤ 900000000000000000 := pre_le HSX.out (by omega)
    have hto : ∀ b, tabAt out1 gK = some b -> tabAt v gK = some b := fun b hb => by unfold tabAt at hb ⊢; rwa [hgv] at hb
    have hfo2 : ∀ b, tabAt out1 gK = some b -> Flat2 (.table b) := fun b hb => (HSH.out.tabAt (hto b hb)).2 rfl
    have hglob := coalesceGlobals_any U N (by omega) HUK.out m d R x1 out1 bd ba n1 f1 (F1 dd.name) (F1 gK) wc sx
     (HCJ.out.tab.val dd.name _ _ HCJ.out.at_ HCJ.out.get_) HCJ.out.tab.map (HCJ.out.tab.dom gK) (fun u t h1 h2 => HCJ.out.tab.val gK u t h1 h2)
     (fun y hy hy' => HNAME.out.2.2 (HCJ.out.tab.apart _ _ y hy' hy)) (fun y hy hR => hRF y hR (.inr ⟨_, hy⟩)) ((WA.out.tabAt htv).mono (fun _ h => h) (Nat.le_refl _) (Nat.le_succ _))
     (fun b hb => WA.out.tabAt (hto b hb)) (fun a ha => ((HSH.out.tabAt htv).1.tabAt ha).2 rfl)
     hfo2 hszb
    have HGLOB := Hd hglob
    have HGV := Hd hgv
    have HGV0 := Hd hgv0
    have HTV := Hd htv
    have HRF := Hd hRF
    clear hsx hRF hgv hgv0 htv hglob hszb hto hfo2
    go_wp2_with fail
    refine HGLOB.out.mono ?_
    rintro e w2 ⟨rfl, S', ho2, hS2, hc2⟩
    have hQ2 : ChartM R w2 q dd := HQC.out.chg hc2 (fun x hx q => HRF.out x hx (.inr ⟨_, q⟩))
    have hgg : globals x1 out1 = globals x1 v := globals_congr HGV.out
    rw [hgg] at ho2
    have hgo : globals x1 out = globals x1 v := globals_congr HGV0.out
    have hszc := HCJ.out.chg.size
    have hwv : WU U N (d + 2) (.table (globals x1 v)) := WU.globals hgU ((WA.out.tabAt HTV.out).mono (fun _ h => h) (Nat.le_refl _) (Nat.le_succ _)) WA.out
    have hcall := IH.out dd HCW.out R q (globals x1 v) bd S' w2 sx hQ2 (ho2.mono (fun _ _ h => h.1)) (fun x hx hR => by
     rcases hS2 x hx with q | q
     ·exact HRF.out x hR (.inr ⟨_, q⟩)
     ·have := (HCD.out.rb x hR).1; omega) hwv ((HSH.out.tabAt HTV.out).1.globals HSH.out) (by have := HSX.out; omega)
    have HCALL := Hd hcall
    have HQ2 := Hd hQ2
    have HGO := Hd hgo
    have HS2 := Hd hS2
    have HC2 := Hd hc2
    clear hcall hQ2 ho2 hS2 hc2 hgg hgo hszc hwv
    go_wp2_with (first | (refine (name_any HQ2.out).mono ?_; rintro e wt ⟨rfl, hwt⟩; obtain rfl := hwt.symm))
    refine HCALL.out.mono ?_
    intro e w3 hpost
    have hn1 : n1 < maxLen := by have := HCJ.out.len; unfold maxLen; omega
    have hmz : ∀ {w3 : World}, Chg S' w2 w3 -> MapB w3 ba n1 f1 := fun hc => (HCJ.out.tab.map.chg HC2.out (HCJ.out.tab.notb _)).chg hc (fun q => by
     rcases HS2.out ba q with q | q
     ·exact HCJ.out.tab.notb _ q
     ·have := HCJ.out.tab.map.lt; omega)
    cases hall : allV m dd (globals x1 v) with
    | none =>
     rw [hall] at hpost
     obtain ⟨⟨mv1, eb, rfl⟩, hc3⟩ := hpost
     have hmw := hmz hc3
     have hne := run_neErr eb
     have hgu := run_guardErr eb
     have hnone : allD m deps v = none := by
      rw [← HCD.out.all, allD_at HDD.out, HCJ.out.tabAt_]
      dsimp only
      rw [HGO.out, hall]
     have HNONE := Hd hnone
     have HC3 := Hd hc3
     clear hall hnone hc3 hmz
     go_wp2_with (first | (at_mapUpdate; refine wpList_putB (u := .iface 67 mv1) rfl rfl rfl hmw hn1 rfl hkk rfl ?_; intro w4 hm4 hc4 hs4; go_frame))
     go_ret2
     rw [HNONE.out]
     refine ⟨⟨_, _, rfl⟩, ?_⟩
     have hsz1 := HWC.out.size
     have hsz2 := HC2.out.size
     have hsz3 := HCD.out.chg.size
     have hSF : ∀ x, x < w.heap.size -> footT ba F1 x -> Sa x := fun x hx hf => by
      rcases HCJ.out.sub x hf with q | q
      ·rcases HCD.out.sb x q with q | q
       ·exact q
       ·omega
      ·omega
     refine ((HWC.out.trans HC2.out (fun x hx q => hSF x hx (.inr ⟨_, q⟩))).trans HC3.out (fun x hx q => ?_)).trans hc4 (fun x hx q => hSF x hx (.inl q))
     rcases HS2.out x q with q | q
     ·exact hSF x hx (.inr ⟨_, q⟩)
     ·omega
    | some y =>
     rw [hall] at hpost
     obtain ⟨rfl, hown, hwu⟩ := hpost
     have hc3 : Chg S' w2 w3 := by obtain ⟨_, _, _, _, _, _, hc⟩ := hown; exact hc
     have hmw := hmz hc3
     have hne := run_neErr0
     have hgu := run_guardErr0
     have hnext : allD m (deps.drop n) out = allD m (deps.drop (n + 1)) (ins out dd.name (.table y)) := by
      rw [allD_at HDD.out, HCJ.out.tabAt_]
      dsimp only
      rw [HGO.out, hall]
     have HNEXT := Hd hnext
     have HOWN := Hd hown
     have HWU := Hd hwu
     clear hall hnext hc3 hmz hown hwu
     go_wp2_with (first | (at_mapUpdate; refine wpList_putB (u := .iface 67 (.map (some bd))) rfl rfl rfl hmw hn1 rfl hkk rfl ?_; intro w4 hm4 hc4 hs4; go_frame))
     obtain ⟨R4, S4, hcd4⟩ := HCD.out.step HDD.out HCJ.out HS2.out HC2.out HOWN.out hm4 hc4 HNEXT.out HWU.out HNAME.out.2.1
     have HCD4 := Hd hcd4
     clear hcd4 hm4 hc4 hs4
     refine ⟨?_, ?_⟩
     ·first | exact ⟨n + 1, _, _, _, by go_num, HCD4.out⟩ | ((repeat apply Exists.intro); exact ⟨⟨n + 1, _, _, _, by go_num, HCD4.out⟩, rfl⟩)
     ·simp [intOf]; omega
   ·have h64 : ¬ (n : Int) < (ps.length : Int) := by omega
    have hfin : allD m deps v = some out := by
     rw [← HCD.out.all, List.drop_eq_nil_of_le (by rw [← HN.out]; omega), allD]
    have HFIN := Hd hfin
    clear hfin
    go_wp2
    go_ret2
    rw [HFIN.out]
    exact ⟨rfl, ⟨R, S, HCD.out.own, HCD.out.rb, HCD.out.sb, HCD.out.rs, HCD.out.chg⟩, HCD.out.wu⟩
theorem allV_eq (m : Bool) (c : Ch) (v : T) : allV m c v = allD m c.deps (over m (hasDep c.deps) v (tabOf c.vals)) := by
 cases c with
 | mk name ver vals deps wants => rw [allV]; rfl
theorem coalesce_at (U : List K) (N : Nat) (hN : N < 1099511627776) (hUN : U.length ≤ N) (hUk : ∀ k ∈ U, kOk k) (hgU : gK ∈ U) (m : Bool) (d : Nat) : ∀ h, CoalesceAt U N m d h := by
 intro h
 induction h with
 | zero => intro c hc; exact hc.elim
 | succ h ih =>
  intro c hc ok p v ba Sa w pre hch ha hnok wa hsh hpre
  have hvals := hc.2.2.2.1
  have hcv := coalesceValues_any U N hN hUN hUk m (d + 2) ok c p v ba Sa w pre hch ha hnok wa (fun t ht => (hvals t ht).1) hc.1 (pre_le hpre (by omega))
  have hov : WU U N (d + 2) (.table (over m (hasDep c.deps) v (tabOf c.vals))) := by
   refine WU.over _ _ wa ?_
   cases hv : c.vals with
   | table t => exact (hvals t hv).1
   | _ => exact WU.nil
  have hso : ShalA (.table (over m (hasDep c.deps) v (tabOf c.vals))) := by
   refine ShalA.over hsh ?_
   cases hv : c.vals with
   | table t => exact (hvals t hv).2
   | _ => exact fun d => shal_nil d
  have hcd := coalesceDeps_of U N hN hUN hUk hgU m d h ih c hc
  have hae := allV_eq m c v
  have HCV := Hd hcv
  have HOV := Hd hov
  have HSO := Hd hso
  have HCD := Hd hcd
  have HAE := Hd hae
  have HCH := Hd hch
  have HNOK := Hd hnok
  have HPRE := Hd (pre_le (c := d + h + 9) hpre (by omega))
  clear hc hch ha hnok wa hsh hpre hvals hcv hov hso hcd hae ih hUk
  go_enter Tryz.func92, Tryz.ntmps92
  go_wp2_with fail
  refine HCV.out.mono ?_
  rintro e w1 ⟨rfl, hown⟩
  obtain ⟨R, S, ho, hRb, hRok, hSb, hRS, hc1⟩ := hown.full HNOK.out
  have hcall := HCD.out R p (over m (hasDep c.deps) v (tabOf c.vals)) ba S w1 pre ((HCH.out.bel.chg hc1 (fun x hx q => HNOK.out x q hx.1)).mono (fun x _ hx => hRok x hx)) ho (fun x hx hR => hRS x hR hx) HOV.out HSO.out HPRE.out
  have HCALL := Hd hcall
  have HTR := Hd (fun r e w2 => AllPost.trans (U := U) (N := N) (ba := ba) hRb hSb hc1 (r := r) (e := e) (w2 := w2))
  clear hcall ho hRb hRok hSb hRS hc1 hown
  go_wp2_with fail
  refine HCALL.out.mono ?_
  intro e w2 hpost
  have hp2 := HTR.out _ _ _ hpost
  rw [← HAE.out] at hp2
  clear hpost
  cases hr : allV m c v with
  | none =>
   rw [hr] at hp2
   obtain ⟨⟨mv, b, rfl⟩, hc⟩ := hp2
   have HC := Hd hc
   have HRR := Hd hr
   clear hc hr
   go_wp2
   go_ret2
   rw [HRR.out]
   exact ⟨⟨mv, b, rfl⟩, HC.out⟩
  | some t =>
   rw [hr] at hp2
   obtain ⟨rfl, ho, hw⟩ := hp2
   have HO := Hd ho
   have HW := Hd hw
   have HRR := Hd hr
   clear ho hw hr
   go_wp2
   go_ret2
   rw [HRR.out]
   exact ⟨rfl, HO.out, HW.out⟩
theorem copyValues_any (N d : Nat) (hN : N < 1099511627776) (ok : Nat -> Prop) (kvs : T) (b : Nat) (w : World) (ha : AnyJ ok w (.iface 67 (.map (some b))) (.table kvs)) (wf : Wf N (d + 1) (.table kvs)) :
  Calls Tryz.prog 91 #[.map (some b)] w fun e w' => ∃ g, e = .returned (.tuple #[.map (some g), .nilIface]) /\ CopyO w (.table kvs) (.iface 67 (.map (some g))) w' := by
 have h := zzCopyMap_of N d hN (zzCopy_any N hN d) ok kvs b w ha wf
 have H := Hd h
 clear h ha wf
 go_enter Tryz.func91, Tryz.ntmps91
 go_wp2_with fail
 refine H.out.mono ?_
 rintro e w1 ⟨g, rfl, hcp⟩
 have hmn := run_mapNil g
 have HC := Hd hcp
 clear hcp
 go_wp2
 go_ret2
 exact ⟨g, rfl, HC.out⟩
def CoalRet (U : List K) (N : Nat) (ok : Nat -> Prop) (w : World) : Option T -> Ending -> World -> Prop
 | none, e, w' => (∃ mv b, e = .returned (.tuple #[mv, .iface 175 (.pointer (some ⟨b, 0, none⟩))])) /\ Chg No w w'
 | some t, e, w' => (∃ g, e = .returned (.tuple #[.map (some g), .nilIface]) /\ AnyJ (fun x => okB ok w x ∨ w.heap.size ≤ x) w' (.iface 67 (.map (some g))) (.table t)) /\ Chg No w w' /\ ∃ E, WU U N E (.table t)
theorem coalescePkg_any (U : List K) (N : Nat) (hN : N < 1099511627776) (hUN : U.length ≤ N) (hUk : ∀ k ∈ U, kOk k) (hgU : gK ∈ U) (d h : Nat) (hdh : d + h ≤ 1000) (c : Ch) (hc : ChW U N (d + 2) h c) (ok : Nat -> Prop) (p : Nat) (v : T) (b : Nat) (w : World) (hch : ChartM ok w p c)
  (ha : AnyJ ok w (.iface 67 (.map (some b))) (.table v)) (wa : WU U N (d + 2) (.table v)) (hsh : ShalA (.table v)) :
  Calls Tryz.prog 58 #[.pointer (some ⟨p, 0, none⟩), .map (some b)] w (CoalRet U N ok w (allV false c v)) := by
 have hcp := copyValues_any N (d + 1) hN ok v b w ha (wa.wf hUk hUN)
 have hat := coalesce_at U N hN hUN hUk hgU false d h c hc
 have HCP := Hd hcp
 have HAT := Hd hat
 have HCH := Hd hch
 have WA := Hd wa
 have HSH := Hd hsh
 clear hcp hat hch ha wa hsh hc hUk
 go_enter Tryz.func58, Tryz.ntmps58
 go_wp2_with fail
 refine HCP.out.mono ?_
 rintro e w1 ⟨g, rfl, R, S, ho, hR, hS, hc1⟩
 have hne := run_neErr0
 have hgu := run_guardErr0
 have hsz := hc1.size
 have hcall := HAT.out (fun x => okB ok w x ∨ okB R w1 x) p v g S w1 ByteArray.empty ((HCH.out.bel.chg hc1 (fun _ _ q => q)).mono (fun x _ hx => .inl hx)) (ho.bel.mono (fun x _ hx => .inr hx)) (fun x hx hq => by
  rcases hq with q | q
  ·have := hS x hx; have := q.2; omega
  ·exact (hR x q.1).2 hx) WA.out HSH.out (by rw [show ByteArray.empty.size = 0 from rfl]; omega)
 have HCALL := Hd hcall
 have HS := Hd hS
 have HR := Hd hR
 have HC1 := Hd hc1
 clear hcall ho hR hS hc1
 go_wp2_with fail
 refine HCALL.out.mono ?_
 intro e w2 hp2
 cases hr : allV false c v with
 | none =>
  rw [hr] at hp2
  obtain ⟨⟨mv, eb, rfl⟩, hc⟩ := hp2
  have HC := Hd hc
  have HRR := Hd hr
  clear hc hr
  go_wp2
  go_ret2
  rw [HRR.out]
  exact ⟨⟨mv, eb, rfl⟩, HC1.out.trans HC.out (fun x hx q => by have := HS.out x q; omega)⟩
 | some t =>
  rw [hr] at hp2
  obtain ⟨rfl, ⟨R2, S2, ho, hRb, hSb, hRS, hc⟩, hw⟩ := hp2
  have HC := Hd hc
  have HW := Hd hw
  have HO := Hd ho
  have HSB := Hd hSb
  have HRB := Hd hRb
  have HRR := Hd hr
  clear hc hr hw ho hSb hRb hRS
  go_wp2
  go_ret2
  rw [HRR.out]
  refine ⟨⟨g, rfl, HO.out.anyJ.mono (fun x _ hx => ?_)⟩, HC1.out.trans HC.out (fun x hx q => by have := HS.out x q; omega), HW.out⟩
  rcases hx with q | q
  ·rcases (HRB.out x q).2 with q | q
   ·rcases q.1 with q | q
    ·exact .inl q
    ·exact .inr (HR.out x q.1).1
   ·exact .inr (by omega)
  ·rcases HSB.out x q with q | q
   ·exact .inr (HS.out x q)
   ·exact .inr (by omega)
def ChartRet (w : World) (c : Ch) (e : Ending) (w' : World) : Prop :=
 ∃ p R S, e = .returned (.tuple #[ptr p, .bool true]) /\ ChartO R w' p c S /\ (∀ x, R x -> w.heap.size ≤ x) /\ (∀ x, S x -> w.heap.size ≤ x) /\ (∀ x, R x -> ¬ S x) /\ Chg No w w'
structure KL (w : World) (deps : List Ch) (base p pm : Nat) (mv wv : Value) (name ver : K) (vals : J) (wants : List Want) (qs : List Nat) (wr : World) (n : Nat) (dv : Value) (ps : List Nat) (R : Nat -> Prop) (F : Nat -> Nat -> Prop) : Prop where
 le : n ≤ deps.length
 len : ps.length = n
 hp : Blk wr p [ptr pm, mv, .pointer none, dv] 125
 hm : Blk wr pm [.string name, .string ver, wv] 122
 hv : ValsM R wr mv vals
 hw : RowAt R wr wv 1 (ptrRows qs)
 hx : ∀ (i q : Nat) (x : Want), qs[i]? = some q -> wants[i]? = some x -> DepM R wr q x
 own : OwnR wr base 70 1 dv (ptrRows ps)
 kid : ∀ (i q : Nat) (d : Ch), ps[i]? = some q -> deps[i]? = some d -> ChartO R wr q d (F i)
 fl : ∀ i x, F i x -> i < n
 fap : ∀ i j x, F i x -> F j x -> i = j
 fo : ∀ i x, F i x -> x ≠ p /\ x ≠ pm /\ x ∉ qs /\ w.heap.size ≤ x /\ x < wr.heap.size /\ dv.ownBlock ≠ some x
 ro : ∀ x, R x -> x ≠ p /\ x ≠ pm /\ x ∉ qs /\ w.heap.size ≤ x /\ x < wr.heap.size /\ dv.ownBlock ≠ some x /\ ∀ i, ¬ F i x
 so : w.heap.size ≤ p /\ w.heap.size ≤ pm /\ p ≠ pm /\ p ∉ qs /\ pm ∉ qs /\ (∀ q ∈ qs, w.heap.size ≤ q /\ q < wr.heap.size /\ dv.ownBlock ≠ some q)
 chg : Chg No w wr
 bs : w.heap.size ≤ base
section
variable {w : World} {deps : List Ch} {base p pm : Nat} {mv wv : Value} {name ver : K} {vals : J} {wants : List Want} {qs : List Nat} {wr : World} {n : Nat} {dv : Value} {ps : List Nat} {R : Nat -> Prop} {F : Nat -> Nat -> Prop}
theorem KL.keep {w' : World} (h : KL w deps base p pm mv wv name ver vals wants qs wr n dv ps R F) (hc : Chg No wr w') : KL w deps base p pm mv wv name ver vals wants qs w' n dv ps R F := by
 have hs := hc.size
 have hn : ∀ b, R b -> ¬ No b := fun _ _ e => e
 exact ⟨h.le, h.len, h.hp.chg hc id, h.hm.chg hc id, h.hv.chg hc hn, h.hw.chg hc hn, fun i q x h1 h2 => (h.hx i q x h1 h2).chg hc hn id, h.own.chg hc (fun _ _ e => e), fun i q d h1 h2 => (h.kid i q d h1 h2).chg hc hn (fun _ _ e => e), h.fl, h.fap,
  fun i x hx => by obtain ⟨a, b, c, d, e, f⟩ := h.fo i x hx; exact ⟨a, b, c, d, by omega, f⟩, fun x hx => by obtain ⟨a, b, c, d, e, f, g⟩ := h.ro x hx; exact ⟨a, b, c, d, by omega, f, g⟩,
  by obtain ⟨a, b, c, d, e, f⟩ := h.so; exact ⟨a, b, c, d, e, fun q hq => by obtain ⟨k1, k2, k3⟩ := f q hq; exact ⟨k1, by omega, k3⟩⟩, h.chg.trans' hc, h.bs⟩
theorem KL.step (h : KL w deps base p pm mv wv name ver vals wants qs wr n dv ps R F) {d : Ch} (hd : deps[n]? = some d) {w2 w3 w4 : World} {q : Nat} {Rc Sc : Nat -> Prop} {dv' : Value} (ho : ChartO Rc w2 q d Sc) (hR : ∀ x, Rc x -> wr.heap.size ≤ x) (hS : ∀ x, Sc x -> wr.heap.size ≤ x) (hRS : ∀ x, Rc x -> ¬ Sc x) (hc : Chg No wr w2) (h3 : Chg No w2 w3)
  (ha : AD w3 base p (ptr pm) mv (.pointer none) dv ps [q] 1 dv' w4) : KL w deps base p pm mv wv name ver vals wants qs w4 (n + 1) dv' (ps ++ [q]) (fun x => R x ∨ (Rc x /\ x < w2.heap.size)) (fun i => if i = n then Sc else F i) := by
 have hs1 := h.chg.size
 have hs2 := hc.size
 have hs3 := h3.size
 have hs4 := ha.chg.size
 have hqS : Sc q := ho.self
 have hql : ∀ x, Sc x -> x < w2.heap.size := ho.lt
 have hplt := h.hp.lt
 have hmlt := h.hm.lt
 have hdvl : ∀ k, dv.ownBlock = some k -> k < wr.heap.size := fun k hk => (h.own.elem hk).2.1
 have hcc : Chg No wr w3 := hc.trans' h3
 have hall : Chg (fun k => k = p ∨ k ∈ [q] ∨ dv.ownBlock = some k) wr w4 := (hcc.mono (fun _ _ e => e.elim)).trans ha.chg (fun _ _ e => e)
 have hqn : ∀ k, k ∈ [q] -> k = q := fun k hk => by simpa using hk
 have hq0 := hS q hqS
 have hnew : ∀ x, dv'.ownBlock = some x -> dv.ownBlock = some x ∨ w3.heap.size ≤ x := fun x hx => by
  rcases ha.new with e | e
  ·exact .inl (e ▸ hx)
  ·exact .inr (e x hx)
 have hSn : ∀ x, R x -> ¬ (x = p ∨ x ∈ [q] ∨ dv.ownBlock = some x) := fun x hx e => by
  obtain ⟨a1, a2, a3, a4, a5, a6, a7⟩ := h.ro x hx
  rcases e with e | e | e
  ·exact a1 e
  ·have := hqn x e; omega
  ·exact a6 e
 have hok3 : ∀ b, Rc b /\ b < w2.heap.size -> ¬ No b := fun _ _ e => e
 have ho3 : ChartO (fun x => Rc x /\ x < w2.heap.size) w3 q d Sc := (ho.mono (fun b hb h => ⟨h, hb⟩)).chg h3 hok3 (fun _ _ e => e)
 obtain ⟨b0, b1, b2, b3, hb3⟩ := ho3.blk
 have hkid4 : ChartO (fun x => Rc x /\ x < w2.heap.size) w4 q d Sc := by
  refine ho3.par (fun e => hRS q e.1 hqS) hb3 rfl (ha.kid q (by simp) _ _ _ _ hb3) ha.chg (fun x hx => ?_)
  rcases hx with e | e | e
  ·exact .inr ⟨fun e2 => by have := hR x e2.1; omega, fun e2 => by have := hS x e2; omega⟩
  ·exact .inl (by simpa using e)
  ·have := hdvl x e
   exact .inr ⟨fun e2 => by have := hR x e2.1; omega, fun e2 => by have := hS x e2; omega⟩
 refine ⟨(List.getElem?_eq_some_iff.1 hd).1, by simp [h.len], ha.blk, ?_, ?_, ?_, ?_, by simpa using ha.own, ?_, ?_, ?_, ?_, ?_, ?_, ?_, h.bs⟩
 ·refine h.hm.chg hall (fun e => ?_)
  rcases e with e | e | e
  ·exact h.so.2.2.1 e.symm
  ·have := hqn _ e; omega
  ·exact OwnR.notTy h.own (by decide) h.hm e
 ·exact (h.hv.chg hall hSn).mono (fun _ _ h => .inl h)
 ·exact (h.hw.chg hall hSn).mono (fun _ _ h => .inl h) (by decide)
 ·intro i q' x h1 h2
  refine ((h.hx i q' x h1 h2).chg hall hSn (fun e => ?_)).mono (fun _ _ h => .inl h)
  have hm := List.mem_of_getElem? h1
  rcases e with e | e | e
  ·exact h.so.2.2.2.1 (e ▸ hm)
  ·have := hqn _ e; have := (h.so.2.2.2.2.2 q' hm).2.1; omega
  ·exact (h.so.2.2.2.2.2 q' hm).2.2 e
 ·intro i q' d' h1 h2
  by_cases hi : i < ps.length
  ·rw [List.getElem?_append_left hi] at h1
   have hne : i ≠ n := by have := h.len; omega
   simp only [if_neg hne]
   refine ((h.kid i q' d' h1 h2).chg hall hSn (fun x hx e => ?_)).mono (fun _ _ h => .inl h)
   obtain ⟨a1, a2, a3, a4, a5, a6⟩ := h.fo i x hx
   rcases e with e | e | e
   ·exact a1 e
   ·have := hqn x e; omega
   ·exact a6 e
  ·have hi2 : i = ps.length := by
    have := (List.getElem?_eq_some_iff.1 h1).1
    simp at this
    omega
   subst hi2
   rw [List.getElem?_append_right (Nat.le_refl _), Nat.sub_self] at h1
   cases h1
   rw [h.len, hd] at h2
   cases h2
   simp only [h.len, if_true]
   exact hkid4.mono (fun _ _ h => .inr h)
 ·intro i x hx
  by_cases hi : i = n
  ·omega
  ·simp only [if_neg hi] at hx
   have := h.fl i x hx
   omega
 ·intro i j x hx hy
  by_cases hi : i = n
  ·by_cases hj : j = n
   ·omega
   ·simp only [if_pos hi] at hx
    simp only [if_neg hj] at hy
    have := (h.fo j x hy).2.2.2.2.1
    have := hS x hx
    omega
  ·by_cases hj : j = n
   ·simp only [if_neg hi] at hx
    simp only [if_pos hj] at hy
    have := (h.fo i x hx).2.2.2.2.1
    have := hS x hy
    omega
   ·simp only [if_neg hi] at hx
    simp only [if_neg hj] at hy
    exact h.fap i j x hx hy
 ·intro i x hx
  by_cases hi : i = n
  ·simp only [if_pos hi] at hx
   have h1 := hS x hx
   have h2 := hql x hx
   refine ⟨by omega, by omega, fun hm => ?_, by omega, by omega, fun e => ?_⟩
   ·have := (h.so.2.2.2.2.2 x hm).2.1; omega
   ·rcases hnew x e with e | e
    ·have := hdvl x e; omega
    ·omega
  ·simp only [if_neg hi] at hx
   obtain ⟨a1, a2, a3, a4, a5, a6⟩ := h.fo i x hx
   refine ⟨a1, a2, a3, a4, by omega, fun e => ?_⟩
   rcases hnew x e with e | e
   ·exact a6 e
   ·omega
 ·intro x hx
  rcases hx with hx | ⟨hx, hxl⟩
  ·obtain ⟨a1, a2, a3, a4, a5, a6, a7⟩ := h.ro x hx
   refine ⟨a1, a2, a3, a4, by omega, fun e => ?_, fun i hi => ?_⟩
   ·rcases hnew x e with e | e
    ·exact a6 e
    ·omega
   ·by_cases hin : i = n
    ·simp only [if_pos hin] at hi
     have := hS x hi
     omega
    ·simp only [if_neg hin] at hi
     exact a7 i hi
  ·have h1 := hR x hx
   refine ⟨by omega, by omega, fun hm => ?_, by omega, by omega, fun e => ?_, fun i hi => ?_⟩
   ·have := (h.so.2.2.2.2.2 x hm).2.1; omega
   ·rcases hnew x e with e | e
    ·have := hdvl x e; omega
    ·omega
   ·by_cases hin : i = n
    ·simp only [if_pos hin] at hi
     exact hRS x hx hi
    ·simp only [if_neg hin] at hi
     have := (h.fo i x hi).2.2.2.2.1
     omega
 ·obtain ⟨a, b, c, d', e, f⟩ := h.so
  refine ⟨a, b, c, d', e, fun y hy => ?_⟩
  obtain ⟨k1, k2, k3⟩ := f y hy
  refine ⟨k1, by omega, fun e2 => ?_⟩
  rcases hnew y e2 with e3 | e3
  ·exact k3 e3
  ·omega
 ·refine (h.chg.trans' hcc).trans ha.chg (fun i hi e => ?_)
  rcases e with e | e | e
  ·have := h.so.1; omega
  ·have := hqn _ e; omega
  ·have := (h.own.elem e).1; have := h.bs; omega
theorem KL.done (h : KL w deps base p pm mv wv name ver vals wants qs wr deps.length dv ps R F) (hwn : wants = [] -> wv = .slice none 0 0) (hwl : qs.length = wants.length) (hnd : qs.Nodup) : ChartRet w (.mk name ver vals deps wants) (.returned (.tuple #[ptr p, .bool true])) wr := by
 obtain ⟨s1, s2, s3, s4, s5, s6⟩ := h.so
 refine ⟨p, fun x => R x ∨ dv.ownBlock = some x, fun x => x = p ∨ x = pm ∨ x ∈ qs ∨ ∃ i, F i x, rfl, ?_, fun x hx => ?_, fun x hx => ?_, fun x hx hs => ?_, h.chg⟩
 ·exact .mk h.hp h.hm rfl (h.hv.mono (fun _ _ h => .inl h)) (h.own.rowAt.mono (fun _ _ h => .inr h) (by decide)) h.len (fun i q d h1 h2 => (h.kid i q d h1 h2).mono (fun _ _ h => .inl h)) (h.hw.mono (fun _ _ h => .inl h) (by decide)) hwn hwl
   (fun i q x h1 h2 => (h.hx i q x h1 h2).mono (fun _ _ h => .inl h)) h.fap (fun i x hx => by obtain ⟨a1, a2, a3, -⟩ := h.fo i x hx; exact ⟨a1, a2, a3⟩) (fun i x hx => by have := h.fl i x hx; exact this) hnd ⟨s4, s5, s3⟩ (fun x => Iff.rfl)
 ·rcases hx with hx | hx
  ·exact (h.ro x hx).2.2.2.1
  ·have := (h.own.elem hx).1; have := h.bs; omega
 ·rcases hx with rfl | rfl | hx | ⟨i, hx⟩
  ·exact s1
  ·exact s2
  ·exact (s6 x hx).1
  ·exact (h.fo i x hx).2.2.2.1
 ·rcases hx with hx | hx
  ·obtain ⟨a1, a2, a3, a4, a5, a6, a7⟩ := h.ro x hx
   rcases hs with e | e | e | ⟨i, e⟩
   ·exact a1 e
   ·exact a2 e
   ·exact a3 e
   ·exact a7 i e
  ·rcases hs with e | e | e | ⟨i, e⟩
   ·subst e; exact OwnR.notTy h.own (by decide) h.hp hx
   ·subst e; exact OwnR.notTy h.own (by decide) h.hm hx
   ·exact (s6 x e).2.2 hx
   ·exact (h.fo i x e).2.2.2.2.2 hx
end
theorem build122 (n v : K) (a : Option Addr) (k c : Nat) (w : World) : (Instr.build 122 #[(0, .string n), (1, .string v), (2, .slice a k c)]).run Tryz.prog w = .ok (.agg #[.string n, .string v, .slice a k c]) w := by kernel_rfl
theorem build125 (pm : Nat) (m : Option Nat) (w : World) : (Instr.build 125 #[(0, .pointer (some ⟨pm, 0, none⟩)), (1, .map m)]).run Tryz.prog w = .ok (.agg #[.pointer (some ⟨pm, 0, none⟩), .map m, .pointer none, .slice none 0 0]) w := by kernel_rfl
theorem valsM_of {ok : Nat -> Prop} {w : World} {m : Value} {x : J} (h : MapFor ok w m x) : ValsM ok w m x := by
 rcases h with h | ⟨t, b, h1, h2, h3⟩
 ·exact .inl h
 ·subst h2; exact .inr ⟨t, b, h1, rfl, h3⟩
theorem chartOf_any (L : Nat) : ∀ (c : Ch) (ok : Nat -> Prop) (cs : List Value) (w : World) (dep : Nat), ChJ ok w cs c -> ChR L c -> dep + L ≤ 8 -> Calls Tryz.prog 46 #[.agg cs.toArray, .int .i64 (dep : Int)] w (ChartRet w c) := by
 induction L with
 | zero => intro c ok cs w dep _ h; exact h.elim
 | succ L ih =>
  intro c ok cs w dep hcj hcr qb
  obtain ⟨name, ver, k, b, i, f, t, kv, lv, dv, wv, rfl, hnm, hvr, hv, ⟨drows, hd, hn, hdr⟩, ⟨wrows, hw, hm, hwr⟩⟩ := hcj.bel.cells
  have HV := Hd hv
  have HD := Hd hd
  have HN := Hd hn
  have HDR := Hd hdr
  have HW := Hd hw
  have HM := Hd hm
  have HWR := Hd hwr
  have IH := Hd ih
  have HCR := Hd hcr
  have HNM := Hd hnm
  have HVR := Hd hvr
  have HDEP := Hd qb
  have hd20 : ¬ (20 : Int) < (drows.length : Int) := by have := hcr.2.2.2.1; omega
  have hd1 : (drows.length : Int) ≤ 20 := by omega
  have hdp : ¬ (8 : Int) < (dep : Int) := by omega
  have hdp2 : (dep : Int) ≤ 8 := by omega
  obtain ⟨-, -, da, dc, rfl, -, -⟩ := hd
  have hfacts : ∀ W, (w.alloc (.cells (cells11 name ver k b i f t kv lv (.slice da drows.length dc) wv).toArray 30)) = W -> Blk W w.heap.size (cells11 name ver k b i f t kv lv (.slice da drows.length dc) wv) 30 /\ Chg No w W := by
   rintro W rfl
   exact ⟨Blk.new _ _ _, (Chg.refl No w).alloc _⟩
  have HF := Hd hfacts
  clear hfacts hv hn hdr hw hm hwr ih hcr hnm hvr qb hcj
  go_enter Tryz.func46, Tryz.ntmps46
  unfold cells11
  go_upto_region 1 with fail
  generalize hgw : World.alloc _ _ = W
  obtain ⟨b0, c1⟩ := HF.out W hgw
  clear hgw HF
  obtain ⟨gx, hgx⟩ : ∃ g, g = w.heap.size := ⟨_, rfl⟩
  rw [← hgx] at b0 ⊢
  have HB0 := Hd b0
  have HC1 := Hd c1
  have b2 := b0.vals11
  clear b0 c1 hgx
  go_wp2_with (first | (with_reducible refine wpList_loadAgg rfl agg26 rfl rfl b2 rfl ?_))
  have hcr1 := HCR.out.1
  refine (table_any (N := 400) (d := 50) (by decide) (HV.out.chg HC1.out (fun _ _ e => e)) hcr1.1 hcr1.2.2 (Nat.le_trans hcr1.2.1 (by decide)) (by decide)).mono ?_
  rintro e w2 ⟨mv, rfl, hmf, hc2⟩
  have HMF := Hd hmf
  have HC2 := Hd (HC1.out.trans' hc2)
  have HSZ1 := Hd (show w.heap.size ≤ W.heap.size from HC1.out.size)
  obtain ⟨mp, rfl⟩ := hmf.slice
  have k10 : w2.cell? ⟨gx, 10, none⟩ = some wv := (HB0.out.chg hc2 id).cell 10
  have HB2 := Hd (HB0.out.chg hc2 id)
  clear hmf hc2 b2 hcr1 HB0
  go_wp2_with fail
  refine (wantsOf_any (HW.out.chg HC2.out (fun _ _ e => e)) HM.out (fun n r x h1 h2 => (HWR.out n r x h1 h2).chg HC2.out (fun _ _ e => e)) HCR.out.2.2.2.2.2.2.2.1 HCR.out.2.2.2.2.2.2.1).mono ?_
  rintro e w3 ⟨wv3, qs, rfl, qe, hwn, hrow, hql, hqn, hqlo, hdm, hc3⟩
  obtain ⟨wa3, wn3, wc3, rfl⟩ := qe
  have HROW := Hd hrow
  have HWN := Hd hwn
  have HQL := Hd hql
  have HQN := Hd hqn
  have HQLO := Hd hqlo
  have HDM := Hd hdm
  have HC3 := Hd (HC2.out.trans' hc3)
  have HC23 := Hd hc3
  have HB3 := Hd (HB2.out.chg hc3 id)
  have k9 : w3.cell? ⟨gx, 9, none⟩ = some (.slice da drows.length dc) := HB3.out.cell 9
  have k1 : w3.cell? ⟨gx, 1, none⟩ = some (.string ver) := HB3.out.cell 1
  clear hrow hwn hql hqn hqlo hdm hc3 k10 HB2
  go_wp2_with fail
  refine (plain_any ver (by rw [← HVR.out]; exact HCR.out.2.2.1.2.ok) (by rw [← HVR.out]; exact HCR.out.2.2.1.1) w3).mono ?_
  rintro e wt ⟨rfl, hwt⟩
  obtain rfl := hwt.symm
  clear hwt
  have k0 : w3.cell? ⟨gx, 0, none⟩ = some (.string name) := HB3.out.cell 0
  have hb1 := build122
  have hb2 := build125
  go_upto_region 6 with fail
  obtain ⟨w4, hw4⟩ : ∃ w4, w4 = (w3.alloc (.cells #[.string name, .string ver, .slice wa3 wn3 wc3] 122)).alloc (.cells #[ptr w3.heap.size, .map mp, .pointer none, .slice none 0 0] 125) := ⟨_, rfl⟩
  have hpm : Blk w4 w3.heap.size [.string name, .string ver, .slice wa3 wn3 wc3] 122 := by rw [hw4]; exact (Blk.new _ _ _).alloc _
  have hp : Blk w4 (w3.heap.size + 1) [ptr w3.heap.size, .map mp, .pointer none, .slice none 0 0] 125 := by rw [hw4]; exact Blk.newAt (by simp) _ _
  have hc4 : Chg No w3 w4 := by rw [hw4]; exact ((Chg.refl No w3).alloc _).alloc _
  have hz4 : w4.heap.size = w3.heap.size + 2 := by rw [hw4]; simp
  rw [← hw4]
  obtain ⟨pm, hpme⟩ : ∃ pm, pm = w3.heap.size := ⟨_, rfl⟩
  rw [← hpme] at hpm hp hz4 ⊢
  have HPM := Hd hpme
  have HKL0 := Hd (show ∃ R, KL w c.deps w.heap.size (pm + 1) pm (.map mp) (.slice wa3 wn3 wc3) name ver c.vals c.wants qs w4 0 (.slice none 0 0) [] R (fun _ _ => False) from by
   have hs1 := HC2.out.size
   have hs2 := HC23.out.size
   have hql2 : ∀ q ∈ qs, w2.heap.size ≤ q /\ q < w3.heap.size := fun q hq => by
    obtain ⟨i, hi⟩ := List.getElem?_of_mem hq
    have hil := (List.getElem?_eq_some_iff.1 hi).1
    obtain ⟨x, hx⟩ : ∃ x, c.wants[i]? = some x := ⟨_, List.getElem?_eq_getElem (by rw [← HQL.out]; exact hil)⟩
    exact ⟨HQLO.out q hq, (HDM.out i q x hi hx).lt⟩
   have hn2 : ∀ b, (fun x => (w.heap.size ≤ x /\ x < w2.heap.size) ∨ (w2.heap.size ≤ x /\ x ∉ qs /\ x < w3.heap.size)) b -> ¬ No b := fun _ _ e => e
   refine ⟨fun x => (w.heap.size ≤ x /\ x < w2.heap.size) ∨ (w2.heap.size ≤ x /\ x ∉ qs /\ x < w3.heap.size), Nat.zero_le _, rfl, hp, hpm, ?_, ?_, ?_, OwnR.nil _ _ _ _, fun i q d h => by simp at h, fun i x h => h.elim, fun i j x h => h.elim, fun i x h => h.elim, fun x hx => ?_, ⟨by omega, by omega, by omega, fun hm => ?_, fun hm => ?_, fun q hq => ?_⟩, HC3.out.trans' hc4, ?_⟩
   ·refine ((((valsM_of HMF.out).mono (ok' := fun x => w.heap.size ≤ x /\ x < w2.heap.size) (fun x hx h => ⟨by have := HSZ1.out; omega, hx⟩)).chg HC23.out (fun _ _ e => e)).chg hc4 (fun _ _ e => e)).mono (fun x _ h => .inl h)
   ·exact ((HROW.out.mono (ok' := fun x => w2.heap.size ≤ x /\ x ∉ qs /\ x < w3.heap.size) (fun x hx h => ⟨h.1, h.2, hx⟩) (by decide)).chg hc4 (fun _ _ e => e)).mono (fun x _ h => .inr h) (by decide)
   ·intro i q x h1 h2
    exact (((HDM.out i q x h1 h2).mono (ok' := fun x => w2.heap.size ≤ x /\ x ∉ qs /\ x < w3.heap.size) (fun x hx h => ⟨h.1, h.2, hx⟩)).chg hc4 (fun _ _ e => e) id).mono (fun x _ h => .inr h)
   ·rcases hx with ⟨h1, h2⟩ | ⟨h1, h2, h3⟩
    ·exact ⟨by omega, by omega, fun hm => by have := (hql2 x hm).1; omega, h1, by omega, (fun e => by cases e), fun i e => e.elim⟩
    ·exact ⟨by omega, by omega, h2, by omega, by omega, (fun e => by cases e), fun i e => e.elim⟩
   ·have := (hql2 _ hm).2; omega
   ·have := (hql2 _ hm).2; omega
   ·have := hql2 q hq; exact ⟨by omega, by omega, fun e => by cases e⟩
   ·have := HC3.out.size; have := hc4.size; omega)
  have HB4 := Hd (HB3.out.chg hc4 id)
  have HC4 := Hd (HC3.out.trans' hc4)
  have q9 : w4.cell? ⟨gx, 9, none⟩ = some (.slice da drows.length dc) := HB4.out.cell 9
  clear hpm hp hc4 hz4 hw4 hpme k0 k1 k9 hb1 hb2
  go_wp2_with fail
  clear q9
  go_loopw [62] (fun ct wr => ∃ (n : Nat) (dv : Value) (ps : List Nat) (R : Nat -> Prop) (F : Nat -> Nat -> Prop), ct = .int .i64 n /\ KL w c.deps w.heap.size (pm + 1) pm (.map mp) (.slice wa3 wn3 wc3) name ver c.vals c.wants qs wr n dv ps R F) (fun ct _ => drows.length - (intOf ct).toNat)
  case atStart => obtain ⟨R, h⟩ := HKL0.out; exact ⟨0, _, _, _, _, rfl, h⟩
  case round =>
   obtain ⟨n, dv, ps, R, F, rfl, hkl⟩ := hrel
   have HKL := Hd hkl
   clear hkl HKL0
   by_cases hlt : n < drows.length
   ·obtain ⟨r, hr0⟩ : ∃ r, drows[n]? = some r := ⟨_, List.getElem?_eq_getElem hlt⟩
    obtain ⟨d, hd2⟩ : ∃ d, c.deps[n]? = some d := ⟨_, List.getElem?_eq_getElem (by rw [← HN.out]; exact hlt)⟩
    obtain ⟨lb, lo, rfl, -, hlc⟩ := HD.out.at (i := n) (r := r) hr0
    have hlc := hlc.chg HKL.out.chg id
    have hch := (HDR.out n r d hr0 hd2).chg HKL.out.chg (fun _ _ e => e)
    obtain ⟨hrl, hro⟩ := hch.one
    have HCH := Hd (hch.chg ((Chg.refl No wr).alloc (.cells r.toArray 30)) (fun _ _ e => e))
    have HD2 := Hd hd2
    have h64 : (n : Int) < (drows.length : Int) := by omega
    clear hr0 hd2 hch
    go_wp2_with (first | (with_reducible refine wpList_loadAgg rfl agg30 rfl rfl hlc hrl ?_) | (with_reducible refine wpList_storeNew rfl agg30 rfl rfl rfl rfl hrl hro ?_) | (with_reducible refine wpList_loadAgg rfl agg30 rfl rfl (Blk.new wr r 30).cells hrl ?_))
    have hcall := IH.out d (okB ok w) r (wr.alloc (.cells r.toArray 30)) (dep + 1) HCH.out (HCR.out.2.2.2.2.2.1 d (List.mem_of_getElem? HD2.out)) (by have := HDEP.out; omega)
    rw [show (((dep + 1 : Nat)) : Int) = (dep : Int) + 1 by omega] at hcall
    refine Calls.mono hcall ?_
    rintro e w6 ⟨q, Rc, Sc, rfl, ho, hR, hS, hRS, hc6⟩
    have HKLa := Hd (HKL.out.keep ((Chg.refl No wr).alloc (.cells r.toArray 30)))
    have HKL6 := Hd (HKLa.out.keep hc6)
    have HO := Hd ho
    have HR1 := Hd hR
    have HS1 := Hd hS
    have HRS := Hd hRS
    have HC6 := Hd hc6
    clear hcall ho hR hS hRS hc6 hlc hrl hro
    go_wp2_with fail
    have hS1 := HS1.out
    have hpq : pm + 1 ∉ [q] := fun hm => by
     have h1 : pm + 1 = q := by simpa using hm
     have := HKLa.out.hp.lt
     have := hS1 q HO.out.self
     omega
    have hcall2 := addDep_any (ok := fun b => b = w6.heap.size) w.heap.size (pm + 1) (ptr pm) (.map mp) (.pointer none) dv ps [q] (.slice (some ⟨w6.heap.size, 0, none⟩) 1 1) (w6.alloc (.cells #[ptr q] 70)) (by have h9 := HKL6.out.chg.size; simp; omega) (HKL6.out.hp.alloc _) (HKL6.out.own.alloc _) (RowAt.one1 w6 [ptr q] 70 1 rfl)
     (fun b hb hl => by
      subst hb
      refine ⟨fun e => by have := HKL6.out.hp.lt; omega, fun hm => ?_, fun e => by have := (HKL6.out.own.elem e).2.1; omega⟩
      have h1 : w6.heap.size = q := by simpa using hm
      have := HO.out.lt q HO.out.self
      omega) (by simp) hpq (fun y hy => by
      obtain rfl : y = q := by simpa using hy
      obtain ⟨b0, b1, b2, b3, hb⟩ := HO.out.blk
      exact ⟨b0, b1, b2, b3, hb.alloc _⟩) (by have := HKL6.out.len; have := HKL6.out.le; have := HCR.out.2.2.2.1; simp; omega)
    refine Calls.mono hcall2 ?_
    rintro e w7 ⟨rfl, dv', had⟩
    have HKLN := Hd (HKLa.out.step HD2.out HO.out HR1.out HS1.out HRS.out HC6.out ((Chg.refl No w6).alloc (.cells #[ptr q] 70)) had)
    clear hcall2 had hpq hS1
    go_wp2_with fail
    go_roundw
    case rel => first | exact ⟨n + 1, dv', _, _, _, by go_num, HKLN.out⟩ | ((repeat apply Exists.intro); exact ⟨⟨n + 1, dv', _, _, _, by go_num, HKLN.out⟩, rfl⟩)
    case measure => simp [intOf]; omega
   ·have hnl : n = drows.length := by have := HKL.out.le; have := HN.out; omega
    subst hnl
    have h64 : ¬ ((drows.length : Nat) : Int) < (drows.length : Int) := by omega
    have HDONE := Hd (show ChartRet w c (.returned (.tuple #[ptr (pm + 1), .bool true])) wr by
     have h1 := HKL.out
     rw [show drows.length = c.deps.length from HN.out] at h1
     have h2 := h1.done HWN.out HQL.out HQN.out
     have h3 : Ch.mk name ver c.vals c.deps c.wants = c := by rw [← HNM.out, ← HVR.out]; cases c; rfl
     rw [h3] at h2
     exact h2)
    go_wp2
    go_ret2
    exact HDONE.out
end Go.Proofs.YtljaoopfomcaoaaGreatDoor
