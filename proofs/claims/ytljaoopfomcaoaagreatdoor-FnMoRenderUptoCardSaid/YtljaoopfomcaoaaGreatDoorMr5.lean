/- A part of the proof. -/
import Derived.Test.YtljaoopfomcaoaaGreatDoorMr4
set_option linter.unusedVariables false
set_option linter.unusedSimpArgs false
set_option maxRecDepth 100000
set_option maxHeartbeats 4000000
namespace Go.Proofs.YtljaoopfomcaoaaGreatDoor
open Go.RowKit
def chartK : K := ⟨#[67, 104, 97, 114, 116]⟩
def relK : K := ⟨#[82, 101, 108, 101, 97, 115, 101]⟩
def valsK : K := ⟨#[86, 97, 108, 117, 101, 115]⟩
def nsK : K := ⟨#[78, 97, 109, 101, 115, 112, 97, 99, 101]⟩
def upK : K := ⟨#[73, 115, 85, 112, 103, 114, 97, 100, 101]⟩
def insK : K := ⟨#[73, 115, 73, 110, 115, 116, 97, 108, 108]⟩
def revK : K := ⟨#[82, 101, 118, 105, 115, 105, 111, 110]⟩
def svcK : K := ⟨#[83, 101, 114, 118, 105, 99, 101]⟩
def helmK : K := ⟨#[72, 101, 108, 109]⟩
def entTop (pm : Nat) (γ2 : Option Nat) : List Ent := [(6, chartK, .iface 120 (ptr pm)), (32, relK, .iface 67 (.map γ2))]
def entRel (nm ns : K) (rev : Int) (up ins : Bool) : List Ent := [(11, nameK, .iface 9 (.string nm)), (15, nsK, .iface 9 (.string ns)), (19, upK, .iface 4 (.bool up)), (23, insK, .iface 4 (.bool ins)), (27, revK, .iface 3 (.int .i64 rev)), (29, svcK, .iface 9 (.string helmK))]
theorem entTop_keys (pm : Nat) (γ2 : Option Nat) : ((entTop pm γ2).map (·.1)).Nodup /\ ((entTop pm γ2).map (·.2.1)).Nodup := by
 have h : chartK ≠ relK := by decide
 exact ⟨by simp [entTop], by simp [entTop, h]⟩
theorem entRel_keys (nm ns : K) (rev : Int) (up ins : Bool) : ((entRel nm ns rev up ins).map (·.1)).Nodup /\ ((entRel nm ns rev up ins).map (·.2.1)).Nodup := by
 refine ⟨by simp [entRel], ?_⟩
 show [nameK, nsK, upK, insK, revK, svcK].Nodup
 decide
structure GV (pm : Nat) (nm ns : K) (rev : Int) (up ins : Bool) (wr : World) (γ : Option Nat × Option Nat) (done : Nat -> Bool) (w : World) : Prop where
 top : MH wr.heap.size 0 (entTop pm γ.2) γ.1 done w
 rel : MH wr.heap.size 7 (entRel nm ns rev up ins) γ.2 done w
 chg : Chg No wr w
 ne : ∀ b1 b2, γ.1 = some b1 -> γ.2 = some b2 -> b1 ≠ b2
section
variable {pm : Nat} {nm ns : K} {rev : Int} {up ins : Bool} {wr : World} {γ : Option Nat × Option Nat} {done : Nat -> Bool} {w w' : World}
theorem GV.start (wr : World) : GV pm nm ns rev up ins wr (none, none) (fun _ => false) wr.drew :=
 ⟨MH.start _ _ _ _, MH.start _ _ _ _, (Chg.refl _ wr).drew, fun b1 b2 h => by cases h⟩
def wrV : List Nat := [0, 6, 7, 11, 15, 19, 23, 27, 29, 32]
theorem entTop_at {γ2 : Option Nat} : ∀ e ∈ entTop pm γ2, e.1 ∈ [6, 32] := by
 intro e he
 simp only [entTop, List.mem_cons, List.not_mem_nil, or_false] at he
 rcases he with rfl | rfl <;> simp
theorem entRel_at : ∀ e ∈ entRel nm ns rev up ins, e.1 ∈ [11, 15, 19, 23, 27, 29] := by
 intro e he
 simp only [entRel, List.mem_cons, List.not_mem_nil, or_false] at he
 rcases he with rfl | rfl | rfl | rfl | rfl | rfl <;> simp
theorem GV.other (h : GV pm nm ns rev up ins wr γ done w) {i : Nat} (hi : i ∉ wrV) (hc : Chg No w w') : GV pm nm ns rev up ins wr γ (dn done i) w' := by
 simp only [wrV, List.mem_cons, List.not_mem_nil, or_false, not_or] at hi
 refine ⟨h.top.other hi.1 (fun e he e2 => ?_) hc, h.rel.other hi.2.2.1 (fun e he e2 => ?_) hc, h.chg.trans' hc, h.ne⟩
 ·have := entTop_at e he; rw [e2] at this; simp at this; omega
 ·have := entRel_at e he; rw [e2] at this; simp at this; omega
theorem GV.layTop {γ2 : Option Nat} (h : GV pm nm ns rev up ins wr (none, γ2) done w) (n6 : done 6 = false) (n32 : done 32 = false) : GV pm nm ns rev up ins wr (some w.heap.size, γ2) (dn done 0) (w.alloc (.map #[] 0)) := by
 have hc := (Chg.refl No w).alloc (.map #[] 0)
 refine ⟨h.top.lay h.chg.size (fun e he => ?_), h.rel.other (by decide) (fun e he e2 => ?_) hc, h.chg.trans' hc, fun b1 b2 h1 h2 => ?_⟩
 ·simp only [entTop, List.mem_cons, List.not_mem_nil, or_false] at he
  rcases he with rfl | rfl
  ·exact ⟨n6, by simp⟩
  ·exact ⟨n32, by simp⟩
 ·have := entRel_at e he; rw [e2] at this; simp at this
 ·cases h1
  have := (h.rel.map b2 h2).2.lt
  omega
theorem GV.layRel {γ1 : Option Nat} (h : GV pm nm ns rev up ins wr (γ1, none) done w) (n11 : done 11 = false) (n15 : done 15 = false) (n19 : done 19 = false) (n23 : done 23 = false) (n27 : done 27 = false) (n29 : done 29 = false) (n32 : done 32 = false) : GV pm nm ns rev up ins wr (γ1, some w.heap.size) (dn done 7) (w.alloc (.map #[] 0)) := by
 have hc := (Chg.refl No w).alloc (.map #[] 0)
 have h1 : MH wr.heap.size 0 (entTop pm (some w.heap.size)) γ1 done w := h.top.tell (by funext k; simp [entTop, insF, n32]) (by simp [entTop, cntD])
 refine ⟨h1.other (by decide) (fun e he e2 => ?_) hc, h.rel.lay h.chg.size (fun e he => ?_), h.chg.trans' hc, fun b1 b2 h1 h2 => ?_⟩
 ·have := entTop_at e he; rw [e2] at this; simp at this
 ·simp only [entRel, List.mem_cons, List.not_mem_nil, or_false] at he
  rcases he with rfl | rfl | rfl | rfl | rfl | rfl
  ·exact ⟨n11, by simp⟩
  ·exact ⟨n15, by simp⟩
  ·exact ⟨n19, by simp⟩
  ·exact ⟨n23, by simp⟩
  ·exact ⟨n27, by simp⟩
  ·exact ⟨n29, by simp⟩
 ·cases h2
  have := (h.top.map b1 h1).2.lt
  omega
theorem GV.putTop {γ2 : Option Nat} {b i : Nat} {k : K} {v : Value} (h : GV pm nm ns rev up ins wr (some b, γ2) done w) (hm : (i, k, v) ∈ entTop pm γ2) (hd : done i = false) (hi : i ∉ [0, 7, 11, 15, 19, 23, 27, 29]) (hmb : MapB w' b (cntD (entTop pm γ2) done + 1) (fun z => if z = k then some v else insF (entTop pm γ2) done z)) (hc : Chg (· = b) w w') : GV pm nm ns rev up ins wr (some b, γ2) (dn done i) w' := by
 simp only [List.mem_cons, List.not_mem_nil, or_false, not_or] at hi
 have hbl := (h.top.map b rfl).1
 refine ⟨h.top.put hm (entTop_keys _ _).1 (entTop_keys _ _).2 hd hi.1 hmb, h.rel.chg hi.2.1 (fun e he e2 => ?_) hc (fun b2 n f hb2 _ e => h.ne b b2 rfl hb2 e.symm), h.chg.trans hc (fun x hx e => by have e1 : x = b := e; omega), h.ne⟩
 have := entRel_at e he; rw [e2] at this; simp at this; omega
theorem GV.putRel {γ1 : Option Nat} {b i : Nat} {k : K} {v : Value} (h : GV pm nm ns rev up ins wr (γ1, some b) done w) (hm : (i, k, v) ∈ entRel nm ns rev up ins) (hd : done i = false) (hi : i ∉ [0, 6, 7, 32]) (hmb : MapB w' b (cntD (entRel nm ns rev up ins) done + 1) (fun z => if z = k then some v else insF (entRel nm ns rev up ins) done z)) (hc : Chg (· = b) w w') : GV pm nm ns rev up ins wr (γ1, some b) (dn done i) w' := by
 simp only [List.mem_cons, List.not_mem_nil, or_false, not_or] at hi
 have hbl := (h.rel.map b rfl).1
 refine ⟨h.top.chg hi.1 (fun e he e2 => ?_) hc (fun b2 n f hb2 _ e => h.ne b2 b hb2 rfl e), h.rel.put hm (entRel_keys _ _ _ _ _).1 (entRel_keys _ _ _ _ _).2 hd hi.2.2.1 hmb, h.chg.trans hc (fun x hx e => by have e1 : x = b := e; omega), h.ne⟩
 have := entTop_at e he; rw [e2] at this; simp at this; omega
def TopF (pm br : Nat) : K -> Option Value := fun k => if k = chartK then some (.iface 120 (ptr pm)) else if k = relK then some (.iface 67 (.map (some br))) else none
def RelF (nm ns : K) (rev : Int) (up ins : Bool) : K -> Option Value := fun k => if k = nameK then some (.iface 9 (.string nm)) else if k = nsK then some (.iface 9 (.string ns)) else if k = upK then some (.iface 4 (.bool up)) else if k = insK then some (.iface 4 (.bool ins)) else if k = revK then some (.iface 3 (.int .i64 rev)) else if k = svcK then some (.iface 9 (.string helmK)) else none
theorem GV.fin {bt br : Nat} (h : GV pm nm ns rev up ins wr (some bt, some br) (fun j => decide (j < 35)) w) : MapB w bt 2 (TopF pm br) /\ MapB w br 6 (RelF nm ns rev up ins) /\ wr.heap.size ≤ bt /\ wr.heap.size ≤ br /\ bt ≠ br := by
 obtain ⟨h1, h2⟩ := h.top.map bt rfl
 obtain ⟨h3, h4⟩ := h.rel.map br rfl
 refine ⟨?_, ?_, h1, h3, h.ne bt br rfl rfl⟩
 ·have hf : insF (entTop pm (some br)) (fun j => decide (j < 35)) = TopF pm br := by funext k; simp [insF, entTop, TopF]
  rw [← hf]
  exact h2
 ·have hf : insF (entRel nm ns rev up ins) (fun j => decide (j < 35)) = RelF nm ns rev up ins := by funext k; simp [insF, entRel, RelF]
  rw [← hf]
  exact h4
end
def TopRet (ok : Nat -> Prop) (pm : Nat) (nm ns : K) (rev : Int) (up ins : Bool) (w : World) : Option T -> Ending -> World -> Prop
 | none, e, w' => (∃ mv b, e = .returned (.tuple #[mv, .iface 175 (.pointer (some ⟨b, 0, none⟩))])) /\ Chg No w w'
 | some t, e, w' => ∃ bt br g, e = .returned (.tuple #[.map (some bt), .nilIface]) /\ Chg No w w' /\ MapB w' bt 3 (fun k => if k = valsK then some (.iface 86 (.map (some g))) else TopF pm br k) /\ MapB w' br 6 (RelF nm ns rev up ins) /\ AnyJ (fun x => x < w'.heap.size /\ x ≠ bt) w' (.iface 67 (.map (some g))) (.table t)
theorem toRender_any (U : List K) (N : Nat) (ok : Nat -> Prop) (p b pm : Nat) (mv par dv : Value) (nm ns : K) (rev : Int) (up ins : Bool) (r : Option T) (w : World) (hb : Blk w p [ptr pm, mv, par, dv] 125)
  (hcall : ∀ w1, Chg No w w1 -> Calls Tryz.prog 58 #[.pointer (some ⟨p, 0, none⟩), .map (some b)] w1 (CoalRet U N (okB ok w) w1 r)) :
  Calls Tryz.prog 106 #[.pointer (some ⟨p, 0, none⟩), .map (some b), .agg #[.string nm, .string ns, .int .i64 rev, .bool up, .bool ins]] w (TopRet ok pm nm ns rev up ins w r) := by
 have HCALL := Hd hcall
 have hfacts : ∀ wr, w.alloc (.cells [.string nm, .string ns, .int .i64 rev, .bool up, .bool ins].toArray 149) = wr -> Blk wr p [ptr pm, mv, par, dv] 125 /\ Blk wr w.heap.size [.string nm, .string ns, .int .i64 rev, .bool up, .bool ins] 149 /\ Chg No w wr := by
  rintro wr rfl
  exact ⟨hb.alloc _, Blk.new _ _ _, (Chg.refl No w).alloc _⟩
 have HF := Hd hfacts
 clear hcall hb hfacts
 go_enter Tryz.func106, Tryz.ntmps106
 go_upto_region 1 with fail
 generalize hgw : World.alloc _ _ = wr
 obtain ⟨hp, h5, hc⟩ := HF.out wr hgw
 clear hgw HF
 obtain ⟨g5, hg5⟩ : ∃ g5, g5 = w.heap.size := ⟨_, rfl⟩
 rw [← hg5] at h5 ⊢
 have HP := Hd hp
 have HB5 := Hd h5
 have HCW := Hd hc
 clear hp h5 hc hg5
 refine wp_region_ghost (fun γ => FI [.mapG γ.1, .eq (.pointer (some ⟨p, 0, none⟩)), .eq (.pointer (some ⟨p, 0, none⟩)), .eq (.pointer (some ⟨p, 0, none⟩)), .eq (ptr pm), .eq (.iface 120 (ptr pm)), .any, .mapG γ.2, .eq (.pointer (some ⟨g5, 0, none⟩)), .eq (.string nm), .eq (.iface 9 (.string nm)), .any, .eq (.pointer (some ⟨g5, 1, none⟩)), .eq (.string ns), .eq (.iface 9 (.string ns)), .any, .eq (.pointer (some ⟨g5, 3, none⟩)), .eq (.bool up), .eq (.iface 4 (.bool up)), .any, .eq (.pointer (some ⟨g5, 4, none⟩)), .eq (.bool ins), .eq (.iface 4 (.bool ins)), .any, .eq (.pointer (some ⟨g5, 2, none⟩)), .eq (.int .i64 rev), .eq (.iface 3 (.int .i64 rev)), .any, .eq (.iface 9 (.string helmK)), .any, .mapG γ.2, .ifM γ.2, .any, .mapG γ.1, .mapG γ.1])
  (fun γ done w' => GV pm nm ns rev up ins wr γ done w') (by kernel_rfl) (by kernel_rfl) (none, none) (GV.start _) ?_ ?_
 ·refine ⟨?_, ?_, ?_, ?_, ?_, ?_, ?_, ?_, ?_, ?_, ?_, ?_, ?_, ?_, ?_, ?_, ?_, ?_, ?_, ?_, ?_, ?_, ?_, ?_, ?_, ?_, ?_, ?_, ?_, ?_, ?_, ?_, ?_, ?_, ?_, trivial⟩
  ·intro γ done a w1 K hd qd qe qf qb hG hK
   have hnone := hG.top.noMap hd
   have n6 : done 6 = false := by
    cases hh0 : done 6 with
    | false => rfl
    | true => have := qd 6 0 rfl hh0; rw [hd] at this; cases this
   have n32 : done 32 = false := by
    cases hh0 : done 32 with
    | false => rfl
    | true => have := qd 32 0 rfl hh0; rw [hd] at this; cases this
   obtain ⟨γ1, γ2⟩ := γ
   obtain rfl : γ1 = none := hnone
   have hmk := run_makeMap67n
   have HLAY := Hd (hG.layTop n6 n32)
   have HCL := Hd qd
   have HD0 := Hd hd
   clear qe qf qb n6 n32 qd
   go_simp
   have qd := HCL.out
   refine hK (some w1.heap.size, γ2) _ _ ⟨_, rfl, rfl⟩ HLAY.out ?_
   refine fun j hj hdj u hu => ?_
   match j, hj with
   | 0, hj => exact absurd rfl hj
   | 1, _ => exact hu.keepNo ((Chg.refl No w1).alloc _)
   | 2, _ => exact hu.keepNo ((Chg.refl No w1).alloc _)
   | 3, _ => exact hu.keepNo ((Chg.refl No w1).alloc _)
   | 4, _ => exact hu.keepNo ((Chg.refl No w1).alloc _)
   | 5, _ => exact hu.keepNo ((Chg.refl No w1).alloc _)
   | 6, _ => exact hu.keepNo ((Chg.refl No w1).alloc _)
   | 7, _ => exact hu.keepNo ((Chg.refl No w1).alloc _)
   | 8, _ => exact hu.keepNo ((Chg.refl No w1).alloc _)
   | 9, _ => exact hu.keepNo ((Chg.refl No w1).alloc _)
   | 10, _ => exact hu.keepNo ((Chg.refl No w1).alloc _)
   | 11, _ => exact hu.keepNo ((Chg.refl No w1).alloc _)
   | 12, _ => exact hu.keepNo ((Chg.refl No w1).alloc _)
   | 13, _ => exact hu.keepNo ((Chg.refl No w1).alloc _)
   | 14, _ => exact hu.keepNo ((Chg.refl No w1).alloc _)
   | 15, _ => exact hu.keepNo ((Chg.refl No w1).alloc _)
   | 16, _ => exact hu.keepNo ((Chg.refl No w1).alloc _)
   | 17, _ => exact hu.keepNo ((Chg.refl No w1).alloc _)
   | 18, _ => exact hu.keepNo ((Chg.refl No w1).alloc _)
   | 19, _ => exact hu.keepNo ((Chg.refl No w1).alloc _)
   | 20, _ => exact hu.keepNo ((Chg.refl No w1).alloc _)
   | 21, _ => exact hu.keepNo ((Chg.refl No w1).alloc _)
   | 22, _ => exact hu.keepNo ((Chg.refl No w1).alloc _)
   | 23, _ => exact hu.keepNo ((Chg.refl No w1).alloc _)
   | 24, _ => exact hu.keepNo ((Chg.refl No w1).alloc _)
   | 25, _ => exact hu.keepNo ((Chg.refl No w1).alloc _)
   | 26, _ => exact hu.keepNo ((Chg.refl No w1).alloc _)
   | 27, _ => exact hu.keepNo ((Chg.refl No w1).alloc _)
   | 28, _ => exact hu.keepNo ((Chg.refl No w1).alloc _)
   | 29, _ => exact hu.keepNo ((Chg.refl No w1).alloc _)
   | 30, _ => exact hu.keepNo ((Chg.refl No w1).alloc _)
   | 31, _ => exact hu.keepNo ((Chg.refl No w1).alloc _)
   | 32, _ => exact hu.keepNo ((Chg.refl No w1).alloc _)
   | 33, _ => exact absurd (qd 33 0 rfl (hdj)) (by rw [HD0.out]; decide)
   | 34, _ => exact absurd (qd 33 0 rfl (qd 34 33 rfl (hdj))) (by rw [HD0.out]; decide)
   | j + 35, _ => exact hu.keepNo ((Chg.refl No w1).alloc _)
  ·intro γ done a w1 K hd qd qe qf qb hG hK
   have e0 : a.tmps[0]?.getD undef = .pointer (some ⟨p, 0, none⟩) := qf 0 rfl
   clear qd qe qf qb
   go_simp
   exact hK γ _ _ rfl (hG.other (by decide) (Chg.refl No _)) (fun _ _ _ _ h => h)
  ·intro γ done a w1 K hd qd qe qf qb hG hK
   have e12 : a.tmps[12]?.getD undef = .pointer (some ⟨p, 0, none⟩) := qe 1 12 rfl (qb 1 rfl)
   clear qd qe qf qb
   go_simp
   exact hK γ _ _ rfl (hG.other (by decide) (Chg.refl No _)) (fun _ _ _ _ h => h)
  ·intro γ done a w1 K hd qd qe qf qb hG hK
   have e13 : a.tmps[13]?.getD undef = .pointer (some ⟨p, 0, none⟩) := qe 2 13 rfl (qb 2 rfl)
   clear qd qe qf qb
   go_simp
   exact hK γ _ _ rfl (hG.other (by decide) (Chg.refl No _)) (fun _ _ _ _ h => h)
  ·intro γ done a w1 K hd qd qe qf qb hG hK
   have e14 : a.tmps[14]?.getD undef = .pointer (some ⟨p, 0, none⟩) := qe 3 14 rfl (qb 3 rfl)
   have c0 : w1.cell? ⟨p, 0, none⟩ = some (ptr pm) := (HP.out.chg hG.chg id).cell 0
   clear qd qe qf qb
   go_simp
   exact hK γ _ _ rfl (hG.other (by decide) (Chg.refl No _)) (fun _ _ _ _ h => h)
  ·intro γ done a w1 K hd qd qe qf qb hG hK
   have e15 : a.tmps[15]?.getD undef = ptr pm := qe 4 15 rfl (qb 4 rfl)
   clear qd qe qf qb
   go_simp
   exact hK γ _ _ rfl (hG.other (by decide) (Chg.refl No _)) (fun _ _ _ _ h => h)
  ·intro γ done a w1 K hd qd qe qf qb hG hK
   have ni := hd
   obtain ⟨b, hγ, em⟩ := qe 0 11 rfl (qb 0 rfl)
   have e16 : a.tmps[16]?.getD undef = .iface 120 (ptr pm) := qe 5 16 rfl (qb 5 rfl)
   obtain ⟨γ1, γ2⟩ := γ
   obtain rfl : γ1 = some b := hγ
   obtain ⟨hbl, hmb⟩ := hG.top.map b rfl
   refine if_wanted rfl ?_
   refine wp_insertB rfl (by simpa [Act.eval] using em) hmb (cntD_lt _ _ (by simp [entTop, entRel])) (k := chartK) rfl (by unfold chartK maxLen; decide) (by simpa [Act.eval] using e16) ?_
   intro w2 hmb2 hc2 hs2
   refine hK (some b, γ2) undef _ trivial (hG.putTop (by simp [entTop, entRel]) hd (by decide) hmb2 hc2) ?_
   refine fun j hj hdj u hu => ?_
   match j, hj with
   | 0, _ => exact hu.keep hc2 trivial
   | 1, _ => exact hu.keep hc2 trivial
   | 2, _ => exact hu.keep hc2 trivial
   | 3, _ => exact hu.keep hc2 trivial
   | 4, _ => exact hu.keep hc2 trivial
   | 5, _ => exact hu.keep hc2 trivial
   | 6, hj => exact absurd rfl hj
   | 7, _ => exact hu.keep hc2 trivial
   | 8, _ => exact hu.keep hc2 trivial
   | 9, _ => exact hu.keep hc2 trivial
   | 10, _ => exact hu.keep hc2 trivial
   | 11, _ => exact hu.keep hc2 trivial
   | 12, _ => exact hu.keep hc2 trivial
   | 13, _ => exact hu.keep hc2 trivial
   | 14, _ => exact hu.keep hc2 trivial
   | 15, _ => exact hu.keep hc2 trivial
   | 16, _ => exact hu.keep hc2 trivial
   | 17, _ => exact hu.keep hc2 trivial
   | 18, _ => exact hu.keep hc2 trivial
   | 19, _ => exact hu.keep hc2 trivial
   | 20, _ => exact hu.keep hc2 trivial
   | 21, _ => exact hu.keep hc2 trivial
   | 22, _ => exact hu.keep hc2 trivial
   | 23, _ => exact hu.keep hc2 trivial
   | 24, _ => exact hu.keep hc2 trivial
   | 25, _ => exact hu.keep hc2 trivial
   | 26, _ => exact hu.keep hc2 trivial
   | 27, _ => exact hu.keep hc2 trivial
   | 28, _ => exact hu.keep hc2 trivial
   | 29, _ => exact hu.keep hc2 trivial
   | 30, _ => exact hu.keep hc2 trivial
   | 31, _ => exact hu.keep hc2 trivial
   | 32, _ => exact hu.keep hc2 trivial
   | 33, _ => exact hu.keep hc2 trivial
   | 34, _ => exact hu.keep hc2 trivial
   | j + 35, _ => exact hu.keep hc2 trivial
  ·intro γ done a w1 K hd qd qe qf qb hG hK
   have hnone := hG.rel.noMap hd
   have n11 : done 11 = false := by
    cases hh0 : done 11 with
    | false => rfl
    | true => have := qd 11 7 rfl hh0; rw [hd] at this; cases this
   have n15 : done 15 = false := by
    cases hh0 : done 15 with
    | false => rfl
    | true => have := qd 15 7 rfl hh0; rw [hd] at this; cases this
   have n19 : done 19 = false := by
    cases hh0 : done 19 with
    | false => rfl
    | true => have := qd 19 7 rfl hh0; rw [hd] at this; cases this
   have n23 : done 23 = false := by
    cases hh0 : done 23 with
    | false => rfl
    | true => have := qd 23 7 rfl hh0; rw [hd] at this; cases this
   have n27 : done 27 = false := by
    cases hh0 : done 27 with
    | false => rfl
    | true => have := qd 27 7 rfl hh0; rw [hd] at this; cases this
   have n29 : done 29 = false := by
    cases hh0 : done 29 with
    | false => rfl
    | true => have := qd 29 7 rfl hh0; rw [hd] at this; cases this
   have n32 : done 32 = false := by
    cases hh0 : done 32 with
    | false => rfl
    | true =>
     have hh1 := qd 32 31 rfl hh0
     have hh2 := qd 31 30 rfl hh1
     have hh3 := qd 30 7 rfl hh2
     rw [hd] at hh3; cases hh3
   obtain ⟨γ1, γ2⟩ := γ
   obtain rfl : γ2 = none := hnone
   have hmk := run_makeMap67n
   have HLAY := Hd (hG.layRel n11 n15 n19 n23 n27 n29 n32)
   have HCL := Hd qd
   have HD0 := Hd hd
   clear qe qf qb n11 n15 n19 n23 n27 n29 n32 qd
   go_simp
   have qd := HCL.out
   refine hK (γ1, some w1.heap.size) _ _ ⟨_, rfl, rfl⟩ HLAY.out ?_
   refine fun j hj hdj u hu => ?_
   match j, hj with
   | 0, _ => exact hu.keepNo ((Chg.refl No w1).alloc _)
   | 1, _ => exact hu.keepNo ((Chg.refl No w1).alloc _)
   | 2, _ => exact hu.keepNo ((Chg.refl No w1).alloc _)
   | 3, _ => exact hu.keepNo ((Chg.refl No w1).alloc _)
   | 4, _ => exact hu.keepNo ((Chg.refl No w1).alloc _)
   | 5, _ => exact hu.keepNo ((Chg.refl No w1).alloc _)
   | 6, _ => exact hu.keepNo ((Chg.refl No w1).alloc _)
   | 7, hj => exact absurd rfl hj
   | 8, _ => exact hu.keepNo ((Chg.refl No w1).alloc _)
   | 9, _ => exact hu.keepNo ((Chg.refl No w1).alloc _)
   | 10, _ => exact hu.keepNo ((Chg.refl No w1).alloc _)
   | 11, _ => exact hu.keepNo ((Chg.refl No w1).alloc _)
   | 12, _ => exact hu.keepNo ((Chg.refl No w1).alloc _)
   | 13, _ => exact hu.keepNo ((Chg.refl No w1).alloc _)
   | 14, _ => exact hu.keepNo ((Chg.refl No w1).alloc _)
   | 15, _ => exact hu.keepNo ((Chg.refl No w1).alloc _)
   | 16, _ => exact hu.keepNo ((Chg.refl No w1).alloc _)
   | 17, _ => exact hu.keepNo ((Chg.refl No w1).alloc _)
   | 18, _ => exact hu.keepNo ((Chg.refl No w1).alloc _)
   | 19, _ => exact hu.keepNo ((Chg.refl No w1).alloc _)
   | 20, _ => exact hu.keepNo ((Chg.refl No w1).alloc _)
   | 21, _ => exact hu.keepNo ((Chg.refl No w1).alloc _)
   | 22, _ => exact hu.keepNo ((Chg.refl No w1).alloc _)
   | 23, _ => exact hu.keepNo ((Chg.refl No w1).alloc _)
   | 24, _ => exact hu.keepNo ((Chg.refl No w1).alloc _)
   | 25, _ => exact hu.keepNo ((Chg.refl No w1).alloc _)
   | 26, _ => exact hu.keepNo ((Chg.refl No w1).alloc _)
   | 27, _ => exact hu.keepNo ((Chg.refl No w1).alloc _)
   | 28, _ => exact hu.keepNo ((Chg.refl No w1).alloc _)
   | 29, _ => exact hu.keepNo ((Chg.refl No w1).alloc _)
   | 30, _ => exact absurd (qd 30 7 rfl (hdj)) (by rw [HD0.out]; decide)
   | 31, _ => exact absurd (qd 30 7 rfl (qd 31 30 rfl (hdj))) (by rw [HD0.out]; decide)
   | 32, _ => exact hu.keepNo ((Chg.refl No w1).alloc _)
   | 33, _ => exact hu.keepNo ((Chg.refl No w1).alloc _)
   | 34, _ => exact hu.keepNo ((Chg.refl No w1).alloc _)
   | j + 35, _ => exact hu.keepNo ((Chg.refl No w1).alloc _)
  ·intro γ done a w1 K hd qd qe qf qb hG hK
   have e5 : a.tmps[5]?.getD undef = .pointer (some ⟨g5, 0, none⟩) := qf 5 rfl
   clear qd qe qf qb
   go_simp
   exact hK γ _ _ rfl (hG.other (by decide) (Chg.refl No _)) (fun _ _ _ _ h => h)
  ·intro γ done a w1 K hd qd qe qf qb hG hK
   have e18 : a.tmps[18]?.getD undef = .pointer (some ⟨g5, 0, none⟩) := qe 8 18 rfl (qb 8 rfl)
   have c0 : w1.cell? ⟨g5, 0, none⟩ = some (.string nm) := (HB5.out.chg hG.chg id).cell 0
   clear qd qe qf qb
   go_simp
   exact hK γ _ _ rfl (hG.other (by decide) (Chg.refl No _)) (fun _ _ _ _ h => h)
  ·intro γ done a w1 K hd qd qe qf qb hG hK
   have e19 : a.tmps[19]?.getD undef = .string nm := qe 9 19 rfl (qb 9 rfl)
   clear qd qe qf qb
   go_simp
   exact hK γ _ _ rfl (hG.other (by decide) (Chg.refl No _)) (fun _ _ _ _ h => h)
  ·intro γ done a w1 K hd qd qe qf qb hG hK
   have ni := hd
   obtain ⟨b, hγ, em⟩ := qe 7 17 rfl (qb 7 rfl)
   have e20 : a.tmps[20]?.getD undef = .iface 9 (.string nm) := qe 10 20 rfl (qb 10 rfl)
   obtain ⟨γ1, γ2⟩ := γ
   obtain rfl : γ2 = some b := hγ
   obtain ⟨hbl, hmb⟩ := hG.rel.map b rfl
   refine if_wanted rfl ?_
   refine wp_insertB rfl (by simpa [Act.eval] using em) hmb (cntD_lt _ _ (by simp [entTop, entRel])) (k := nameK) rfl (by unfold nameK maxLen; decide) (by simpa [Act.eval] using e20) ?_
   intro w2 hmb2 hc2 hs2
   refine hK (γ1, some b) undef _ trivial (hG.putRel (by simp [entTop, entRel]) hd (by decide) hmb2 hc2) ?_
   refine fun j hj hdj u hu => ?_
   match j, hj with
   | 0, _ => exact hu.keep hc2 trivial
   | 1, _ => exact hu.keep hc2 trivial
   | 2, _ => exact hu.keep hc2 trivial
   | 3, _ => exact hu.keep hc2 trivial
   | 4, _ => exact hu.keep hc2 trivial
   | 5, _ => exact hu.keep hc2 trivial
   | 6, _ => exact hu.keep hc2 trivial
   | 7, _ => exact hu.keep hc2 trivial
   | 8, _ => exact hu.keep hc2 trivial
   | 9, _ => exact hu.keep hc2 trivial
   | 10, _ => exact hu.keep hc2 trivial
   | 11, hj => exact absurd rfl hj
   | 12, _ => exact hu.keep hc2 trivial
   | 13, _ => exact hu.keep hc2 trivial
   | 14, _ => exact hu.keep hc2 trivial
   | 15, _ => exact hu.keep hc2 trivial
   | 16, _ => exact hu.keep hc2 trivial
   | 17, _ => exact hu.keep hc2 trivial
   | 18, _ => exact hu.keep hc2 trivial
   | 19, _ => exact hu.keep hc2 trivial
   | 20, _ => exact hu.keep hc2 trivial
   | 21, _ => exact hu.keep hc2 trivial
   | 22, _ => exact hu.keep hc2 trivial
   | 23, _ => exact hu.keep hc2 trivial
   | 24, _ => exact hu.keep hc2 trivial
   | 25, _ => exact hu.keep hc2 trivial
   | 26, _ => exact hu.keep hc2 trivial
   | 27, _ => exact hu.keep hc2 trivial
   | 28, _ => exact hu.keep hc2 trivial
   | 29, _ => exact hu.keep hc2 trivial
   | 30, _ => exact hu.keep hc2 trivial
   | 31, _ => exact hu.keep hc2 trivial
   | 32, _ => exact hu.keep hc2 trivial
   | 33, _ => exact hu.keep hc2 trivial
   | 34, _ => exact hu.keep hc2 trivial
   | j + 35, _ => exact hu.keep hc2 trivial
  ·intro γ done a w1 K hd qd qe qf qb hG hK
   have e5 : a.tmps[5]?.getD undef = .pointer (some ⟨g5, 0, none⟩) := qf 5 rfl
   clear qd qe qf qb
   go_simp
   exact hK γ _ _ rfl (hG.other (by decide) (Chg.refl No _)) (fun _ _ _ _ h => h)
  ·intro γ done a w1 K hd qd qe qf qb hG hK
   have e21 : a.tmps[21]?.getD undef = .pointer (some ⟨g5, 1, none⟩) := qe 12 21 rfl (qb 12 rfl)
   have c0 : w1.cell? ⟨g5, 1, none⟩ = some (.string ns) := (HB5.out.chg hG.chg id).cell 1
   clear qd qe qf qb
   go_simp
   exact hK γ _ _ rfl (hG.other (by decide) (Chg.refl No _)) (fun _ _ _ _ h => h)
  ·intro γ done a w1 K hd qd qe qf qb hG hK
   have e22 : a.tmps[22]?.getD undef = .string ns := qe 13 22 rfl (qb 13 rfl)
   clear qd qe qf qb
   go_simp
   exact hK γ _ _ rfl (hG.other (by decide) (Chg.refl No _)) (fun _ _ _ _ h => h)
  ·intro γ done a w1 K hd qd qe qf qb hG hK
   have ni := hd
   obtain ⟨b, hγ, em⟩ := qe 7 17 rfl (qb 7 rfl)
   have e23 : a.tmps[23]?.getD undef = .iface 9 (.string ns) := qe 14 23 rfl (qb 14 rfl)
   obtain ⟨γ1, γ2⟩ := γ
   obtain rfl : γ2 = some b := hγ
   obtain ⟨hbl, hmb⟩ := hG.rel.map b rfl
   refine if_wanted rfl ?_
   refine wp_insertB rfl (by simpa [Act.eval] using em) hmb (cntD_lt _ _ (by simp [entTop, entRel])) (k := nsK) rfl (by unfold nsK maxLen; decide) (by simpa [Act.eval] using e23) ?_
   intro w2 hmb2 hc2 hs2
   refine hK (γ1, some b) undef _ trivial (hG.putRel (by simp [entTop, entRel]) hd (by decide) hmb2 hc2) ?_
   refine fun j hj hdj u hu => ?_
   match j, hj with
   | 0, _ => exact hu.keep hc2 trivial
   | 1, _ => exact hu.keep hc2 trivial
   | 2, _ => exact hu.keep hc2 trivial
   | 3, _ => exact hu.keep hc2 trivial
   | 4, _ => exact hu.keep hc2 trivial
   | 5, _ => exact hu.keep hc2 trivial
   | 6, _ => exact hu.keep hc2 trivial
   | 7, _ => exact hu.keep hc2 trivial
   | 8, _ => exact hu.keep hc2 trivial
   | 9, _ => exact hu.keep hc2 trivial
   | 10, _ => exact hu.keep hc2 trivial
   | 11, _ => exact hu.keep hc2 trivial
   | 12, _ => exact hu.keep hc2 trivial
   | 13, _ => exact hu.keep hc2 trivial
   | 14, _ => exact hu.keep hc2 trivial
   | 15, hj => exact absurd rfl hj
   | 16, _ => exact hu.keep hc2 trivial
   | 17, _ => exact hu.keep hc2 trivial
   | 18, _ => exact hu.keep hc2 trivial
   | 19, _ => exact hu.keep hc2 trivial
   | 20, _ => exact hu.keep hc2 trivial
   | 21, _ => exact hu.keep hc2 trivial
   | 22, _ => exact hu.keep hc2 trivial
   | 23, _ => exact hu.keep hc2 trivial
   | 24, _ => exact hu.keep hc2 trivial
   | 25, _ => exact hu.keep hc2 trivial
   | 26, _ => exact hu.keep hc2 trivial
   | 27, _ => exact hu.keep hc2 trivial
   | 28, _ => exact hu.keep hc2 trivial
   | 29, _ => exact hu.keep hc2 trivial
   | 30, _ => exact hu.keep hc2 trivial
   | 31, _ => exact hu.keep hc2 trivial
   | 32, _ => exact hu.keep hc2 trivial
   | 33, _ => exact hu.keep hc2 trivial
   | 34, _ => exact hu.keep hc2 trivial
   | j + 35, _ => exact hu.keep hc2 trivial
  ·intro γ done a w1 K hd qd qe qf qb hG hK
   have e5 : a.tmps[5]?.getD undef = .pointer (some ⟨g5, 0, none⟩) := qf 5 rfl
   clear qd qe qf qb
   go_simp
   exact hK γ _ _ rfl (hG.other (by decide) (Chg.refl No _)) (fun _ _ _ _ h => h)
  ·intro γ done a w1 K hd qd qe qf qb hG hK
   have e24 : a.tmps[24]?.getD undef = .pointer (some ⟨g5, 3, none⟩) := qe 16 24 rfl (qb 16 rfl)
   have c0 : w1.cell? ⟨g5, 3, none⟩ = some (.bool up) := (HB5.out.chg hG.chg id).cell 3
   clear qd qe qf qb
   go_simp
   exact hK γ _ _ rfl (hG.other (by decide) (Chg.refl No _)) (fun _ _ _ _ h => h)
  ·intro γ done a w1 K hd qd qe qf qb hG hK
   have e25 : a.tmps[25]?.getD undef = .bool up := qe 17 25 rfl (qb 17 rfl)
   clear qd qe qf qb
   go_simp
   exact hK γ _ _ rfl (hG.other (by decide) (Chg.refl No _)) (fun _ _ _ _ h => h)
  ·intro γ done a w1 K hd qd qe qf qb hG hK
   have ni := hd
   obtain ⟨b, hγ, em⟩ := qe 7 17 rfl (qb 7 rfl)
   have e26 : a.tmps[26]?.getD undef = .iface 4 (.bool up) := qe 18 26 rfl (qb 18 rfl)
   obtain ⟨γ1, γ2⟩ := γ
   obtain rfl : γ2 = some b := hγ
   obtain ⟨hbl, hmb⟩ := hG.rel.map b rfl
   refine if_wanted rfl ?_
   refine wp_insertB rfl (by simpa [Act.eval] using em) hmb (cntD_lt _ _ (by simp [entTop, entRel])) (k := upK) rfl (by unfold upK maxLen; decide) (by simpa [Act.eval] using e26) ?_
   intro w2 hmb2 hc2 hs2
   refine hK (γ1, some b) undef _ trivial (hG.putRel (by simp [entTop, entRel]) hd (by decide) hmb2 hc2) ?_
   refine fun j hj hdj u hu => ?_
   match j, hj with
   | 0, _ => exact hu.keep hc2 trivial
   | 1, _ => exact hu.keep hc2 trivial
   | 2, _ => exact hu.keep hc2 trivial
   | 3, _ => exact hu.keep hc2 trivial
   | 4, _ => exact hu.keep hc2 trivial
   | 5, _ => exact hu.keep hc2 trivial
   | 6, _ => exact hu.keep hc2 trivial
   | 7, _ => exact hu.keep hc2 trivial
   | 8, _ => exact hu.keep hc2 trivial
   | 9, _ => exact hu.keep hc2 trivial
   | 10, _ => exact hu.keep hc2 trivial
   | 11, _ => exact hu.keep hc2 trivial
   | 12, _ => exact hu.keep hc2 trivial
   | 13, _ => exact hu.keep hc2 trivial
   | 14, _ => exact hu.keep hc2 trivial
   | 15, _ => exact hu.keep hc2 trivial
   | 16, _ => exact hu.keep hc2 trivial
   | 17, _ => exact hu.keep hc2 trivial
   | 18, _ => exact hu.keep hc2 trivial
   | 19, hj => exact absurd rfl hj
   | 20, _ => exact hu.keep hc2 trivial
   | 21, _ => exact hu.keep hc2 trivial
   | 22, _ => exact hu.keep hc2 trivial
   | 23, _ => exact hu.keep hc2 trivial
   | 24, _ => exact hu.keep hc2 trivial
   | 25, _ => exact hu.keep hc2 trivial
   | 26, _ => exact hu.keep hc2 trivial
   | 27, _ => exact hu.keep hc2 trivial
   | 28, _ => exact hu.keep hc2 trivial
   | 29, _ => exact hu.keep hc2 trivial
   | 30, _ => exact hu.keep hc2 trivial
   | 31, _ => exact hu.keep hc2 trivial
   | 32, _ => exact hu.keep hc2 trivial
   | 33, _ => exact hu.keep hc2 trivial
   | 34, _ => exact hu.keep hc2 trivial
   | j + 35, _ => exact hu.keep hc2 trivial
  ·intro γ done a w1 K hd qd qe qf qb hG hK
   have e5 : a.tmps[5]?.getD undef = .pointer (some ⟨g5, 0, none⟩) := qf 5 rfl
   clear qd qe qf qb
   go_simp
   exact hK γ _ _ rfl (hG.other (by decide) (Chg.refl No _)) (fun _ _ _ _ h => h)
  ·intro γ done a w1 K hd qd qe qf qb hG hK
   have e27 : a.tmps[27]?.getD undef = .pointer (some ⟨g5, 4, none⟩) := qe 20 27 rfl (qb 20 rfl)
   have c0 : w1.cell? ⟨g5, 4, none⟩ = some (.bool ins) := (HB5.out.chg hG.chg id).cell 4
   clear qd qe qf qb
   go_simp
   exact hK γ _ _ rfl (hG.other (by decide) (Chg.refl No _)) (fun _ _ _ _ h => h)
  ·intro γ done a w1 K hd qd qe qf qb hG hK
   have e28 : a.tmps[28]?.getD undef = .bool ins := qe 21 28 rfl (qb 21 rfl)
   clear qd qe qf qb
   go_simp
   exact hK γ _ _ rfl (hG.other (by decide) (Chg.refl No _)) (fun _ _ _ _ h => h)
  ·intro γ done a w1 K hd qd qe qf qb hG hK
   have ni := hd
   obtain ⟨b, hγ, em⟩ := qe 7 17 rfl (qb 7 rfl)
   have e29 : a.tmps[29]?.getD undef = .iface 4 (.bool ins) := qe 22 29 rfl (qb 22 rfl)
   obtain ⟨γ1, γ2⟩ := γ
   obtain rfl : γ2 = some b := hγ
   obtain ⟨hbl, hmb⟩ := hG.rel.map b rfl
   refine if_wanted rfl ?_
   refine wp_insertB rfl (by simpa [Act.eval] using em) hmb (cntD_lt _ _ (by simp [entTop, entRel])) (k := insK) rfl (by unfold insK maxLen; decide) (by simpa [Act.eval] using e29) ?_
   intro w2 hmb2 hc2 hs2
   refine hK (γ1, some b) undef _ trivial (hG.putRel (by simp [entTop, entRel]) hd (by decide) hmb2 hc2) ?_
   refine fun j hj hdj u hu => ?_
   match j, hj with
   | 0, _ => exact hu.keep hc2 trivial
   | 1, _ => exact hu.keep hc2 trivial
   | 2, _ => exact hu.keep hc2 trivial
   | 3, _ => exact hu.keep hc2 trivial
   | 4, _ => exact hu.keep hc2 trivial
   | 5, _ => exact hu.keep hc2 trivial
   | 6, _ => exact hu.keep hc2 trivial
   | 7, _ => exact hu.keep hc2 trivial
   | 8, _ => exact hu.keep hc2 trivial
   | 9, _ => exact hu.keep hc2 trivial
   | 10, _ => exact hu.keep hc2 trivial
   | 11, _ => exact hu.keep hc2 trivial
   | 12, _ => exact hu.keep hc2 trivial
   | 13, _ => exact hu.keep hc2 trivial
   | 14, _ => exact hu.keep hc2 trivial
   | 15, _ => exact hu.keep hc2 trivial
   | 16, _ => exact hu.keep hc2 trivial
   | 17, _ => exact hu.keep hc2 trivial
   | 18, _ => exact hu.keep hc2 trivial
   | 19, _ => exact hu.keep hc2 trivial
   | 20, _ => exact hu.keep hc2 trivial
   | 21, _ => exact hu.keep hc2 trivial
   | 22, _ => exact hu.keep hc2 trivial
   | 23, hj => exact absurd rfl hj
   | 24, _ => exact hu.keep hc2 trivial
   | 25, _ => exact hu.keep hc2 trivial
   | 26, _ => exact hu.keep hc2 trivial
   | 27, _ => exact hu.keep hc2 trivial
   | 28, _ => exact hu.keep hc2 trivial
   | 29, _ => exact hu.keep hc2 trivial
   | 30, _ => exact hu.keep hc2 trivial
   | 31, _ => exact hu.keep hc2 trivial
   | 32, _ => exact hu.keep hc2 trivial
   | 33, _ => exact hu.keep hc2 trivial
   | 34, _ => exact hu.keep hc2 trivial
   | j + 35, _ => exact hu.keep hc2 trivial
  ·intro γ done a w1 K hd qd qe qf qb hG hK
   have e5 : a.tmps[5]?.getD undef = .pointer (some ⟨g5, 0, none⟩) := qf 5 rfl
   clear qd qe qf qb
   go_simp
   exact hK γ _ _ rfl (hG.other (by decide) (Chg.refl No _)) (fun _ _ _ _ h => h)
  ·intro γ done a w1 K hd qd qe qf qb hG hK
   have e30 : a.tmps[30]?.getD undef = .pointer (some ⟨g5, 2, none⟩) := qe 24 30 rfl (qb 24 rfl)
   have c0 : w1.cell? ⟨g5, 2, none⟩ = some (.int .i64 rev) := (HB5.out.chg hG.chg id).cell 2
   clear qd qe qf qb
   go_simp
   exact hK γ _ _ rfl (hG.other (by decide) (Chg.refl No _)) (fun _ _ _ _ h => h)
  ·intro γ done a w1 K hd qd qe qf qb hG hK
   have e31 : a.tmps[31]?.getD undef = .int .i64 rev := qe 25 31 rfl (qb 25 rfl)
   clear qd qe qf qb
   go_simp
   exact hK γ _ _ rfl (hG.other (by decide) (Chg.refl No _)) (fun _ _ _ _ h => h)
  ·intro γ done a w1 K hd qd qe qf qb hG hK
   have ni := hd
   obtain ⟨b, hγ, em⟩ := qe 7 17 rfl (qb 7 rfl)
   have e32 : a.tmps[32]?.getD undef = .iface 3 (.int .i64 rev) := qe 26 32 rfl (qb 26 rfl)
   obtain ⟨γ1, γ2⟩ := γ
   obtain rfl : γ2 = some b := hγ
   obtain ⟨hbl, hmb⟩ := hG.rel.map b rfl
   refine if_wanted rfl ?_
   refine wp_insertB rfl (by simpa [Act.eval] using em) hmb (cntD_lt _ _ (by simp [entTop, entRel])) (k := revK) rfl (by unfold revK maxLen; decide) (by simpa [Act.eval] using e32) ?_
   intro w2 hmb2 hc2 hs2
   refine hK (γ1, some b) undef _ trivial (hG.putRel (by simp [entTop, entRel]) hd (by decide) hmb2 hc2) ?_
   refine fun j hj hdj u hu => ?_
   match j, hj with
   | 0, _ => exact hu.keep hc2 trivial
   | 1, _ => exact hu.keep hc2 trivial
   | 2, _ => exact hu.keep hc2 trivial
   | 3, _ => exact hu.keep hc2 trivial
   | 4, _ => exact hu.keep hc2 trivial
   | 5, _ => exact hu.keep hc2 trivial
   | 6, _ => exact hu.keep hc2 trivial
   | 7, _ => exact hu.keep hc2 trivial
   | 8, _ => exact hu.keep hc2 trivial
   | 9, _ => exact hu.keep hc2 trivial
   | 10, _ => exact hu.keep hc2 trivial
   | 11, _ => exact hu.keep hc2 trivial
   | 12, _ => exact hu.keep hc2 trivial
   | 13, _ => exact hu.keep hc2 trivial
   | 14, _ => exact hu.keep hc2 trivial
   | 15, _ => exact hu.keep hc2 trivial
   | 16, _ => exact hu.keep hc2 trivial
   | 17, _ => exact hu.keep hc2 trivial
   | 18, _ => exact hu.keep hc2 trivial
   | 19, _ => exact hu.keep hc2 trivial
   | 20, _ => exact hu.keep hc2 trivial
   | 21, _ => exact hu.keep hc2 trivial
   | 22, _ => exact hu.keep hc2 trivial
   | 23, _ => exact hu.keep hc2 trivial
   | 24, _ => exact hu.keep hc2 trivial
   | 25, _ => exact hu.keep hc2 trivial
   | 26, _ => exact hu.keep hc2 trivial
   | 27, hj => exact absurd rfl hj
   | 28, _ => exact hu.keep hc2 trivial
   | 29, _ => exact hu.keep hc2 trivial
   | 30, _ => exact hu.keep hc2 trivial
   | 31, _ => exact hu.keep hc2 trivial
   | 32, _ => exact hu.keep hc2 trivial
   | 33, _ => exact hu.keep hc2 trivial
   | 34, _ => exact hu.keep hc2 trivial
   | j + 35, _ => exact hu.keep hc2 trivial
  ·intro γ done a w1 K hd qd qe qf qb hG hK
   have hkk : helmK = ⟨#[72, 101, 108, 109]⟩ := rfl
   clear qd qe qf qb
   go_simp
   exact hK γ _ _ rfl (hG.other (by decide) (Chg.refl No _)) (fun _ _ _ _ h => h)
  ·intro γ done a w1 K hd qd qe qf qb hG hK
   have ni := hd
   obtain ⟨b, hγ, em⟩ := qe 7 17 rfl (qb 7 rfl)
   have e33 : a.tmps[33]?.getD undef = .iface 9 (.string helmK) := qe 28 33 rfl (qb 28 rfl)
   obtain ⟨γ1, γ2⟩ := γ
   obtain rfl : γ2 = some b := hγ
   obtain ⟨hbl, hmb⟩ := hG.rel.map b rfl
   refine if_wanted rfl ?_
   refine wp_insertB rfl (by simpa [Act.eval] using em) hmb (cntD_lt _ _ (by simp [entTop, entRel])) (k := svcK) rfl (by unfold svcK maxLen; decide) (by simpa [Act.eval] using e33) ?_
   intro w2 hmb2 hc2 hs2
   refine hK (γ1, some b) undef _ trivial (hG.putRel (by simp [entTop, entRel]) hd (by decide) hmb2 hc2) ?_
   refine fun j hj hdj u hu => ?_
   match j, hj with
   | 0, _ => exact hu.keep hc2 trivial
   | 1, _ => exact hu.keep hc2 trivial
   | 2, _ => exact hu.keep hc2 trivial
   | 3, _ => exact hu.keep hc2 trivial
   | 4, _ => exact hu.keep hc2 trivial
   | 5, _ => exact hu.keep hc2 trivial
   | 6, _ => exact hu.keep hc2 trivial
   | 7, _ => exact hu.keep hc2 trivial
   | 8, _ => exact hu.keep hc2 trivial
   | 9, _ => exact hu.keep hc2 trivial
   | 10, _ => exact hu.keep hc2 trivial
   | 11, _ => exact hu.keep hc2 trivial
   | 12, _ => exact hu.keep hc2 trivial
   | 13, _ => exact hu.keep hc2 trivial
   | 14, _ => exact hu.keep hc2 trivial
   | 15, _ => exact hu.keep hc2 trivial
   | 16, _ => exact hu.keep hc2 trivial
   | 17, _ => exact hu.keep hc2 trivial
   | 18, _ => exact hu.keep hc2 trivial
   | 19, _ => exact hu.keep hc2 trivial
   | 20, _ => exact hu.keep hc2 trivial
   | 21, _ => exact hu.keep hc2 trivial
   | 22, _ => exact hu.keep hc2 trivial
   | 23, _ => exact hu.keep hc2 trivial
   | 24, _ => exact hu.keep hc2 trivial
   | 25, _ => exact hu.keep hc2 trivial
   | 26, _ => exact hu.keep hc2 trivial
   | 27, _ => exact hu.keep hc2 trivial
   | 28, _ => exact hu.keep hc2 trivial
   | 29, hj => exact absurd rfl hj
   | 30, _ => exact hu.keep hc2 trivial
   | 31, _ => exact hu.keep hc2 trivial
   | 32, _ => exact hu.keep hc2 trivial
   | 33, _ => exact hu.keep hc2 trivial
   | 34, _ => exact hu.keep hc2 trivial
   | j + 35, _ => exact hu.keep hc2 trivial
  ·intro γ done a w1 K hd qd qe qf qb hG hK
   obtain ⟨b, hγ, e17⟩ := qe 7 17 rfl (qb 7 rfl)
   clear qd qe qf qb
   go_simp
   exact hK γ _ _ ⟨b, hγ, rfl⟩ (hG.other (by decide) (Chg.refl No _)) (fun _ _ _ _ h => h)
  ·intro γ done a w1 K hd qd qe qf qb hG hK
   obtain ⟨b, hγ, e34⟩ := qe 30 34 rfl (qb 30 rfl)
   clear qd qe qf qb
   go_simp
   exact hK γ _ _ ⟨b, hγ, rfl⟩ (hG.other (by decide) (Chg.refl No _)) (fun _ _ _ _ h => h)
  ·intro γ done a w1 K hd qd qe qf qb hG hK
   have ni := hd
   obtain ⟨b, hγ, em⟩ := qe 0 11 rfl (qb 0 rfl)
   obtain ⟨b2, hγ2, e35⟩ := qe 31 35 rfl (qb 31 rfl)
   obtain ⟨γ1, γ2⟩ := γ
   obtain rfl : γ1 = some b := hγ
   obtain rfl : γ2 = some b2 := hγ2
   obtain ⟨hbl, hmb⟩ := hG.top.map b rfl
   refine if_wanted rfl ?_
   refine wp_insertB rfl (by simpa [Act.eval] using em) hmb (cntD_lt _ _ (by simp [entTop, entRel])) (k := relK) rfl (by unfold relK maxLen; decide) (by simpa [Act.eval] using e35) ?_
   intro w2 hmb2 hc2 hs2
   refine hK (some b, some b2) undef _ trivial (hG.putTop (by simp [entTop, entRel]) hd (by decide) hmb2 hc2) ?_
   refine fun j hj hdj u hu => ?_
   match j, hj with
   | 0, _ => exact hu.keep hc2 trivial
   | 1, _ => exact hu.keep hc2 trivial
   | 2, _ => exact hu.keep hc2 trivial
   | 3, _ => exact hu.keep hc2 trivial
   | 4, _ => exact hu.keep hc2 trivial
   | 5, _ => exact hu.keep hc2 trivial
   | 6, _ => exact hu.keep hc2 trivial
   | 7, _ => exact hu.keep hc2 trivial
   | 8, _ => exact hu.keep hc2 trivial
   | 9, _ => exact hu.keep hc2 trivial
   | 10, _ => exact hu.keep hc2 trivial
   | 11, _ => exact hu.keep hc2 trivial
   | 12, _ => exact hu.keep hc2 trivial
   | 13, _ => exact hu.keep hc2 trivial
   | 14, _ => exact hu.keep hc2 trivial
   | 15, _ => exact hu.keep hc2 trivial
   | 16, _ => exact hu.keep hc2 trivial
   | 17, _ => exact hu.keep hc2 trivial
   | 18, _ => exact hu.keep hc2 trivial
   | 19, _ => exact hu.keep hc2 trivial
   | 20, _ => exact hu.keep hc2 trivial
   | 21, _ => exact hu.keep hc2 trivial
   | 22, _ => exact hu.keep hc2 trivial
   | 23, _ => exact hu.keep hc2 trivial
   | 24, _ => exact hu.keep hc2 trivial
   | 25, _ => exact hu.keep hc2 trivial
   | 26, _ => exact hu.keep hc2 trivial
   | 27, _ => exact hu.keep hc2 trivial
   | 28, _ => exact hu.keep hc2 trivial
   | 29, _ => exact hu.keep hc2 trivial
   | 30, _ => exact hu.keep hc2 trivial
   | 31, _ => exact hu.keep hc2 trivial
   | 32, hj => exact absurd rfl hj
   | 33, _ => exact hu.keep hc2 trivial
   | 34, _ => exact hu.keep hc2 trivial
   | j + 35, _ => exact hu.keep hc2 trivial
  ·intro γ done a w1 K hd qd qe qf qb hG hK
   obtain ⟨b, hγ, e11⟩ := qe 0 11 rfl (qb 0 rfl)
   clear qd qe qf qb
   go_simp
   exact hK γ _ _ ⟨b, hγ, rfl⟩ (hG.other (by decide) (Chg.refl No _)) (fun _ _ _ _ h => h)
  ·intro γ done a w1 K hd qd qe qf qb hG hK
   obtain ⟨b, hγ, e36⟩ := qe 33 36 rfl (qb 33 rfl)
   clear qd qe qf qb
   go_simp
   exact hK γ _ _ ⟨b, hγ, rfl⟩ (hG.other (by decide) (Chg.refl No _)) (fun _ _ _ _ h => h)
 ·intro γ vs w2 hvs hvn hG
  obtain ⟨bt, hγ1, e8⟩ : ∃ b, γ.1 = some b /\ vs 34 = .map (some b) := hvs 34 _ rfl (by decide)
  obtain ⟨br, hγ2⟩ : ∃ b, γ.2 = some b := by
   have h7 := hG.rel.iff
   cases h : γ.2 with
   | none => rw [h] at h7; cases h7
   | some b => exact ⟨b, rfl⟩
  obtain ⟨γ1, γ2⟩ := γ
  obtain rfl : γ1 = some bt := hγ1
  obtain rfl : γ2 = some br := hγ2
  have HFIN := Hd hG.fin
  have HCG := Hd hG.chg
  clear hvs hvn hG
  simp only [putAll, Act.put, List.setIfInBounds_toArray, List.set_cons_succ, List.set_cons_zero, e8]
  clear e8
  have HWALL := Hd (HCW.out.trans' HCG.out)
  have hne := run_neErr0
  have hgu := run_guardErr0
  go_wp2_with fail
  refine (HCALL.out w2 HWALL.out).mono ?_
  intro e w3 hp
  cases r with
  | none =>
   obtain ⟨⟨mv2, eb, rfl⟩, hc3⟩ := hp
   have HC3 := Hd (HWALL.out.trans' hc3)
   clear hc3
   go_wp2
   go_ret2
   exact ⟨⟨_, eb, rfl⟩, HC3.out⟩
  | some t =>
   obtain ⟨⟨g, rfl, hj⟩, hc3, -⟩ := hp
   have HC3 := Hd hc3
   have HJ := Hd hj
   obtain ⟨hm1, hm2, hl1, hl2, hbne⟩ := HFIN.out
   have HM := Hd (hm1.chg hc3 id)
   have HREL := Hd (hm2.chg hc3 id)
   have HBT := Hd (show wr.heap.size ≤ bt /\ bt < w2.heap.size /\ bt ≠ br from ⟨hl1, hm1.lt, hbne⟩)
   clear hc3 hj hm1 hm2 hl1 hl2 hbne
   go_wp2_with (first | (refine wpList_putB rfl rfl rfl HM.out (by unfold maxLen; omega) (k := valsK) rfl (by unfold valsK maxLen; decide) rfl ?_; intro w4 hm4 hc4 hs4))
   go_ret2
   have hs3 := HC3.out.size
   have hws := HCW.out.size
   have hbt := HBT.out
   refine ⟨bt, br, g, rfl, (HWALL.out.trans' HC3.out).trans hc4 (fun x hx e => by have e1 : x = bt := e; omega), hm4, HREL.out.chg hc4 (fun e => hbt.2.2 e.symm), ?_⟩
   have h1 : AnyJ (fun x => x ≠ bt) w3 (.iface 67 (.map (some g))) (.table t) := HJ.out.mono (fun x _ hx e => by
    rcases hx with h | h
    ·have := h.1.2; omega
    ·omega)
   exact (h1.chg hc4 (fun x hx e => hx e)).mono (fun x hx h => ⟨hx, h⟩)
def relT (nm ns : K) (rev : Int) (up ins : Bool) : T := [(insK, .bool ins), (upK, .bool up), (nameK, .text nm), (nsK, .text ns), (revK, .int rev), (svcK, .text helmK)]
def topT (name ver nm ns : K) (rev : Int) (up ins : Bool) (t : T) : T := [(chartK, jT name ver), (relK, .table (relT nm ns rev up ins)), (valsK, .table t)]
theorem keys_ok : kOk chartK /\ kOk relK /\ kOk valsK /\ kOk nameK /\ kOk verK /\ kOk nsK /\ kOk upK /\ kOk insK /\ kOk revK /\ kOk svcK := by
 unfold kOk; decide
theorem relT_in (N : Nat) (hN : 400 ≤ N) (nm ns : K) (rev : Int) (up ins : Bool) : Sorted (relT nm ns rev up ins) /\ (relT nm ns rev up ins).length ≤ N /\ ∀ p ∈ relT nm ns rev up ins, kOk p.1 /\ True := by
 obtain ⟨-, -, -, k4, -, k6, k7, k8, k9, k10⟩ := keys_ok
 refine ⟨?_, by simp [relT]; omega, fun p hp => ⟨?_, trivial⟩⟩
 ·have h : [insK, upK, nameK, nsK, revK, svcK].Pairwise klt := by decide
  have h2 : (relT nm ns rev up ins).map (·.1) = [insK, upK, nameK, nsK, revK, svcK] := rfl
  rw [← h2, List.pairwise_map] at h
  exact h
 ·simp only [relT, List.mem_cons, List.not_mem_nil, or_false] at hp
  rcases hp with rfl | rfl | rfl | rfl | rfl | rfl <;> assumption
theorem topT_in (N : Nat) (hN : 400 ≤ N) (name ver nm ns : K) (rev : Int) (up ins : Bool) (t : T) : Sorted (topT name ver nm ns rev up ins t) /\ (topT name ver nm ns rev up ins t).length ≤ N /\ ∀ p ∈ topT name ver nm ns rev up ins t, kOk p.1 /\ True := by
 obtain ⟨k1, k2, k3, -⟩ := keys_ok
 refine ⟨?_, by simp [topT]; omega, fun p hp => ⟨?_, trivial⟩⟩
 ·have h : [chartK, relK, valsK].Pairwise klt := by decide
  have h2 : (topT name ver nm ns rev up ins t).map (·.1) = [chartK, relK, valsK] := rfl
  rw [← h2, List.pairwise_map] at h
  exact h
 ·simp only [topT, List.mem_cons, List.not_mem_nil, or_false] at hp
  rcases hp with rfl | rfl | rfl <;> assumption
theorem get_relT (nm ns : K) (rev : Int) (up ins : Bool) (k : K) : get (relT nm ns rev up ins) k = if k = insK then some (.bool ins) else if k = upK then some (.bool up) else if k = nameK then some (.text nm) else if k = nsK then some (.text ns) else if k = revK then some (.int rev) else if k = svcK then some (.text helmK) else none := by
 show (if insK = k then _ else if upK = k then _ else if nameK = k then _ else if nsK = k then _ else if revK = k then _ else if svcK = k then _ else none) = _
 simp only [eq_comm (a := insK), eq_comm (a := upK), eq_comm (a := nameK), eq_comm (a := nsK), eq_comm (a := revK), eq_comm (a := svcK)]
theorem get_topT (name ver nm ns : K) (rev : Int) (up ins : Bool) (t : T) (k : K) : get (topT name ver nm ns rev up ins t) k = if k = chartK then some (jT name ver) else if k = relK then some (.table (relT nm ns rev up ins)) else if k = valsK then some (.table t) else none := by
 show (if chartK = k then _ else if relK = k then _ else if valsK = k then _ else none) = _
 simp only [eq_comm (a := chartK), eq_comm (a := relK), eq_comm (a := valsK)]
theorem rel_ne : insK ≠ upK /\ insK ≠ nameK /\ insK ≠ nsK /\ insK ≠ revK /\ insK ≠ svcK /\ upK ≠ nameK /\ upK ≠ nsK /\ upK ≠ revK /\ upK ≠ svcK /\ nameK ≠ nsK /\ nameK ≠ revK /\ nameK ≠ svcK /\ nsK ≠ revK /\ nsK ≠ svcK /\ revK ≠ svcK := by decide
theorem relF_get {nm ns : K} {rev : Int} {up ins : Bool} (k : K) : (RelF nm ns rev up ins k = none /\ get (relT nm ns rev up ins) k = none) ∨ (∃ b, RelF nm ns rev up ins k = some (.iface 4 (.bool b)) /\ get (relT nm ns rev up ins) k = some (.bool b)) ∨
  (∃ s, RelF nm ns rev up ins k = some (.iface 9 (.string s)) /\ get (relT nm ns rev up ins) k = some (.text s)) ∨ (RelF nm ns rev up ins k = some (.iface 3 (.int .i64 rev)) /\ get (relT nm ns rev up ins) k = some (.int rev)) := by
 rw [get_relT]
 unfold RelF
 obtain ⟨n1, n2, n3, n4, n5, n6, n7, n8, n9, n10, n11, n12, n13, n14, n15⟩ := rel_ne
 by_cases h1 : k = insK
 ·subst h1; exact .inr (.inl ⟨ins, by simp [n1, n2, n3, n4, n5], by simp⟩)
 by_cases h2 : k = upK
 ·subst h2; exact .inr (.inl ⟨up, by simp [n6, n7], by simp [Ne.symm n1]⟩)
 by_cases h3 : k = nameK
 ·subst h3; exact .inr (.inr (.inl ⟨nm, by simp, by simp [Ne.symm n2, Ne.symm n6]⟩))
 by_cases h4 : k = nsK
 ·subst h4; exact .inr (.inr (.inl ⟨ns, by simp [Ne.symm n10], by simp [Ne.symm n3, Ne.symm n7, Ne.symm n10]⟩))
 by_cases h5 : k = revK
 ·subst h5; exact .inr (.inr (.inr ⟨by simp [Ne.symm n4, Ne.symm n8, Ne.symm n11, Ne.symm n13], by simp [Ne.symm n4, Ne.symm n8, Ne.symm n11, Ne.symm n13]⟩))
 by_cases h6 : k = svcK
 ·subst h6; exact .inr (.inr (.inl ⟨helmK, by simp [Ne.symm n5, Ne.symm n9, Ne.symm n12, Ne.symm n14, Ne.symm n15], by simp [Ne.symm n5, Ne.symm n9, Ne.symm n12, Ne.symm n14, Ne.symm n15]⟩))
 ·exact .inl ⟨by simp [h1, h2, h3, h4, h5, h6], by simp [h1, h2, h3, h4, h5, h6]⟩
theorem relIn (N : Nat) (hN : N < 1099511627776) (hN4 : 400 ≤ N) {br : Nat} {nm ns : K} {rev : Int} {up ins : Bool} (w : World) (hr : MapB w br 6 (RelF nm ns rev up ins)) :
  Calls Tryz.prog 94 #[.iface 67 (.map (some br)), .int .i64 ((1 : Nat) : Int)] w (ValPost w (.table (relT nm ns rev up ins))) := by
 refine valueIn_tab N hN w 1 hr (fun k => ?_) (relT_in N hN4 _ _ _ _ _) (by omega) (fun k u x hu hx w1 hc => ?_)
 ·rcases relF_get (nm := nm) (ns := ns) (rev := rev) (up := up) (ins := ins) k with ⟨h1, h2⟩ | ⟨b, h1, h2⟩ | ⟨s, h1, h2⟩ | ⟨h1, h2⟩ <;> rw [h1, h2] <;> rfl
 ·rcases relF_get (nm := nm) (ns := ns) (rev := rev) (up := up) (ins := ins) k with ⟨h1, h2⟩ | ⟨b, h1, h2⟩ | ⟨s, h1, h2⟩ | ⟨h1, h2⟩ <;> rw [h1] at hu <;> rw [h2] at hx <;> cases hu <;> cases hx
  ·exact valueIn_any N hN 1 (fun _ => True) _ _ w1 2 .bool trivial (by omega)
  ·exact valueIn_any N hN 1 (fun _ => True) _ _ w1 2 .text trivial (by omega)
  ·exact valueIn_int rev w1 2 (by omega)
theorem topIn (N : Nat) (hN : N < 1099511627776) (hN4 : 400 ≤ N) {ok : Nat -> Prop} {bt br g pm : Nat} {name ver nm ns : K} {rev : Int} {up ins : Bool} {wv : Value} {t : T} (w : World)
  (hm : MapB w bt 3 (fun k => if k = valsK then some (.iface 86 (.map (some g))) else TopF pm br k)) (hr : MapB w br 6 (RelF nm ns rev up ins)) (ha : AnyJ ok w (.iface 67 (.map (some g))) (.table t)) (hb : Blk w pm [.string name, .string ver, wv] 122)
  (h1 : kOk name) (h2 : kOk ver) (wf : Wf N 60 (.table t)) : Calls Tryz.prog 94 #[.iface 86 (.map (some bt)), .int .i64 ((0 : Nat) : Int)] w (ValPost w (.table (topT name ver nm ns rev up ins t))) := by
 have hne : chartK ≠ relK /\ chartK ≠ valsK /\ relK ≠ valsK := by decide
 have hg : ∀ k, (k = chartK /\ get (topT name ver nm ns rev up ins t) k = some (jT name ver) /\ (if k = valsK then some (Value.iface 86 (.map (some g))) else TopF pm br k) = some (.iface 120 (ptr pm))) ∨
   (k = relK /\ get (topT name ver nm ns rev up ins t) k = some (.table (relT nm ns rev up ins)) /\ (if k = valsK then some (Value.iface 86 (.map (some g))) else TopF pm br k) = some (.iface 67 (.map (some br)))) ∨
   (k = valsK /\ get (topT name ver nm ns rev up ins t) k = some (.table t) /\ (if k = valsK then some (Value.iface 86 (.map (some g))) else TopF pm br k) = some (.iface 86 (.map (some g)))) ∨
   (get (topT name ver nm ns rev up ins t) k = none /\ (if k = valsK then some (Value.iface 86 (.map (some g))) else TopF pm br k) = none) := by
  intro k
  rw [get_topT]
  unfold TopF
  by_cases e1 : k = chartK
  ·subst e1; exact .inl ⟨rfl, by simp, by simp [hne]⟩
  by_cases e2 : k = relK
  ·subst e2; exact .inr (.inl ⟨rfl, by simp [Ne.symm hne.1], by simp [hne, Ne.symm hne.1]⟩)
  by_cases e3 : k = valsK
  ·subst e3; exact .inr (.inr (.inl ⟨rfl, by simp [Ne.symm hne.2.1, Ne.symm hne.2.2], by simp⟩))
  ·exact .inr (.inr (.inr ⟨by simp [e1, e2, e3], by simp [e1, e2, e3]⟩))
 have hca := (Chg.refl No w).alloc (.cells zero7.toArray 26)
 refine valueIn_86 0 (by omega) (valueIn_tab N hN _ 0 (hm.chg hca id) (fun k => ?_) (topT_in N hN4 _ _ _ _ _ _ _ _) (by omega) (fun k u x hu hx w1 hc => ?_))
 ·rcases hg k with ⟨-, e1, e2⟩ | ⟨-, e1, e2⟩ | ⟨-, e1, e2⟩ | ⟨e1, e2⟩ <;> rw [e1, e2] <;> rfl
 ·have hc1 := hca.trans' hc
  rcases hg k with ⟨-, e1, e2⟩ | ⟨-, e1, e2⟩ | ⟨-, e1, e2⟩ | ⟨e1, e2⟩ <;> rw [e2] at hu <;> rw [e1] at hx <;> cases hu <;> cases hx
  ·exact valueIn_120 w1 1 (by omega) (hb.chg hc1 id) h1 h2
  ·exact relIn N hN hN4 w1 (hr.chg hc1 id)
  ·refine valueIn_86 1 (by omega) (valueIn_any N hN 60 (okB ok w) _ _ _ 1 ((ha.bel.chg hc1 (fun _ _ e => e)).chg ((Chg.refl No w1).alloc _) (fun _ _ e => e)) wf (by omega))
theorem valueOf_of {v : Value} {j : J} {w : World} (hcall : Calls Tryz.prog 94 #[v, .int .i64 ((0 : Nat) : Int)] (w.alloc (.cells zero7.toArray 26)) (ValPost (w.alloc (.cells zero7.toArray 26)) j)) :
  Calls Tryz.prog 59 #[v] w (ValPost w j) := by
 have HC := Hd hcall
 have hb := Blk.new w zero7 26
 clear hcall
 go_enter Tryz.func59, Tryz.ntmps59
 go_wp2_with fail
 refine HC.out.mono ?_
 rintro e w1 ⟨cs, rfl, hj, hc⟩
 have hb1 := hb.chg hc id
 have hl := hj.length
 have ho := hj.one
 have HJ := Hd hj
 clear hj
 go_wp2_with (first | (with_reducible refine wpList_storeBlk rfl agg26 rfl rfl rfl hb1 rfl hl ho ?_; intro w6 hb6 hc6 hs6))
 refine bodyPost_ret (results_blk rfl agg26 rfl hb6 hl) rfl ⟨_, rfl, ?_, (((Chg.refl No w).alloc _).trans' hc).trans hc6 (fun i hi e => absurd e (by omega))⟩
 refine ((HJ.out.chg hc6 (fun b hb e => ?_)).mono (fun b _ hb => ?_))
 ·simp at hb; omega
 ·simp at hb; omega
def RendRet (w : World) (name ver nm ns : K) (rev : Int) (up ins : Bool) (r : Option T) (e : Ending) (w' : World) : Prop :=
 ∃ (cs : List Value) (code : Int), e = .returned (.tuple #[.agg cs.toArray, .int .i64 code]) /\ Chg No w w' /\ (r = none -> code = 1 /\ ValJ (fun x => w.heap.size ≤ x) w' cs .null) /\ (∀ t, r = some t -> code = 0 /\ ValJ (fun x => w.heap.size ≤ x) w' cs (.table (topT name ver nm ns rev up ins t)))
theorem build149 (nm ns : K) (rev : Int) (up ins : Bool) (w : World) : (Instr.build 149 #[(0, .string nm), (1, .string ns), (2, .int .i64 rev), (3, .bool up), (4, .bool ins)]).run Tryz.prog w = .ok (.agg #[.string nm, .string ns, .int .i64 rev, .bool up, .bool ins]) w := by kernel_rfl
theorem rendered_any (U : List K) (N : Nat) (hN : N < 1099511627776) (hN4 : 400 ≤ N) (ok : Nat -> Prop) (p b pm : Nat) (mv par dv wv : Value) (name ver nm ns : K) (rev : Int) (up ins : Bool) (r : Option T) (w : World) (hb : Blk w p [ptr pm, mv, par, dv] 125) (hm : Blk w pm [.string name, .string ver, wv] 122)
  (h1 : kOk name) (h2 : kOk ver) (wf : ∀ t, r = some t -> Wf N 60 (.table t))
  (hcall : ∀ w1, Chg No w w1 -> Calls Tryz.prog 58 #[.pointer (some ⟨p, 0, none⟩), .map (some b)] w1 (CoalRet U N (okB ok w) w1 r)) :
  Calls Tryz.prog 70 #[.pointer (some ⟨p, 0, none⟩), .map (some b), .agg #[.string nm, .string ns, .int .i64 rev, .bool up, .bool ins]] w (RendRet w name ver nm ns rev up ins r) := by
 have HCALL := Hd hcall
 have H1 := Hd h1
 have H2 := Hd h2
 have WF := Hd wf
 have hfacts : ∀ wr, (w.alloc (.cells [.string nm, .string ns, .int .i64 rev, .bool up, .bool ins].toArray 55)).alloc (.cells zero7.toArray 26) = wr -> Blk wr p [ptr pm, mv, par, dv] 125 /\ Blk wr pm [.string name, .string ver, wv] 122 /\ Blk wr w.heap.size [.string nm, .string ns, .int .i64 rev, .bool up, .bool ins] 55 /\ Blk wr (w.heap.size + 1) zero7 26 /\ Chg No w wr := by
  rintro wr rfl
  exact ⟨(hb.alloc _).alloc _, (hm.alloc _).alloc _, (Blk.new _ _ _).alloc _, Blk.newAt (by simp) _ _, ((Chg.refl No w).alloc _).alloc _⟩
 have HF := Hd hfacts
 clear hcall hb hm hfacts h1 h2 wf
 go_enter Tryz.func70, Tryz.ntmps70
 go_upto_region 1 with fail
 generalize hgw : World.alloc _ _ = wr
 obtain ⟨hp, hpm, h5, h6, hc⟩ := HF.out wr hgw
 clear hgw HF
 obtain ⟨g5, hg5⟩ : ∃ g5, g5 = w.heap.size := ⟨_, rfl⟩
 rw [← hg5] at h5 h6 ⊢
 have HG5 := Hd hg5
 have HPM := Hd hpm
 have H6 := Hd h6
 have HCW := Hd hc
 have hcall := toRender_any U N (okB ok w) p b pm mv par dv nm ns rev up ins r wr hp (fun w1 hc1 => (HCALL.out w1 (hc.trans' hc1)).mono (fun e w2 h => by
  cases r with
  | none => exact h
  | some t =>
   obtain ⟨⟨g, h1, h2⟩, h3, h4⟩ := h
   exact ⟨⟨g, h1, h2.mono (fun x _ hx => by
    rcases hx with hx | hx
    ·exact .inl ⟨⟨hx.1, Nat.lt_of_lt_of_le hx.1.2 hc.size⟩, hx.2⟩
    ·exact .inr hx)⟩, h3, h4⟩))
 have HTR := Hd hcall
 have hbd := build149
 have k0 : wr.cell? ⟨g5, 0, none⟩ = some (.string nm) := h5.cell 0
 have k1 : wr.cell? ⟨g5, 1, none⟩ = some (.string ns) := h5.cell 1
 have k2 : wr.cell? ⟨g5, 2, none⟩ = some (.int .i64 rev) := h5.cell 2
 have k3 : wr.cell? ⟨g5, 3, none⟩ = some (.bool up) := h5.cell 3
 have k4 : wr.cell? ⟨g5, 4, none⟩ = some (.bool ins) := h5.cell 4
 clear hp hpm h5 h6 hc hg5 hcall
 go_wp2_with fail
 refine HTR.out.mono ?_
 intro e w3 hp
 clear k0 k1 k2 k3 k4
 have hne := run_neErr0
 have hgu := run_guardErr0
 cases r with
 | none =>
  obtain ⟨⟨mv2, eb, rfl⟩, hc3⟩ := hp
  have hb6 := H6.out.chg hc3 id
  have HC3 := Hd (HCW.out.trans' hc3)
  clear hc3
  go_wp2_with (first | (refine wpList_storeBlk (cs := cells7 0 false 0 0 ⟨#[]⟩ (.slice none 0 0) (.slice none 0 0)) rfl agg26 rfl rfl rfl hb6 rfl rfl rfl ?_; intro w6 hb7 hc7 hs7))
  have hg5 := HG5.out
  exact bodyPost_ret (results_blk_tmp rfl agg26 rfl hb7 rfl) rfl ⟨_, 1, rfl, HC3.out.trans hc7 (fun x hx e => by omega), fun _ => ⟨rfl, .null (rowNil _ _ _) (rowNil _ _ _)⟩, fun t h => by cases h⟩
 | some t =>
  obtain ⟨bt, br, g, rfl, hc3, hm3, hr3, ha3⟩ := hp
  have HIN := Hd (fun W (hW : Chg No w3 W) => topIn N hN hN4 (name := name) (ver := ver) (ok := fun x => x < w3.heap.size /\ x ≠ bt) W (hm3.chg hW id) (hr3.chg hW id) (ha3.chg hW (fun _ _ e => e)) ((HPM.out.chg hc3 id).chg hW id) H1.out H2.out (WF.out t rfl))
  have hb6 := H6.out.chg hc3 id
  have HC3 := Hd (HCW.out.trans' hc3)
  clear hc3 hm3 hr3 ha3
  go_wp2_with fail
  refine (valueOf_of (HIN.out _ ((Chg.refl No w3).alloc _))).mono ?_
  rintro e w4 ⟨cs, rfl, hj, hc4⟩
  have hb8 := hb6.chg hc4 id
  have hl := hj.length
  have ho := hj.one
  have HJ := Hd hj
  have HC4 := Hd (HC3.out.trans' hc4)
  have HS3 := Hd HC3.out.size
  have HL6 := Hd hb6.lt
  clear hj hc4
  go_wp2_with (first | (with_reducible refine wpList_storeBlk rfl agg26 rfl rfl rfl hb8 rfl hl ho ?_; intro w6 hb7 hc7 hs7))
  have hg5 := HG5.out
  have hs3 := HS3.out
  have hl6 := HL6.out
  refine bodyPost_ret (results_blk_tmp rfl agg26 rfl hb7 hl) rfl ⟨_, 0, rfl, HC4.out.trans hc7 (fun x hx e => by omega), (fun h => by cases h), fun t' h => ?_⟩
  cases h
  exact ⟨rfl, (HJ.out.chg hc7 (fun x hx e => by omega)).mono (fun x _ hx => by omega)⟩
end Go.Proofs.YtljaoopfomcaoaaGreatDoor
namespace Go.Proofs.YtljaoopfomcaoaaGreatDoor
def keysJ : Nat -> J -> List K
 | 0, _ => []
 | d + 1, j => match j with
  | .list xs => xs.flatMap (keysJ d)
  | .table kvs => kvs.flatMap fun p => p.1 :: keysJ d p.2
  | _ => []
theorem flatMap_len {α β : Type} (f : α -> List β) (g : α -> Nat) : ∀ (l : List α), (∀ x ∈ l, (f x).length ≤ g x) -> (l.flatMap f).length ≤ (l.map g).sum
 | [], _ => by simp
 | a :: r, h => by
  have h1 := flatMap_len f g r (fun x hx => h x (by simp [hx]))
  have h2 := h a (by simp)
  simp only [List.flatMap_cons, List.length_append, List.map_cons, List.sum_cons]
  omega
theorem szL_sum : ∀ xs : List J, szL xs = (xs.map sz).sum
 | [] => rfl
 | x :: r => by simp [szL, szL_sum r]
theorem szT_sum : ∀ xs : T, szT xs = (xs.map fun p => sz p.2).sum
 | [] => rfl
 | p :: r => by rw [szT, szP_eq, szT_sum r]; rfl
theorem keysJ_len : ∀ (d : Nat) (j : J), (keysJ d j).length + 1 ≤ sz j
 | 0, j => by have := sz_pos j; simp [keysJ]; omega
 | d + 1, j => by
  cases j with
  | list xs =>
   have h := flatMap_len (keysJ d) sz xs (fun x _ => by have := keysJ_len d x; omega)
   simp only [keysJ, sz, szL_sum]
   omega
  | table kvs =>
   have h := flatMap_len (fun p : K × J => p.1 :: keysJ d p.2) (fun p => sz p.2) kvs (fun p _ => by have := keysJ_len d p.2; simp; omega)
   simp only [keysJ, sz, szT_sum]
   omega
  | _ => simp [keysJ, sz]
theorem wu_of {N : Nat} : ∀ (d : Nat) {j : J} {U : List K}, Wf N d j -> (∀ k ∈ keysJ d j, k ∈ U) -> WU U N d j
 | 0, _, _, h, _ => h.elim
 | d + 1, j, U, h, hk => by
  cases j with
  | list xs => exact ⟨h.1, fun x hx => wu_of d (h.2 x hx) (fun k hkx => hk k (by simp only [keysJ, List.mem_flatMap]; exact ⟨x, hx, hkx⟩))⟩
  | table kvs =>
   refine ⟨h.1, fun p hp => ⟨hk p.1 (by simp only [keysJ, List.mem_flatMap]; exact ⟨p, hp, by simp⟩), wu_of d (h.2.2 p hp).2 (fun k hkx => hk k (by simp only [keysJ, List.mem_flatMap]; exact ⟨p, hp, by simp [hkx]⟩))⟩⟩
  | float f => exact h
  | null | bool | int | text => trivial
theorem keysJ_ok {N : Nat} : ∀ (d : Nat) {j : J}, Wf N d j -> ∀ k ∈ keysJ d j, kOk k
 | 0, _, h, _, _ => h.elim
 | d + 1, j, h, k, hk => by
  cases j with
  | list xs =>
   simp only [keysJ, List.mem_flatMap] at hk
   obtain ⟨x, hx, hk⟩ := hk
   exact keysJ_ok d (h.2 x hx) k hk
  | table kvs =>
   simp only [keysJ, List.mem_flatMap] at hk
   obtain ⟨p, hp, hk⟩ := hk
   rcases List.mem_cons.1 hk with rfl | hk
   ·exact (h.2.2 p hp).1
   ·exact keysJ_ok d (h.2.2 p hp).2 k hk
  | float f => simp [keysJ] at hk
  | null | bool | int | text => simp [keysJ] at hk
def keysC : Nat -> Ch -> List K
 | 0, _ => []
 | L + 1, c => c.name :: (keysJ 50 c.vals ++ c.deps.flatMap (keysC L))
theorem keysC_len : ∀ (L : Nat) {c : Ch}, ChR L c -> (keysC L c).length ≤ 401 * 21 ^ L
 | 0, _, h => h.elim
 | L + 1, c, h => by
  have h1 := keysJ_len 50 c.vals
  have h2 := h.1.2.1
  have h3 := flatMap_len (keysC L) (fun _ => 401 * 21 ^ L) c.deps (fun d hd => keysC_len L (h.2.2.2.2.2.1 d hd))
  rw [List.map_const', List.sum_replicate_nat] at h3
  have h4 : c.deps.length * (401 * 21 ^ L) ≤ 20 * (401 * 21 ^ L) := Nat.mul_le_mul_right _ h.2.2.2.1
  have h5 : 1 ≤ 21 ^ L := Nat.one_le_pow _ _ (by decide)
  simp only [keysC, List.length_cons, List.length_append]
  rw [Nat.pow_succ]
  omega
theorem keysC_ok : ∀ (L : Nat) {c : Ch}, ChR L c -> ∀ k ∈ keysC L c, kOk k
 | 0, _, h, _, _ => h.elim
 | L + 1, c, h, k, hk => by
  simp only [keysC, List.mem_cons, List.mem_append, List.mem_flatMap] at hk
  rcases hk with rfl | hk | ⟨d, hd, hk⟩
  ·have := h.2.1.le; unfold kOk; omega
  ·exact keysJ_ok 50 h.1.1 k hk
  ·exact keysC_ok L (h.2.2.2.2.2.1 d hd) k hk
theorem chW_of {U : List K} {N : Nat} (hN : 400 ≤ N) : ∀ (L : Nat) {c : Ch}, ChR L c -> (∀ e, ShC e c) -> (∀ k ∈ keysC L c, k ∈ U) -> ChW U N 50 L c
 | 0, _, h, _, _ => h.elim
 | L + 1, c, h, hs, hk => by
  have hk2 : ∀ k, k ∈ keysJ 50 c.vals -> k ∈ U := fun k h => hk k (by simp [keysC, h])
  refine ⟨?_, hk _ (by simp [keysC]), h.2.1.notG, fun t ht => ⟨?_, ?_⟩, h.2.2.2.2.1, fun d hd => chW_of hN L (h.2.2.2.2.2.1 d hd) (fun e => (hs (e + 1)).2 d hd) (fun k hkd => hk k (by simp only [keysC, List.mem_cons, List.mem_append, List.mem_flatMap]; exact .inr (.inr ⟨d, hd, hkd⟩)))⟩
  ·have := h.2.1.le; unfold kOk; omega
  ·rw [← ht]
   exact (wu_of 50 h.1.1 hk2).mono (fun _ h => h) hN (Nat.le_refl _)
  ·rw [← ht]
   exact (hs 1).1
def keysG (c : Ch) (t : T) : List K := gK :: (keysC 6 c ++ keysJ 50 (.table t))
theorem given_in {ok : Nat -> Prop} {w : World} {cs vs : List Value} {c : Ch} {t : T} (h : Given ok w cs vs c t) :
  (keysG c t).length ≤ 99999999999 /\ (∀ k ∈ keysG c t, kOk k) /\ gK ∈ keysG c t /\ ChW (keysG c t) 99999999999 50 6 c /\ WU (keysG c t) 99999999999 50 (.table t) /\ ShalA (.table t) := by
 refine ⟨?_, fun k hk => ?_, by simp [keysG], chW_of (by decide) 6 h.chr h.shc (fun k hk => by simp [keysG, hk]), ?_, h.shal⟩
 ·have h1 := keysC_len 6 h.chr
  have h2 := keysJ_len 50 (.table t)
  have h3 := h.sz
  have h4 : 401 * 21 ^ 6 ≤ 99999990000 := by decide
  simp only [keysG, List.length_cons, List.length_append]
  omega
 ·simp only [keysG, List.mem_cons, List.mem_append] at hk
  rcases hk with rfl | hk | hk
  ·unfold kOk; decide
  ·exact keysC_ok 6 h.chr k hk
  ·exact keysJ_ok 50 h.wf k hk
 ·exact (wu_of 50 h.wf (fun k hk => by simp [keysG, hk])).mono (fun _ h => h) (by decide) (Nat.le_refl _)
end Go.Proofs.YtljaoopfomcaoaaGreatDoor
namespace Go.Proofs.YtljaoopfomcaoaaGreatDoor
open Go.RowKit
theorem idle69 (p q : Value) (w : World) : CallsD Tryz.prog 69 #[p, q] .returning w fun e u' w' => e = .returned (.tuple #[]) /\ u' = .returning /\ w' = w := by
 refine callsD_of_wpS Tryz.func69 rfl fun c₀ cs hu => ?_
 apply wpS_seq
 apply wpS_region
 simp [wpOpsS, go_sem, recoverD, hu, Tryz.ntmps69, Exit.thenS]
 refine wpS_cond (t := false) (by simp [Act.eval, Array.replicate]) ?_
 simp only [Bool.false_eq_true, if_false]
 refine wpS_of_wp (wp_skip ?_)
 cases c₀
 simp_all [bodyPostS, results, Tryz.results69]
theorem renderValues_any {ok0 : Nat -> Prop} {w0 : World} {cs0 vs0 : List Value} {c : Ch} {t : T} (G : Given ok0 w0 cs0 vs0 c t) (ok : Nat -> Prop) (cs vs : List Value) (nm ns : K) (rev : Int) (up ins : Bool) (w : World) (hc : ChJ ok w cs c) (hv : ValJ ok w vs (.table t))
  (wf : ∀ t', allV false c t = some t' -> Wf 99999999999 60 (.table t')) :
  Calls Tryz.prog 30 #[.agg cs.toArray, .agg vs.toArray, .agg #[.string nm, .string ns, .int .i64 rev, .bool up, .bool ins]] w (RendRet w c.name c.version nm ns rev up ins (allV false c t)) := by
 obtain ⟨hUN, hUk, hgU, hchw, hwu, hsh⟩ := given_in G
 have hmf : ∀ (fn : Fn) (first cap : Array Value) (w : World), (Instr.makeFunc fn first cap).run Tryz.prog w = .ok (.func fn first cap) w := fun _ _ _ _ => rfl
 obtain ⟨hl, ho⟩ := hc.one
 obtain ⟨name, ver, k, b, i, f, tx, kv, lv, dv, wv, rfl, -, -, -, ⟨drows, hdr, -⟩, ⟨wrows, hwr, -⟩⟩ := hc.cells
 obtain ⟨vk, vb, vi, vf, vt, vkv, vlv, rfl⟩ := hv.seven
 have hfacts : ∀ W, (((((w.alloc (.cells (cells11 name ver k b i f tx kv lv dv wv).toArray 30)).alloc (.cells (cells7 vk vb vi vf vt vkv vlv).toArray 26)).alloc (.cells [.string nm, .string ns, .int .i64 rev, .bool up, .bool ins].toArray 55)).alloc (.cells zero7.toArray 26)).alloc (.cells [.int .i64 0].toArray 3)) = W ->
   Blk W w.heap.size (cells11 name ver k b i f tx kv lv dv wv) 30 /\ Blk W (w.heap.size + 1) (cells7 vk vb vi vf vt vkv vlv) 26 /\ Blk W (w.heap.size + 2) [.string nm, .string ns, .int .i64 rev, .bool up, .bool ins] 55 /\ Blk W (w.heap.size + 3) zero7 26 /\ Blk W (w.heap.size + 4) [.int .i64 0] 3 /\ Chg No w W := by
  rintro W rfl
  exact ⟨((((Blk.new _ _ _).alloc _).alloc _).alloc _).alloc _, (((Blk.newAt (by simp) _ _).alloc _).alloc _).alloc _, ((Blk.newAt (by simp) _ _).alloc _).alloc _, (Blk.newAt (by simp) _ _).alloc _, Blk.newAt (by simp) _ _, ((((((Chg.refl No w).alloc _).alloc _).alloc _).alloc _).alloc _)⟩
 have HF := Hd hfacts
 have HCJ := Hd hc
 have HVJ := Hd hv
 have HG := Hd G
 have HUU := Hd (And.intro hUN (And.intro hUk (And.intro hgU (And.intro hchw (And.intro hwu hsh)))))
 have WF := Hd wf
 clear hfacts hc hv G hUN hUk hgU hchw hwu hsh wf hdr hwr hl ho
 go_enter_defers Tryz.func30, Tryz.ntmps30
 unfold cells11 cells7
 go_upto_region 2 with fail
 generalize hgw : World.alloc _ _ = W
 obtain ⟨b3, b4, b5, b6, b7, c1⟩ := HF.out W hgw
 clear hgw HF
 obtain ⟨g, hg⟩ : ∃ g, g = w.heap.size := ⟨_, rfl⟩
 rw [← hg] at b3 b4 b5 b6 b7 ⊢
 have HGE := Hd hg
 have HB3 := Hd b3
 have HB5 := Hd b5
 have HB6 := Hd b6
 have HB7 := Hd b7
 have HC1 := Hd c1
 clear b3 b5 b6 b7 c1 hg
 go_wp2_with (first | (with_reducible refine wpList_loadAgg rfl agg26 rfl rfl b4.cells rfl ?_))
 refine (table_any (N := 300) (d := 50) (by decide) (HVJ.out.chg HC1.out (fun _ _ e => e)) HG.out.wf (.inr rfl) (Nat.le_trans HG.out.sz (by decide)) (by decide)).mono ?_
 rintro e w2 ⟨mv, rfl, hmf2, hc2⟩
 obtain ⟨mb, rfl, haj⟩ : ∃ mb, mv = .map (some mb) /\ AnyJ (fun y => W.heap.size ≤ y) w2 (.iface 67 (.map (some mb))) (.table t) := by
  rcases hmf2 with ⟨h, -⟩ | ⟨t', b', h1, h2, h3⟩
  ·cases h
  ·cases h1; subst h2; exact ⟨b', rfl, h3⟩
 have HAJ := Hd haj
 have HC2 := Hd (HC1.out.trans' hc2)
 have b32 := HB3.out.chg hc2 id
 have HC22 := Hd hc2
 clear hmf2 haj hc2 b4
 have hl3 : (cells11 name ver k b i f tx kv lv dv wv).length = 11 := rfl
 go_wp2_with (first | (with_reducible refine wpList_loadAgg rfl agg30 rfl rfl b32.cells hl3 ?_))
 refine (chartOf_any 6 c (okB ok w) (cells11 name ver k b i f tx kv lv dv wv) w2 0 (HCJ.out.bel.chg HC2.out (fun _ _ e => e)) HG.out.chr (by decide)).mono ?_
 rintro e w3 ⟨p, R, S, rfl, hco, hR, hS, hRS, hc3⟩
 have HCM := Hd hco.chartM
 obtain ⟨pm, mv3, par3, dv3, wv3, hbp, hbm⟩ : ∃ pm mv3 par3 dv3 wv3, Blk w3 p [ptr pm, mv3, par3, dv3] 125 /\ Blk w3 pm [.string c.name, .string c.version, wv3] 122 := by
  cases hco with
  | mk hp hm => exact ⟨_, _, _, _, _, hp, hm⟩
 have HBP := Hd hbp
 have HBM := Hd hbm
 have HC3 := Hd (HC2.out.trans' hc3)
 have HC32 := Hd (HC22.out.trans' hc3)
 have HC33 := Hd hc3
 clear hco hR hS hRS hc3 hbp hbm b32
 have b53 := HB5.out.chg HC32.out id
 have agg55 : AggTy Tryz.prog 55 5 := ⟨⟨_, Tryz.underlying55⟩, by kernel_rfl⟩
 go_wp2_with (first | (with_reducible refine wpList_loadAgg rfl agg55 rfl rfl b53.cells rfl ?_))
 have hkn : kOk c.name := by have := HG.out.chr.2.1.le; unfold kOk; omega
 have hcall := rendered_any (keysG c t) 99999999999 (by decide) (by decide) (fun _ => True) p mb pm mv3 par3 dv3 wv3 c.name c.version nm ns rev up ins (allV false c t) w3 HBP.out HBM.out hkn HG.out.chr.2.2.1.2.ok WF.out (fun w4 hc4 => by
  obtain ⟨h1, h2, h3, h4, h5, h6⟩ := HUU.out
  exact coalescePkg_any (keysG c t) 99999999999 (by decide) h1 h2 h3 48 6 (by decide) c h4 (okB (fun _ => True) w3) p t mb w4 ((HCM.out.mono (ok' := okB (fun _ => True) w3) (fun b hb _ => ⟨trivial, hb⟩)).chg hc4 (fun _ _ e => e)) (((HAJ.out.chg HC33.out (fun _ _ e => e)).mono (ok' := okB (fun _ => True) w3) (fun b hb _ => ⟨trivial, hb⟩)).chg hc4 (fun _ _ e => e)) h5 h6)
 have HCALL := Hd hcall
 clear hcall hkn b53
 go_wp2_with fail
 refine HCALL.out.mono ?_
 rintro e w4 ⟨cs4, code, rfl, hc4, hn4, hs4⟩
 have hl4 : cs4.length = 7 := by
  cases h : allV false c t with
  | none => exact (hn4 h).2.length
  | some t' => exact (hs4 t' h).2.length
 have ho4 : cs4.all (·.oneCell') = true := by
  cases h : allV false c t with
  | none => exact (hn4 h).2.one
  | some t' => exact (hs4 t' h).2.one
 have HC4 := Hd (HC3.out.trans' hc4)
 have b64 := HB6.out.chg (HC32.out.trans' hc4) id
 have HB74 := Hd (HB7.out.chg (HC32.out.trans' hc4) id)
 have HN4 := Hd hn4
 have HS4 := Hd hs4
 have HNE := Hd (show ¬ g + 4 = g + 3 by omega)
 clear hc4 hn4 hs4
 go_wp2_with (first | (with_reducible refine wpList_storeBlk rfl agg26 rfl rfl rfl b64 rfl hl4 ho4 ?_; intro w9 hb9 hc9 hs9; (have b39 := HB74.out.chg hc9 HNE.out); (have k3 := b39.cell 0); (have f3 := b39.frozen 0); (simp only [List.getElem?_cons_zero] at k3)))
 obtain ⟨hb3y, hcy, -⟩ := b39.setCell 0 (.int .i64 code)
 have hb2y := hb9.chg hcy (by have := HNE.out; omega)
 refine leaves_cons (f := 69) (args := #[.pointer (some ⟨g + 3, 0, none⟩), .pointer (some ⟨g + 4, 0, none⟩)]) (by simp) (by simp [go_sem]) ?_
 refine (idle69 _ _ _).mono ?_
 rintro e u' w'' ⟨rfl, rfl, rfl⟩
 have hge := HGE.out
 have hsz := HC3.out.size
 have hall := (HC4.out.trans hc9 (fun x hx e => by omega)).trans hcy (fun x hx e => by omega)
 have h37 := (HC1.out.size)
 have hl6 := HB6.out.lt
 have hl7 := HB7.out.lt
 have hs23 := HC32.out.size
 refine ⟨_, results_blk_cell (p := 6) (q := 7) rfl agg26 rfl hb2y hl4 Tryz.isAgg3 rfl (hb3y.cell 0), _, code, rfl, hall, fun h => ?_, fun t' h => ?_⟩
 ·obtain ⟨h1, h2⟩ := HN4.out h
  exact ⟨h1, (((h2.chg hc9 (fun b hb e => by omega)).chg hcy (fun b hb e => by omega)).mono (fun b _ hb => by omega))⟩
 ·obtain ⟨h1, h2⟩ := HS4.out t' h
  exact ⟨h1, (((h2.chg hc9 (fun b hb e => by omega)).chg hcy (fun b hb e => by omega)).mono (fun b _ hb => by omega))⟩
def globJ (a : T) : J := match get a gK with
 | none => .table []
 | some x => x
theorem tabAt_globJ {a t : T} (h : globJ a = .table t) : tabAt a gK = some t := by
 unfold globJ at h
 unfold tabAt
 cases hg : get a gK with
 | none => rw [hg] at h; cases h; rfl
 | some x => rw [hg] at h; subst h; rfl
theorem tabAt_globJ_none {a : T} (h : isT (globJ a) = false) : tabAt a gK = none := by
 unfold globJ at h
 unfold tabAt
 cases hg : get a gK with
 | none => rw [hg] at h; cases h
 | some x => rw [hg] at h; cases x <;> first | rfl | cases h
structure GO (ok : Nat -> Prop) (w W0 : World) (g gm gt : Nat) (ca cb ct : List Value) (o : T) (wr : World) (oc : List Value) : Prop where
 b0 : Blk wr g ca 26
 b1 : Blk wr (g + 1) cb 26
 b2 : Blk wr (g + 2) zero7 26
 bm : Blk wr gm oc 26
 bt : Blk wr gt ct 26
 val : ValJ (okL ok w gm) wr oc (.table o)
 chg : Chg No w wr
 ch7 : Chg (· = gm) W0 wr
 lt : g + 2 < gm /\ gm < gt
theorem GO.step {ok : Nat -> Prop} {w W0 : World} {g gm gt : Nat} {ca cb ct : List Value} {o : T} {wr w' : World} {oc : List Value} (h : GO ok w W0 g gm gt ca cb ct o wr oc) (hc : Chg No wr w') : GO ok w W0 g gm gt ca cb ct o w' oc :=
 ⟨h.b0.chg hc id, h.b1.chg hc id, h.b2.chg hc id, h.bm.chg hc id, h.bt.chg hc id, h.val.chg hc (fun _ _ e => e), h.chg.trans' hc, h.ch7.trans' hc, h.lt⟩
theorem GO.fill {ok : Nat -> Prop} {w W0 : World} {g gm gt : Nat} {ca cb ct : List Value} {o o' : T} {wr w' : World} {oc oc' : List Value} (h : GO ok w W0 g gm gt ca cb ct o wr oc) (hw : w.heap.size ≤ gm) (hc : Chg (· = gm) wr w') (hb : Blk w' gm oc' 26) (hv : ValJ (okL ok w gm) w' oc' (.table o')) : GO ok w W0 g gm gt ca cb ct o' w' oc' :=
 ⟨h.b0.chg hc (by have := h.lt; omega), h.b1.chg hc (by have := h.lt; omega), h.b2.chg hc (by have := h.lt; omega), hb, h.bt.chg hc (by have := h.lt; omega), hv, h.chg.trans hc (fun i hi e => by omega), h.ch7.trans hc (fun _ _ e => e), h.lt⟩
structure GP (ok : Nat -> Prop) (w : World) (g : Nat) (ca cb : List Value) (wr : World) : Prop where
 b0 : Blk wr g ca 26
 b1 : Blk wr (g + 1) cb 26
 b2 : Blk wr (g + 2) zero7 26
 chg : Chg No w wr
theorem GP.step {ok : Nat -> Prop} {w : World} {g : Nat} {ca cb : List Value} {wr w' : World} (h : GP ok w g ca cb wr) (hc : Chg No wr w') : GP ok w g ca cb w' :=
 ⟨h.b0.chg hc id, h.b1.chg hc id, h.b2.chg hc id, h.chg.trans' hc⟩
theorem GP.fill {ok : Nat -> Prop} {w : World} {g : Nat} {ca cb : List Value} {wr w' : World} {x : Nat} (h : GP ok w g ca cb wr) (hx : g + 2 < x) (hw : w.heap.size ≤ x) (hc : Chg (· = x) wr w') : GP ok w g ca cb w' :=
 ⟨h.b0.chg hc (by omega), h.b1.chg hc (by omega), h.b2.chg hc (by omega), h.chg.trans hc (fun i hi e => by omega)⟩
theorem table7_nil (ok : Nat -> Prop) (w : World) : ValJ ok w (cells7 7 false 0 0 ByteArray.empty (.slice none 0 0) (.slice none 0 0)) (.table []) :=
 .table (kvs := []) (rowNil _ _ _) (rowNil _ _ _) rfl (fun n r p h => by simp at h)
theorem at_globJ {ok : Nat -> Prop} {a : T} {w1 : World} {e : Ending} (h : match get a gK with
  | some x => ∃ cs, e = .returned (.tuple #[.agg cs.toArray, .bool true]) /\ ValJ ok w1 cs x
  | none => e = .returned (.tuple #[.agg zero7.toArray, .bool false])) : ∃ (xc : List Value) (has : Bool), e = .returned (.tuple #[.agg xc.toArray, .bool has]) /\ (xc.length = 7 /\ xc.all (·.oneCell') = true) /\ (has = true -> ValJ ok w1 xc (globJ a)) /\ (has = false -> globJ a = .table []) := by
 unfold globJ
 cases hg : get a gK with
 | none =>
  rw [hg] at h
  exact ⟨zero7, false, h, ⟨rfl, rfl⟩, (by intro h; cases h), fun _ => rfl⟩
 | some x =>
  rw [hg] at h
  obtain ⟨cs, h1, h2⟩ := h
  exact ⟨cs, true, h1, ⟨h2.length, h2.one⟩, fun _ => h2, (by intro h; cases h)⟩
theorem spGlobals_any (U : List K) (N : Nat) (hU : U.length < 1099511627776) (d : Nat) (ok : Nat -> Prop) (a b : T) (ca cb : List Value) (w : World) (ha : ValJ ok w ca (.table a)) (hb : ValJ ok w cb (.table b)) (wa : WU U N (d + 2) (.table a)) (wb : WU U N (d + 2) (.table b)) :
  Calls Tryz.prog 55 #[.agg ca.toArray, .agg cb.toArray] w fun e w' => ∃ cs, e = .returned (.agg cs.toArray) /\ ValJ (fun b => ok b ∨ w.heap.size ≤ b) w' cs (.table (globals a b)) /\ Chg No w w' := by
 have HA := Hd ha.bel
 have HB := Hd hb.bel
 have WA := Hd wa
 have WB := Hd wb
 have hUl := hU
 obtain ⟨ab, ai, af, at_, akv, alv, rfl⟩ := ha.table7
 obtain ⟨bb, bi, bf, bt, bkv, blv, rfl⟩ := hb.table7
 have hfacts : ∀ W, (((w.alloc (.cells (cells7 7 ab ai af at_ akv alv).toArray 26)).alloc (.cells (cells7 7 bb bi bf bt bkv blv).toArray 26)).alloc (.cells zero7.toArray 26)) = W ->
   GP ok w w.heap.size (cells7 7 ab ai af at_ akv alv) (cells7 7 bb bi bf bt bkv blv) W /\ W.heap.size = w.heap.size + 3 := by
  rintro W rfl
  exact ⟨⟨((Blk.new _ _ _).alloc _).alloc _, (Blk.newAt (by simp) _ _).alloc _, Blk.newAt (by simp) _ _, (((Chg.refl No w).alloc _).alloc _).alloc _⟩, by simp⟩
 have HF := Hd hfacts
 clear hfacts ha hb wa wb
 go_enter Tryz.func55, Tryz.ntmps55
 unfold cells7
 go_upto_region 1 with fail
 generalize hgw : World.alloc _ _ = W
 obtain ⟨gp, hws⟩ := HF.out W hgw
 clear hgw HF
 obtain ⟨g, hg⟩ : ∃ g, g = w.heap.size := ⟨_, rfl⟩
 rw [← hg] at gp hws ⊢
 have HG := Hd hg
 have HGP := Hd gp
 have HWS := Hd hws
 rw [show g + 1 + 1 = g + 2 from rfl]
 have b0 := gp.b0.cells
 clear hg gp hws
 go_wp2_with (first | (with_reducible refine wpList_loadAgg rfl agg26 rfl rfl b0 rfl ?_))
 refine (at_table (okB ok w) a gK ab ai af at_ akv alv W (HA.out.chg HGP.out.chg (fun _ _ e => e))).mono ?_
 rintro e w1 ⟨hc1, hat⟩
 simp only [atJ] at hat
 have HC1 := Hd hc1
 have HGP1 := Hd (HGP.out.step hc1)
 obtain ⟨gm, hgm⟩ : ∃ gm, gm = w1.heap.size := ⟨_, rfl⟩
 have HGM := Hd hgm
 have HGL := Hd (show g + 2 < gm by have := hc1.size; have := HWS.out; omega)
 have HWL := Hd (show w.heap.size ≤ gm by have := HG.out; have := HGL.out; omega)
 clear hc1 b0 hgm
 obtain ⟨xc, has, rfl, ⟨hxl, hxo⟩, hx1, hx2⟩ := at_globJ hat
 have HX1 := Hd hx1
 have HX2 := Hd hx2
 clear hat hx1 hx2
 have hbk := build26_k 7
 go_upto_if 20 with (first | (with_reducible refine wpList_storeNew rfl agg26 rfl rfl rfl rfl hxl hxo ?_))
 obtain ⟨w2, hw2⟩ : ∃ w2, w2 = w1.alloc (.cells xc.toArray 26) := ⟨_, rfl⟩
 rw [← HGM.out, ← hw2]
 have hbm := Blk.newAt HGM.out xc 26
 rw [← hw2] at hbm
 have HBM0 := Hd hbm
 have HC2 := Hd (show Chg No w1 w2 by rw [hw2]; exact (Chg.refl No w1).alloc _)
 have HGP2 := Hd (HGP1.out.step HC2.out)
 clear hbm hw2
 go_cut [21] from 21 to 21 (fun s21 wc => ∃ mc, Blk wc gm mc 26 /\ ValJ (okL ok w gm) wc mc (globJ a) /\ GP ok w g (cells7 7 ab ai af at_ akv alv) (cells7 7 bb bi bf bt bkv blv) wc)
 case first =>
  cases has with
  | true =>
   go_wp2_with fail
   go_meet
   exact ⟨xc, HBM0.out, ((HX1.out trivial).chg HC2.out (fun _ _ e => e)).mono (fun b _ h => .inl h), HGP2.out⟩
  | false =>
   have hbm := HBM0.out
   go_wp2_with (first | (refine wpList_storeBlk rfl agg26 rfl rfl rfl hbm hxl rfl rfl ?_; intro w3 hb3 hc3 hs3))
   go_meet
   exact ⟨_, hb3, by rw [HX2.out trivial]; exact table7_nil _ _, HGP2.out.fill HGL.out HWL.out hc3⟩
 case rest =>
  obtain ⟨mc, hbm, hvm, hgp⟩ := hcut
  have HBM := Hd hbm
  have HVM := Hd hvm
  have HGP := Hd hgp
  have b1 := hgp.b1.cells
  clear hbm hvm hgp HBM0 HX1 HX2 HC2 HGP2 HC1 HGP1 hxl hxo
  go_wp2_with (first | (with_reducible refine wpList_loadAgg rfl agg26 rfl rfl b1 rfl ?_))
  refine (at_table (okB ok w) b gK bb bi bf bt bkv blv wc (HB.out.chg HGP.out.chg (fun _ _ e => e))).mono ?_
  rintro e w4 ⟨hc4, hat⟩
  simp only [atJ] at hat
  obtain ⟨yc, has, rfl, ⟨hyl, hyo⟩, hy1, hy2⟩ := at_globJ hat
  have HY1 := Hd hy1
  have HY2 := Hd hy2
  have HC4 := Hd hc4
  have HGP4 := Hd (HGP.out.step hc4)
  have HBM4 := Hd (HBM.out.chg hc4 id)
  have HVM4 := Hd (HVM.out.chg hc4 (fun _ _ e => e))
  obtain ⟨gt, hgt⟩ : ∃ gt, gt = w4.heap.size := ⟨_, rfl⟩
  have HGT := Hd hgt
  have HTL := Hd (show gm < gt by have := HBM4.out.lt; omega)
  clear hat hy1 hy2 hc4 b1 hgt
  go_upto_if 28 with (first | (with_reducible refine wpList_storeNew rfl agg26 rfl rfl rfl rfl hyl hyo ?_))
  obtain ⟨w5, hw5⟩ : ∃ w5, w5 = w4.alloc (.cells yc.toArray 26) := ⟨_, rfl⟩
  rw [← HGT.out, ← hw5]
  have hbt := Blk.newAt HGT.out yc 26
  rw [← hw5] at hbt
  have HBT0 := Hd hbt
  have HC5 := Hd (show Chg No w4 w5 by rw [hw5]; exact (Chg.refl No w4).alloc _)
  have HGP5 := Hd (HGP4.out.step HC5.out)
  have HBM5 := Hd (HBM4.out.chg HC5.out id)
  have HVM5 := Hd (HVM4.out.chg HC5.out (fun _ _ e => e))
  clear hbt hw5
  go_cut [29] from 29 to 29 (fun s29 wc => ∃ mc tc, Blk wc gm mc 26 /\ ValJ (okL ok w gm) wc mc (globJ a) /\ Blk wc gt tc 26 /\ ValJ (okB ok w) wc tc (globJ b) /\ GP ok w g (cells7 7 ab ai af at_ akv alv) (cells7 7 bb bi bf bt bkv blv) wc)
  case first =>
   cases has with
   | true =>
    go_wp2_with fail
    go_meet
    exact ⟨mc, yc, HBM5.out, HVM5.out, HBT0.out, (HY1.out trivial).chg HC5.out (fun _ _ e => e), HGP5.out⟩
   | false =>
    have hbt := HBT0.out
    go_wp2_with (first | (refine wpList_storeBlk rfl agg26 rfl rfl rfl hbt hyl rfl rfl ?_; intro w6 hb6 hc6 hs6))
    go_meet
    refine ⟨mc, _, HBM5.out.chg hc6 (by have := HTL.out; omega), ?_, hb6, by rw [HY2.out trivial]; exact table7_nil _ _, HGP5.out.fill (by have := HGL.out; have := HTL.out; omega) (by have := HWL.out; have := HTL.out; omega) hc6⟩
    exact ((HVM4.out.bel.chg HC5.out (fun _ _ e => e)).chg hc6 (fun x h e => by have := h.2; have := HGT.out; omega)).mono (fun x _ h => h.1)
  case rest =>
   obtain ⟨mc, tc, hbm, hvm, hbt, hvt, hgp⟩ := hcut
   have HBM := Hd hbm
   have HVM := Hd hvm
   have HBT := Hd hbt
   have HVT := Hd hvt
   have HGP := Hd hgp
   clear hbm hvm hbt hvt hgp HY1 HY2 HC5 HGP5 HBM5 HVM5 HBT0 HC4 HGP4 HBM4 HVM4 hyl hyo
   obtain ⟨mk, mb, mi, mf, mt, mkv, mlv, rfl⟩ := HVM.out.seven
   obtain ⟨tk, tb, ti, tf, tt, tkv, tlv, rfl⟩ := HVT.out.seven
   have HKM := Hd HVM.out.kindQ
   have HKT := Hd HVT.out.kindQ
   have bm := HBM.out.cells
   go_wp2_with (first | (with_reducible refine wpList_loadAgg rfl agg26 rfl rfl bm rfl ?_))
   refine (isTable_any mk mi mb mf mt mkv mlv wc).mono ?_
   rintro e w6 ⟨rfl, hc6⟩
   have HBM6 := Hd (HBM.out.chg hc6 id)
   have HVM6 := Hd (HVM.out.chg hc6 (fun _ _ e => e))
   have HBT6 := Hd (HBT.out.chg hc6 id)
   have HVT6 := Hd (HVT.out.chg hc6 (fun _ _ e => e))
   have HGP6 := Hd (HGP.out.step hc6)
   clear hc6 bm HBM HVM HBT HVT HGP
   by_cases hm7 : mk = 7
   ·subst hm7
    obtain ⟨A, hA⟩ := isT_table (HKM.out.2.1 rfl)
    have bt := HBT6.out.cells
    go_wp2_with (first | (with_reducible refine wpList_loadAggG rfl agg26 rfl rfl bt rfl ?_))
    refine (isTable_any tk ti tb tf tt tkv tlv w6).mono ?_
    rintro e w7 ⟨rfl, hc7⟩
    have HBM7 := Hd (HBM6.out.chg hc7 id)
    have HVM7 := Hd (HVM6.out.chg hc7 (fun _ _ e => e))
    have HBT7 := Hd (HBT6.out.chg hc7 id)
    have HVT7 := Hd (HVT6.out.chg hc7 (fun _ _ e => e))
    have HGP7 := Hd (HGP6.out.step hc7)
    clear hc7 bt HBM6 HVM6 HBT6 HVT6 HGP6
    by_cases ht7 : tk = 7
    ·subst ht7
     obtain ⟨B, hB⟩ := isT_table (HKT.out.2.1 rfl)
     have HTA := Hd (tabAt_globJ hA)
     have HTB := Hd (tabAt_globJ hB)
     have WTA := Hd (WA.out.tabAt HTA.out)
     have WTB := Hd (WB.out.tabAt HTB.out)
     rw [hA] at HVM7
     rw [hB] at HVT7
     have HTS := Hd WTB.out.sorted
     have TOLD := Hd (told_globT A)
     have hvt := HVT7.out
     cases hvt with
     | @table _ _ _ _ _ _ rows _ hk hl hn hr =>
     have HK := Hd hk
     have HL := Hd hl
     have HR := Hd hr
     have HN := Hd hn
     have hk1 := hk.1
     obtain ⟨-, -, ka, kc, rfl, -, -⟩ := hk
     obtain ⟨-, -, la, lc, rfl, -, -⟩ := hl
     simp only [List.length_map] at HK hk1 HVT7 HBT7 ⊢
     unfold maxLen at hk1
     have HGO0 := Hd (show GO ok w w7 g gm gt (cells7 7 ab ai af at_ akv alv) (cells7 7 bb bi bf bt bkv blv) (cells7 7 tb ti tf tt (.slice ka B.length kc) (.slice la rows.length lc)) (globT A (B.take 0)) w7 (cells7 7 mb mi mf mt mkv mlv) from
      ⟨HGP7.out.b0, HGP7.out.b1, HGP7.out.b2, HBM7.out, HBT7.out, by rw [TOLD.out.start WTA.out.sorted (fun k => globAt_none _)]; exact HVM7.out, HGP7.out.chg, Chg.refl _ _, ⟨HGL.out, HTL.out⟩⟩)
     have HLE := Hd HWL.out
     have q5 : w7.cell? ⟨gt, 5, none⟩ = some (.slice ka B.length kc) := HBT7.out.cell 5
     clear hr hn hA hB hbk HBM7 HVM7 HBT7 HVT7 HGP7 HKM HKT
     go_wp2_with fail
     clear q5
     go_loopw [42] (fun ct wr => ∃ (n : Nat) (oc : List Value), ct = .int .i64 n /\ n ≤ B.length /\ GO ok w w7 g gm gt (cells7 7 ab ai af at_ akv alv) (cells7 7 bb bi bf bt bkv blv) (cells7 7 tb ti tf tt (.slice ka B.length kc) (.slice la rows.length lc)) (globT A (B.take n)) wr oc) (fun ct _ => B.length - (intOf ct).toNat)
     case atStart => exact ⟨0, _, rfl, Nat.zero_le _, HGO0.out⟩
     case round =>
      obtain ⟨n, oc, rfl, hnb, hgo⟩ := hrel
      have HGO := Hd hgo
      clear hgo HGO0
      by_cases hlt : n < B.length
      ·obtain ⟨p, hp⟩ : ∃ p, B[n]? = some p := ⟨_, List.getElem?_eq_getElem hlt⟩
       obtain ⟨r, hr0⟩ : ∃ r, rows[n]? = some r := ⟨_, List.getElem?_eq_getElem (by rw [HN.out]; exact hlt)⟩
       obtain ⟨kb, ko, rfl, hkok, hkc⟩ := HK.out.at (i := n) (r := [.string p.1]) (by simp [hp])
       obtain ⟨lb, lo, rfl, hlok, hlc⟩ := HL.out.at (i := n) (r := r) hr0
       have hkc := (hkc.chg HGO.out.ch7 (fun e => by have := hkok.2; have := HWL.out; omega)).one
       simp only [Nat.mul_one] at hkc
       have hlc := hlc.chg HGO.out.ch7 (fun e => by have := hlok.2; have := HWL.out; omega)
       have hvr := ((HR.out n r p hr0 hp).chg HGO.out.ch7 (fun b hb e => by have := hb.2; have := HWL.out; omega))
       obtain ⟨vk, vb, vi, vf, vt, vkv, vlv, rfl⟩ := hvr.seven
       have hrl := hvr.length
       have hro := hvr.one
       have HKV := Hd hvr.kindQ
       have HVR := Hd hvr
       have HP := Hd hp
       have h64 : (n : Int) < (B.length : Int) := by omega
       have h65 : (n : Int) < (rows.length : Int) := by rw [HN.out]; exact h64
       have q5 : wr.cell? ⟨gt, 5, none⟩ = some (.slice (some ⟨kb, ko, none⟩) B.length kc) := HGO.out.bt.cell 5
       have q6 : wr.cell? ⟨gt, 6, none⟩ = some (.slice (some ⟨lb, lo, none⟩) rows.length lc) := HGO.out.bt.cell 6
       obtain ⟨gv, hgv⟩ : ∃ gv, gv = wr.heap.size := ⟨_, rfl⟩
       have HGV := Hd (show gm < gv by have := HGO.out.bt.lt; have := HTL.out; omega)
       have HGVE := Hd hgv
       clear hp hr0 hkok hlok hvr hgv
       go_upto_region 13 with (first | (with_reducible refine wpList_loadAgg rfl agg26 rfl rfl hlc hrl ?_) | (with_reducible refine wpList_storeNew rfl agg26 rfl rfl rfl rfl hrl hro ?_))
       obtain ⟨w2, hw2⟩ : ∃ w2, w2 = wr.alloc (.cells (cells7 vk vb vi vf vt vkv vlv).toArray 26) := ⟨_, rfl⟩
       have hb11 := Blk.newAt HGVE.out (cells7 vk vb vi vf vt vkv vlv) 26
       rw [← hw2] at hb11 ⊢
       rw [← HGVE.out]
       have HC2 := Hd (show Chg No wr w2 by rw [hw2]; exact (Chg.refl No wr).alloc _)
       have HB11 := Hd hb11
       clear hb11 hw2 q5 q6 hkc hlc hrl hro
       have HGO := Hd (HGO.out.step HC2.out)
       have HVV := Hd ((HVR.out.chg HC2.out (fun _ _ e => e)).mono (ok' := okL ok w gm) (fun b _ h => .inl h))
       obtain ⟨O, hO⟩ : ∃ O, O = globT A (B.take n) := ⟨_, rfl⟩
       have HOE := Hd hO
       have hwo : WU U N (d + 1) (.table O) := by rw [hO]; exact WU.globT WTA.out WTB.out.take
       have hgo : get O p.1 = get A p.1 := by rw [hO, get_globT, get_take_self HTS.out HP.out, globAt_none]
       have HGET := Hd hgo
       have HOS := Hd hwo.sorted
       have HOL := Hd (Nat.lt_of_le_of_lt hwo.len hUl)
       have NOTG := Hd (okL_not (ok := ok) (w := w) (g := gm) HWL.out)
       rw [← hO] at HGO
       clear hwo hO hgo HVR
       obtain ⟨ob, oi, of, ot, okv, olv, rfl⟩ := HGO.out.val.table7
       have bm := HGO.out.bm.cells
       go_wp2_with (first | (with_reducible refine wpList_loadAgg rfl agg26 rfl rfl bm rfl ?_))
       refine (at_table (okL ok w gm) O p.1 ob oi of ot okv olv w2 HGO.out.val).mono ?_
       rintro e w3 ⟨hc3, hat⟩
       simp only [atJ] at hat
       have HGO := Hd (HGO.out.step hc3)
       have HB11 := Hd (HB11.out.chg hc3 id)
       have HVV := Hd (HVV.out.chg hc3 (fun _ _ e => e))
       clear hc3 bm
       cases hgk : get O p.1 with
       | none =>
        rw [hgk] at hat
        obtain rfl := hat
        have HGK := Hd (show get A p.1 = none by rw [← HGET.out]; exact hgk)
        have hz1 : zero7.all (·.oneCell') = true := rfl
        obtain ⟨gx, hgx⟩ : ∃ gx, gx = w3.heap.size := ⟨_, rfl⟩
        have HGXE := Hd hgx
        clear hgk hgx
        go_upto_region 15 with (first | (with_reducible refine wpList_storeNew rfl agg26 rfl rfl rfl rfl rfl hz1 ?_))
        obtain ⟨w4, hw4⟩ : ∃ w4, w4 = w3.alloc (.cells zero7.toArray 26) := ⟨_, rfl⟩
        have hb12 := Blk.newAt HGXE.out zero7 26
        rw [← hw4] at hb12 ⊢
        rw [← HGXE.out]
        have HB12 := Hd hb12
        have hc4 : Chg No w3 w4 := by rw [hw4]; exact (Chg.refl No w3).alloc _
        have HGO := Hd (HGO.out.step hc4)
        have HB11 := Hd (HB11.out.chg hc4 id)
        have HVV := Hd (HVV.out.chg hc4 (fun _ _ e => e))
        clear hb12 hw4 hc4
        by_cases h7 : vk = 7
        ·subst h7
         have bv := HB11.out.cells
         go_wp2_with (first | (with_reducible refine wpList_loadAgg rfl agg26 rfl rfl bv rfl ?_) | (with_reducible refine wpList_loadAggG rfl agg26 rfl rfl bv rfl ?_))
         refine (isTable_any _ _ _ _ _ _ _ _).mono ?_
         rintro e w5 ⟨rfl, hc5⟩
         have HGO := Hd (HGO.out.step hc5)
         have HB11 := Hd (HB11.out.chg hc5 id)
         have HB12 := Hd (HB12.out.chg hc5 id)
         have HVV := Hd (HVV.out.chg hc5 (fun _ _ e => e))
         clear bv
         have bv := HB11.out.cells
         go_wp2_with (first | (with_reducible refine wpList_loadAgg rfl agg26 rfl rfl bv rfl ?_) | (with_reducible refine wpList_loadAggG rfl agg26 rfl rfl bv rfl ?_))
         refine (isTable_any _ _ _ _ _ _ _ _).mono ?_
         rintro e w6 ⟨rfl, hc6⟩
         have HGO := Hd (HGO.out.step hc6)
         have HB11 := Hd (HB11.out.chg hc6 id)
         have HB12 := Hd (HB12.out.chg hc6 id)
         have HVV := Hd (HVV.out.chg hc6 (fun _ _ e => e))
         clear bv
         have bv := HB11.out.cells
         go_wp2_with (first | (with_reducible refine wpList_loadAgg rfl agg26 rfl rfl bv rfl ?_) | (with_reducible refine wpList_loadAggG rfl agg26 rfl rfl bv rfl ?_))
         refine (isTable_any _ _ _ _ _ _ _ _).mono ?_
         rintro e w7 ⟨rfl, hc7⟩
         have HGO := Hd (HGO.out.step hc7)
         have HB11 := Hd (HB11.out.chg hc7 id)
         have HB12 := Hd (HB12.out.chg hc7 id)
         have HVV := Hd (HVV.out.chg hc7 (fun _ _ e => e))
         clear bv
         have bm := HGO.out.bm.cells
         have bv := HB11.out.cells
         go_wp2_with (first | (with_reducible refine wpList_loadAgg rfl agg26 rfl rfl bm rfl ?_) | (with_reducible refine wpList_loadAgg rfl agg26 rfl rfl bv rfl ?_))
         refine (with_any (okL ok w gm) O p.1 p.2 ob oi of ot okv olv _ _ HGO.out.val HVV.out HOS.out HOL.out).mono ?_
         rintro e w20 ⟨c2, rfl, hv2, hc2⟩
         have hbm := HGO.out.bm.chg hc2 id
         have hl2 := hv2.length
         have ho2 := hv2.one
         have HV2 := Hd (hv2.mono (ok' := okL ok w gm) (fun b _ hb => hb.elim id (fun h => .inr (by have h2 := HGO.out.bm.lt; omega))))
         have HGO2 := Hd (HGO.out.step hc2)
         clear hv2 hc2 bm bv
         go_wp2_with (first | (with_reducible refine wpList_storeBlk rfl agg26 rfl rfl rfl hbm rfl hl2 ho2 ?_; intro w21 hb3' hc3 hs3))
         have HGO3 := Hd (HGO2.out.fill HLE.out hc3 hb3' (HV2.out.chg hc3 (fun b hb e => NOTG.out (e ▸ hb))))
         clear hb3' hc3 hs3 hbm
         go_roundw
         case rel => first | exact ⟨n + 1, c2, by go_num, by omega, (by rw [TOLD.out.ins (z := p.2) HTS.out HP.out (by rw [HGK.out]; cases p.2 <;> rfl), ← HOE.out]; exact HGO3.out)⟩ | ((repeat apply Exists.intro); exact ⟨⟨n + 1, c2, by go_num, by omega, (by rw [TOLD.out.ins (z := p.2) HTS.out HP.out (by rw [HGK.out]; cases p.2 <;> rfl), ← HOE.out]; exact HGO3.out)⟩, rfl⟩)
         case measure => simp [intOf]; omega
        ·have h7b : (vk == 7) = false := by simpa using h7
         clear h7
         have bv := HB11.out.cells
         go_wp2_with (first | (with_reducible refine wpList_loadAgg rfl agg26 rfl rfl bv rfl ?_) | (with_reducible refine wpList_loadAggG rfl agg26 rfl rfl bv rfl ?_))
         refine (isTable_any _ _ _ _ _ _ _ _).mono ?_
         rintro e w5 ⟨rfl, hc5⟩
         have HGO := Hd (HGO.out.step hc5)
         have HB11 := Hd (HB11.out.chg hc5 id)
         have HB12 := Hd (HB12.out.chg hc5 id)
         have HVV := Hd (HVV.out.chg hc5 (fun _ _ e => e))
         clear bv
         have bv := HB11.out.cells
         go_wp2_with (first | (with_reducible refine wpList_loadAgg rfl agg26 rfl rfl bv rfl ?_) | (with_reducible refine wpList_loadAggG rfl agg26 rfl rfl bv rfl ?_))
         refine (isTable_any _ _ _ _ _ _ _ _).mono ?_
         rintro e w6 ⟨rfl, hc6⟩
         have HGO := Hd (HGO.out.step hc6)
         have HB11 := Hd (HB11.out.chg hc6 id)
         have HB12 := Hd (HB12.out.chg hc6 id)
         have HVV := Hd (HVV.out.chg hc6 (fun _ _ e => e))
         clear bv
         have bv := HB11.out.cells
         go_wp2_with (first | (with_reducible refine wpList_loadAgg rfl agg26 rfl rfl bv rfl ?_) | (with_reducible refine wpList_loadAggG rfl agg26 rfl rfl bv rfl ?_))
         refine (isTable_any _ _ _ _ _ _ _ _).mono ?_
         rintro e w7 ⟨rfl, hc7⟩
         have HGO := Hd (HGO.out.step hc7)
         have HB11 := Hd (HB11.out.chg hc7 id)
         have HB12 := Hd (HB12.out.chg hc7 id)
         have HVV := Hd (HVV.out.chg hc7 (fun _ _ e => e))
         clear bv
         have bx := HB12.out.cells
         go_wp2_with (first | (with_reducible refine wpList_loadAgg rfl agg26 rfl rfl bx rfl ?_) | (with_reducible refine wpList_loadAggG rfl agg26 rfl rfl bx rfl ?_))
         refine (isTable_any _ _ _ _ _ _ _ _).mono ?_
         rintro e w8 ⟨rfl, hc8⟩
         have HGO := Hd (HGO.out.step hc8)
         have HB11 := Hd (HB11.out.chg hc8 id)
         have HB12 := Hd (HB12.out.chg hc8 id)
         have HVV := Hd (HVV.out.chg hc8 (fun _ _ e => e))
         clear bx
         have bm := HGO.out.bm.cells
         have bv := HB11.out.cells
         go_wp2_with (first | (with_reducible refine wpList_loadAgg rfl agg26 rfl rfl bm rfl ?_) | (with_reducible refine wpList_loadAgg rfl agg26 rfl rfl bv rfl ?_))
         refine (with_any (okL ok w gm) O p.1 p.2 ob oi of ot okv olv _ _ HGO.out.val HVV.out HOS.out HOL.out).mono ?_
         rintro e w20 ⟨c2, rfl, hv2, hc2⟩
         have hbm := HGO.out.bm.chg hc2 id
         have hl2 := hv2.length
         have ho2 := hv2.one
         have HV2 := Hd (hv2.mono (ok' := okL ok w gm) (fun b _ hb => hb.elim id (fun h => .inr (by have h2 := HGO.out.bm.lt; omega))))
         have HGO2 := Hd (HGO.out.step hc2)
         clear hv2 hc2 bm bv
         go_wp2_with (first | (with_reducible refine wpList_storeBlk rfl agg26 rfl rfl rfl hbm rfl hl2 ho2 ?_; intro w21 hb3' hc3 hs3))
         have HGO3 := Hd (HGO2.out.fill HLE.out hc3 hb3' (HV2.out.chg hc3 (fun b hb e => NOTG.out (e ▸ hb))))
         clear hb3' hc3 hs3 hbm
         go_roundw
         case rel => first | exact ⟨n + 1, c2, by go_num, by omega, (by rw [TOLD.out.ins (z := p.2) HTS.out HP.out (by rw [HGK.out]; cases p.2 <;> rfl), ← HOE.out]; exact HGO3.out)⟩ | ((repeat apply Exists.intro); exact ⟨⟨n + 1, c2, by go_num, by omega, (by rw [TOLD.out.ins (z := p.2) HTS.out HP.out (by rw [HGK.out]; cases p.2 <;> rfl), ← HOE.out]; exact HGO3.out)⟩, rfl⟩)
         case measure => simp [intOf]; omega
       | some x0 =>
        rw [hgk] at hat
        obtain ⟨xc, rfl, hvx⟩ := hat
        have HGK := Hd (show get A p.1 = some x0 by rw [← HGET.out]; exact hgk)
        have hxl := hvx.length
        have hxo := hvx.one
        obtain ⟨xk, xb, xi, xf, xt, xkv, xlv, rfl⟩ := hvx.seven
        have HKX := Hd hvx.kindQ
        have HVX := Hd hvx
        obtain ⟨gx, hgx⟩ : ∃ gx, gx = w3.heap.size := ⟨_, rfl⟩
        have HGXE := Hd hgx
        have HGX := Hd (show gm < gx by have := HGO.out.bt.lt; have := HTL.out; omega)
        clear hgk hgx hvx
        go_upto_region 15 with (first | (with_reducible refine wpList_storeNew rfl agg26 rfl rfl rfl rfl hxl hxo ?_))
        obtain ⟨w4, hw4⟩ : ∃ w4, w4 = w3.alloc (.cells (cells7 xk xb xi xf xt xkv xlv).toArray 26) := ⟨_, rfl⟩
        have hb12 := Blk.newAt HGXE.out (cells7 xk xb xi xf xt xkv xlv) 26
        rw [← hw4] at hb12 ⊢
        rw [← HGXE.out]
        have HB12 := Hd hb12
        have hc4 : Chg No w3 w4 := by rw [hw4]; exact (Chg.refl No w3).alloc _
        have HGO := Hd (HGO.out.step hc4)
        have HB11 := Hd (HB11.out.chg hc4 id)
        have HVV := Hd (HVV.out.chg hc4 (fun _ _ e => e))
        have HVX := Hd (HVX.out.chg hc4 (fun _ _ e => e))
        clear hb12 hw4 hc4
        by_cases h7 : vk = 7
        ·subst h7
         obtain ⟨v, hv⟩ := isT_table (HKV.out.2.1 rfl)
         have HPV := Hd hv
         rw [hv] at HVV
         clear hv
         have bv := HB11.out.cells
         go_wp2_with (first | (with_reducible refine wpList_loadAgg rfl agg26 rfl rfl bv rfl ?_) | (with_reducible refine wpList_loadAggG rfl agg26 rfl rfl bv rfl ?_))
         refine (isTable_any _ _ _ _ _ _ _ _).mono ?_
         rintro e w5 ⟨rfl, hc5⟩
         have HGO := Hd (HGO.out.step hc5)
         have HB11 := Hd (HB11.out.chg hc5 id)
         have HB12 := Hd (HB12.out.chg hc5 id)
         have HVV := Hd (HVV.out.chg hc5 (fun _ _ e => e))
         clear bv
         have HVX := Hd (HVX.out.chg hc5 (fun _ _ e => e))
         clear hc5
         have bx := HB12.out.cells
         go_wp2_with (first | (with_reducible refine wpList_loadAgg rfl agg26 rfl rfl bx rfl ?_) | (with_reducible refine wpList_loadAggG rfl agg26 rfl rfl bx rfl ?_))
         refine (isTable_any _ _ _ _ _ _ _ _).mono ?_
         rintro e w6 ⟨rfl, hc6⟩
         have HGO := Hd (HGO.out.step hc6)
         have HB11 := Hd (HB11.out.chg hc6 id)
         have HB12 := Hd (HB12.out.chg hc6 id)
         have HVV := Hd (HVV.out.chg hc6 (fun _ _ e => e))
         clear bx
         have HVX := Hd (HVX.out.chg hc6 (fun _ _ e => e))
         clear hc6
         by_cases hx7 : xk = 7
         ·subst hx7
          obtain ⟨x, rfl⟩ := isT_table (HKX.out.2.1 rfl)
          have WX := Hd (WTA.out.get HGK.out).2
          have WV := Hd (show WU U N (d) (.table v) by rw [← HPV.out]; exact (WTB.out.2 p (List.mem_of_getElem? HP.out)).2)
          go_upto_region 16 with fail
          obtain ⟨wx, hwx⟩ : ∃ wx, wx = w6 := ⟨_, rfl⟩
          rw [← hwx] at HGO HB11 HB12 HVV HVX ⊢
          clear hwx
          refine wp_region_inv (FI [.eq (.agg (cells7 7 ob oi of ot okv olv).toArray), .eq (.string p.1), .eq (.agg (cells7 7 vb vi vf vt vkv vlv).toArray), .eq (.agg (cells7 7 xb xi xf xt xkv xlv).toArray), .val (okL ok w gm) (.table (coal true v x)), .val (okL ok w gm) (.table (ins O p.1 (.table (coal true v x)))), .any])
           (fun done w' => PG gm (cells7 7 ob oi of ot okv olv) (okL ok w gm) (.table (ins O p.1 (.table (coal true v x)))) wx w' (done 6)) (by kernel_rfl) (by kernel_rfl) (PG.start HGO.out.bm) ?_ ?_
          ·refine ⟨?_, ?_, ?_, ?_, ?_, ?_, ?_, trivial⟩
           ·intro done a w1 K hd qd qe qf qb hG hK
            have e5 : a.tmps[5]?.getD undef = .pointer (some ⟨gm, 0, none⟩) := qf 5 rfl
            have n6 : done 6 = false := by
             cases hh0 : done 6 with
             | false => rfl
             | true =>
              have hh1 := qd 6 5 rfl hh0
              have hh2 := qd 5 0 rfl hh1
              rw [hd] at hh2; cases hh2
            have hG0 := hG
            rw [n6] at hG0
            obtain ⟨c', hb, h1, -⟩ := hG0.box
            obtain rfl := h1 rfl
            refine if_wanted rfl ?_
            refine wp_loadAgg agg26 rfl (by simpa [Act.eval] using e5) hb.cells rfl ?_
            exact hK _ _ rfl (by simpa [dn] using hG) (fun _ _ _ _ h => h)
           ·intro done a w1 K hd qd qe qf qb hG hK
            have e10 : a.tmps[10]?.getD undef = .string p.1 := qf 10 rfl
            clear qd qe qf qb
            go_simp
            exact hK _ _ rfl (by simpa [dn] using hG) (fun _ _ _ _ h => h)
           ·intro done a w1 K hd qd qe qf qb hG hK
            have e11 : a.tmps[11]?.getD undef = .pointer (some ⟨gv, 0, none⟩) := qf 11 rfl
            refine if_wanted rfl ?_
            refine wp_loadAgg agg26 rfl (by simpa [Act.eval] using e11) (HB11.out.chg hG.chg (by have := HGV.out; omega)).cells rfl ?_
            exact hK _ _ rfl (by simpa [dn] using hG) (fun _ _ _ _ h => h)
           ·intro done a w1 K hd qd qe qf qb hG hK
            have e12 : a.tmps[12]?.getD undef = .pointer (some ⟨gx, 0, none⟩) := qf 12 rfl
            refine if_wanted rfl ?_
            refine wp_loadAgg agg26 rfl (by simpa [Act.eval] using e12) (HB12.out.chg hG.chg (by have := HGX.out; omega)).cells rfl ?_
            exact hK _ _ rfl (by simpa [dn] using hG) (fun _ _ _ _ h => h)
           ·intro done a w1 K hd qd qe qf qb hG hK
            have e74 : a.tmps[74]?.getD undef = .agg (cells7 7 vb vi vf vt vkv vlv).toArray := qe 2 74 rfl (qb 2 rfl)
            have e75 : a.tmps[75]?.getD undef = .agg (cells7 7 xb xi xf xt xkv xlv).toArray := qe 3 75 rfl (qb 3 rfl)
            refine if_wanted rfl ?_
            have hcall := coalesced_any U N hUl true d (okL ok w gm) v x (cells7 7 vb vi vf vt vkv vlv) (cells7 7 xb xi xf xt xkv xlv) w1 (HVV.out.chg hG.chg (fun b hb e => NOTG.out (e ▸ hb))) (HVX.out.chg hG.chg (fun b hb e => NOTG.out (e ▸ hb))) WV.out WX.out
            refine wp_callV3 Tryz.call53 rfl (by simpa [Act.eval] using e74) (by simpa [Act.eval] using e75) rfl hcall ?_
            rintro e w2 ⟨cs, rfl, hj, hc⟩
            exact ⟨_, rfl, hK _ _ ⟨cs, rfl, hj.mono (fun b _ hb => hb.elim id (fun h => .inr (by have h1 := hG.size; have h2 := HGO.out.bm.lt; omega)))⟩ (by simpa [dn] using hG.chgNo hc) (fun _ _ _ _ h => h.keepNo hc)⟩
           ·intro done a w1 K hd qd qe qf qb hG hK
            have e72 : a.tmps[72]?.getD undef = .agg (cells7 7 ob oi of ot okv olv).toArray := qe 0 72 rfl (qb 0 rfl)
            have e73 : a.tmps[73]?.getD undef = .string p.1 := qe 1 73 rfl (qb 1 rfl)
            obtain ⟨c9, e76, hv9⟩ := qe 4 76 rfl (qb 4 rfl)
            refine if_wanted rfl ?_
            have hcall := with_any (okL ok w gm) O p.1 (.table (coal true v x)) ob oi of ot okv olv c9 w1 (HGO.out.val.chg hG.chg (fun b hb e => NOTG.out (e ▸ hb))) hv9 HOS.out HOL.out
            refine wp_callV3 Tryz.call51 rfl (by simpa [Act.eval] using e72) (by simpa [Act.eval] using e73) (by simpa [Act.eval] using e76) hcall ?_
            rintro e w2 ⟨cs, rfl, hj, hc⟩
            exact ⟨_, rfl, hK _ _ ⟨cs, rfl, hj.mono (fun b _ hb => hb.elim id (fun h => .inr (by have h1 := hG.size; have h2 := HGO.out.bm.lt; omega)))⟩ (by simpa [dn] using hG.chgNo hc) (fun _ _ _ _ h => h.keepNo hc)⟩
           ·intro done a w1 K hd qd qe qf qb hG hK
            have e5 : a.tmps[5]?.getD undef = .pointer (some ⟨gm, 0, none⟩) := qf 5 rfl
            obtain ⟨c2, e77, hv2⟩ := qe 5 77 rfl (qb 5 rfl)
            rw [hd] at hG
            obtain ⟨c', hb, h1, -⟩ := hG.box
            obtain rfl := h1 rfl
            refine if_wanted rfl ?_
            refine wp_storeBlk agg26 rfl (by simpa [Act.eval] using e5) (by simpa [Act.eval] using e77) hb rfl hv2.length hv2.one ?_
            intro w2 hb2 hC hs2
            refine hK undef _ trivial (by simpa [dn] using hG.fill hb2 hC hv2 NOTG.out) ?_
            refine fun j hj _ u hu => hu.keep hC (safe_of (i := 6) (fun j hl hj => ?_) j hj)
            match j, hj with
            | 0, _ => exact trivial
            | 1, _ => exact trivial
            | 2, _ => exact trivial
            | 3, _ => exact trivial
            | 4, _ => exact fun b hb e => NOTG.out (e ▸ hb)
            | 5, _ => exact fun b hb e => NOTG.out (e ▸ hb)
            | 6, hj => exact absurd rfl hj
            | j + 7, _ => exact absurd hl (by simp)
          ·intro vs w2 hvs hvn hG
           obtain ⟨c2, hb2, -, hv2⟩ := hG.box
           have HGO2 := Hd (HGO.out.fill HLE.out hG.chg hb2 (hv2 rfl))
           clear hb2 hv2 hG hvs hvn
           simp only [putAll, Act.put, List.setIfInBounds_toArray, List.set_cons_succ, List.set_cons_zero]
           go_wp2_with fail
           go_roundw
           case rel => first | exact ⟨n + 1, c2, by go_num, by omega, (by rw [TOLD.out.ins HTS.out HP.out (by rw [HGK.out, HPV.out]; rfl), ← HOE.out]; exact HGO2.out)⟩ | ((repeat apply Exists.intro); exact ⟨⟨n + 1, c2, by go_num, by omega, (by rw [TOLD.out.ins HTS.out HP.out (by rw [HGK.out, HPV.out]; rfl), ← HOE.out]; exact HGO2.out)⟩, rfl⟩)
           case measure => simp [intOf]; omega
         ·have hx7b : (xk == 7) = false := by simpa using hx7
          have HXT := Hd (show isT x0 = false by cases h : isT x0 <;> first | rfl | exact absurd (HKX.out.2.2.2 h) hx7)
          clear hx7
          have bv := HB11.out.cells
          go_wp2_with (first | (with_reducible refine wpList_loadAgg rfl agg26 rfl rfl bv rfl ?_) | (with_reducible refine wpList_loadAggG rfl agg26 rfl rfl bv rfl ?_))
          refine (isTable_any _ _ _ _ _ _ _ _).mono ?_
          rintro e w7 ⟨rfl, hc7⟩
          have HGO := Hd (HGO.out.step hc7)
          have HB11 := Hd (HB11.out.chg hc7 id)
          have HB12 := Hd (HB12.out.chg hc7 id)
          have HVV := Hd (HVV.out.chg hc7 (fun _ _ e => e))
          clear bv
          go_wp2_with fail
          go_roundw
          case rel => first | exact ⟨n + 1, _, by go_num, by omega, (by rw [TOLD.out.same HTS.out HP.out (by rw [HGK.out, HPV.out]; have h := HXT.out; cases x0 <;> first | rfl | cases h)] <;> rw [← HOE.out] <;> exact HGO.out)⟩ | ((repeat apply Exists.intro); exact ⟨⟨n + 1, _, by go_num, by omega, (by rw [TOLD.out.same HTS.out HP.out (by rw [HGK.out, HPV.out]; have h := HXT.out; cases x0 <;> first | rfl | cases h)] <;> rw [← HOE.out] <;> exact HGO.out)⟩, rfl⟩)
          case measure => simp [intOf]; omega
        ·have h7b : (vk == 7) = false := by simpa using h7
         have HPT := Hd (show isT p.2 = false by cases h : isT p.2 <;> first | rfl | exact absurd (HKV.out.2.2.2 h) h7)
         clear h7
         have bv := HB11.out.cells
         go_wp2_with (first | (with_reducible refine wpList_loadAgg rfl agg26 rfl rfl bv rfl ?_) | (with_reducible refine wpList_loadAggG rfl agg26 rfl rfl bv rfl ?_))
         refine (isTable_any _ _ _ _ _ _ _ _).mono ?_
         rintro e w5 ⟨rfl, hc5⟩
         have HGO := Hd (HGO.out.step hc5)
         have HB11 := Hd (HB11.out.chg hc5 id)
         have HB12 := Hd (HB12.out.chg hc5 id)
         have HVV := Hd (HVV.out.chg hc5 (fun _ _ e => e))
         clear bv
         have bv := HB11.out.cells
         go_wp2_with (first | (with_reducible refine wpList_loadAgg rfl agg26 rfl rfl bv rfl ?_) | (with_reducible refine wpList_loadAggG rfl agg26 rfl rfl bv rfl ?_))
         refine (isTable_any _ _ _ _ _ _ _ _).mono ?_
         rintro e w6 ⟨rfl, hc6⟩
         have HGO := Hd (HGO.out.step hc6)
         have HB11 := Hd (HB11.out.chg hc6 id)
         have HB12 := Hd (HB12.out.chg hc6 id)
         have HVV := Hd (HVV.out.chg hc6 (fun _ _ e => e))
         clear bv
         have bv := HB11.out.cells
         go_wp2_with (first | (with_reducible refine wpList_loadAgg rfl agg26 rfl rfl bv rfl ?_) | (with_reducible refine wpList_loadAggG rfl agg26 rfl rfl bv rfl ?_))
         refine (isTable_any _ _ _ _ _ _ _ _).mono ?_
         rintro e w7 ⟨rfl, hc7⟩
         have HGO := Hd (HGO.out.step hc7)
         have HB11 := Hd (HB11.out.chg hc7 id)
         have HB12 := Hd (HB12.out.chg hc7 id)
         have HVV := Hd (HVV.out.chg hc7 (fun _ _ e => e))
         clear bv
         have bx := HB12.out.cells
         go_wp2_with (first | (with_reducible refine wpList_loadAgg rfl agg26 rfl rfl bx rfl ?_) | (with_reducible refine wpList_loadAggG rfl agg26 rfl rfl bx rfl ?_))
         refine (isTable_any _ _ _ _ _ _ _ _).mono ?_
         rintro e w8 ⟨rfl, hc8⟩
         have HGO := Hd (HGO.out.step hc8)
         have HB11 := Hd (HB11.out.chg hc8 id)
         have HB12 := Hd (HB12.out.chg hc8 id)
         have HVV := Hd (HVV.out.chg hc8 (fun _ _ e => e))
         clear bx
         by_cases hx7 : xk = 7
         ·subst hx7
          obtain ⟨x, rfl⟩ := isT_table (HKX.out.2.1 rfl)
          go_wp2_with fail
          go_roundw
          case rel => first | exact ⟨n + 1, _, by go_num, by omega, (by rw [TOLD.out.same HTS.out HP.out (by rw [HGK.out]; have h := HPT.out; cases hp2 : p.2 <;> first | rfl | (rw [hp2] at h; cases h))] <;> rw [← HOE.out] <;> exact HGO.out)⟩ | ((repeat apply Exists.intro); exact ⟨⟨n + 1, _, by go_num, by omega, (by rw [TOLD.out.same HTS.out HP.out (by rw [HGK.out]; have h := HPT.out; cases hp2 : p.2 <;> first | rfl | (rw [hp2] at h; cases h))] <;> rw [← HOE.out] <;> exact HGO.out)⟩, rfl⟩)
          case measure => simp [intOf]; omega
         ·have hx7b : (xk == 7) = false := by simpa using hx7
          have HXT := Hd (show isT x0 = false by cases h : isT x0 <;> first | rfl | exact absurd (HKX.out.2.2.2 h) hx7)
          clear hx7
          have bm := HGO.out.bm.cells
          have bv := HB11.out.cells
          go_wp2_with (first | (with_reducible refine wpList_loadAgg rfl agg26 rfl rfl bm rfl ?_) | (with_reducible refine wpList_loadAgg rfl agg26 rfl rfl bv rfl ?_))
          refine (with_any (okL ok w gm) O p.1 p.2 ob oi of ot okv olv _ _ HGO.out.val HVV.out HOS.out HOL.out).mono ?_
          rintro e w20 ⟨c2, rfl, hv2, hc2⟩
          have hbm := HGO.out.bm.chg hc2 id
          have hl2 := hv2.length
          have ho2 := hv2.one
          have HV2 := Hd (hv2.mono (ok' := okL ok w gm) (fun b _ hb => hb.elim id (fun h => .inr (by have h2 := HGO.out.bm.lt; omega))))
          have HGO2 := Hd (HGO.out.step hc2)
          clear hv2 hc2 bm bv
          go_wp2_with (first | (with_reducible refine wpList_storeBlk rfl agg26 rfl rfl rfl hbm rfl hl2 ho2 ?_; intro w21 hb3' hc3 hs3))
          have HGO3 := Hd (HGO2.out.fill HLE.out hc3 hb3' (HV2.out.chg hc3 (fun b hb e => NOTG.out (e ▸ hb))))
          clear hb3' hc3 hs3 hbm
          go_roundw
          case rel => first | exact ⟨n + 1, c2, by go_num, by omega, (by rw [TOLD.out.ins (z := p.2) HTS.out HP.out (by rw [HGK.out]; have h1 := HPT.out; have h2 := HXT.out; cases hp2 : p.2 <;> cases x0 <;> first | rfl | (simp [isT] at h2; done) | (rw [hp2] at h1; simp [isT] at h1; done)), ← HOE.out]; exact HGO3.out)⟩ | ((repeat apply Exists.intro); exact ⟨⟨n + 1, c2, by go_num, by omega, (by rw [TOLD.out.ins (z := p.2) HTS.out HP.out (by rw [HGK.out]; have h1 := HPT.out; have h2 := HXT.out; cases hp2 : p.2 <;> cases x0 <;> first | rfl | (simp [isT] at h2; done) | (rw [hp2] at h1; simp [isT] at h1; done)), ← HOE.out]; exact HGO3.out)⟩, rfl⟩)
          case measure => simp [intOf]; omega
      ·have hnl : n = B.length := Nat.le_antisymm hnb (Nat.not_lt.1 hlt)
       subst hnl
       have hlen : ¬ ((B.length : Nat) : Int) < (B.length : Int) := by omega
       have b0 := HGO.out.b0.cells
       have bm := HGO.out.bm.cells
       have hol := HGO.out.val.length
       have hv := HGO.out.val
       rw [List.take_length] at hv
       have HV := Hd hv
       have HSA := Hd (show Sorted a from WA.out.sorted)
       have HLA := Hd (Nat.lt_of_le_of_lt WA.out.len hUl)
       clear hv
       go_wp2_with (first | (with_reducible refine wpList_loadAgg rfl agg26 rfl rfl b0 rfl ?_) | (with_reducible refine wpList_loadAgg rfl agg26 rfl rfl bm hol ?_))
       refine (with_any (okL ok w gm) a gK (.table (globT A B)) ab ai af at_ akv alv oc wr ((HA.out.chg HGO.out.chg (fun _ _ e => e)).mono (fun b _ h => .inl h)) HV.out HSA.out HLA.out).mono ?_
       rintro e w8 ⟨rc, rfl, hv8, hc8⟩
       have hl8 := hv8.length
       have ho8 := hv8.one
       have b2 := HGO.out.b2.chg hc8 id
       have HC8 := Hd hc8
       have HV8 := Hd hv8
       clear hv8 hc8 b0 bm hol
       go_wp2_with (first | (with_reducible refine wpList_storeBlk rfl agg26 rfl rfl rfl b2 rfl hl8 ho8 ?_; intro w9 hb9 hc9 hs9))
       refine bodyPost_ret (results_blk rfl agg26 rfl hb9 hl8) rfl ⟨rc, rfl, ?_, (HGO.out.chg.trans' HC8.out).trans hc9 (fun i hi e => by have := HG.out; omega)⟩
       have hgl : globals a b = ins a gK (.table (globT A B)) := by unfold globals; rw [HTA.out, HTB.out]
       rw [hgl]
       refine ((HV8.out.mono (ok' := fun b => okB ok w b ∨ g + 2 < b) (fun x _ h => ?_)).chg hc9 (fun x h e => ?_)).mono (fun x _ h => h.imp (fun h => h.1) (fun h => by have := HG.out; omega))
       ·rcases h with h | h
        ·exact h.imp id (fun h => by have := HGL.out; omega)
        ·exact .inr (by have := HGO.out.bt.lt; have := HGL.out; have := HTL.out; omega)
       ·rcases h with h | h
        ·have := h.2; have := HG.out; omega
        ·omega
    ·have ht7b : (tk == 7) = false := by simpa using ht7
     have HTB := Hd (tabAt_globJ_none (a := b) (by cases h : isT (globJ b) <;> first | rfl | exact absurd (HKT.out.2.2.2 h) ht7))
     have b0 := HGP7.out.b0.cells
     have b2 := HGP7.out.b2
     have hoa : (cells7 7 ab ai af at_ akv alv).all (·.oneCell') = true := HA.out.one
     clear ht7
     go_wp2_with (first | (with_reducible refine wpList_loadAgg rfl agg26 rfl rfl b0 rfl ?_) | (with_reducible refine wpList_storeBlk rfl agg26 rfl rfl rfl b2 rfl rfl hoa ?_; intro w9 hb9 hc9 hs9))
     refine bodyPost_ret (results_blk rfl agg26 rfl hb9 rfl) rfl ⟨_, rfl, ?_, HGP7.out.chg.trans hc9 (fun i hi e => by have := HG.out; omega)⟩
     have hgl : globals a b = a := by unfold globals; rw [HTB.out]; cases tabAt a gK <;> rfl
     rw [hgl]
     exact ((HA.out.chg HGP7.out.chg (fun _ _ e => e)).chg hc9 (fun b hb e => by have := hb.2; have := HG.out; omega)).mono (fun b _ h => .inl h.1)
   ·have hm7b : (mk == 7) = false := by simpa using hm7
    have HTA := Hd (tabAt_globJ_none (a := a) (by cases h : isT (globJ a) <;> first | rfl | exact absurd (HKM.out.2.2.2 h) hm7))
    have b0 := HGP6.out.b0.cells
    have b2 := HGP6.out.b2
    have hoa : (cells7 7 ab ai af at_ akv alv).all (·.oneCell') = true := HA.out.one
    clear hm7
    go_wp2_with (first | (with_reducible refine wpList_loadAgg rfl agg26 rfl rfl b0 rfl ?_) | (with_reducible refine wpList_storeBlk rfl agg26 rfl rfl rfl b2 rfl rfl hoa ?_; intro w9 hb9 hc9 hs9))
    refine bodyPost_ret (results_blk rfl agg26 rfl hb9 rfl) rfl ⟨_, rfl, ?_, HGP6.out.chg.trans hc9 (fun i hi e => by have := HG.out; omega)⟩
    have hgl : globals a b = a := by unfold globals; rw [HTA.out]
    rw [hgl]
    exact ((HA.out.chg HGP6.out.chg (fun _ _ e => e)).chg hc9 (fun b hb e => by have := hb.2; have := HG.out; omega)).mono (fun b _ h => .inl h.1)
def okBox (base : Nat -> Prop) (B : Nat) (γ : Option Nat) : Nat -> Prop := fun b => (base b /\ b < B) ∨ okG B γ b
def Fact.tupB (ok : Nat -> Prop) (j : J) (r : Bool) : Fact :=
 ⟨fun v w => ∃ cs : List Value, v = .tuple #[.agg cs.toArray, .bool r] /\ ValJ ok w cs j, fun S _ => ∀ b, ok b -> ¬ S b,
  fun S v w w' h hc hs => by obtain ⟨cs, hv, h⟩ := h; exact ⟨cs, hv, h.chg hc hs⟩, fun _ _ _ e => e⟩
structure GH (base : Nat -> Prop) (W : World) (ia is : Nat) (j : J) (γ : Option Nat) (done : Nat -> Bool) (w : World) : Prop where
 chg : Chg No W w
 iff : done ia = γ.isSome
 box : ∀ t, γ = some t -> W.heap.size ≤ t /\ ∃ c, Blk w t c 26 /\ c.length = 7 /\ (done is = true -> ValJ (okBox base W.heap.size γ) w c j)
section
variable {base : Nat -> Prop} {W : World} {ia is : Nat} {j : J} {γ : Option Nat} {done : Nat -> Bool} {w w' : World}
theorem GH.start (base : Nat -> Prop) (W : World) (ia is : Nat) (j : J) : GH base W ia is j none (fun _ => false) W.drew := ⟨(Chg.refl _ W).drew, rfl, fun t h => by cases h⟩
theorem GH.other (h : GH base W ia is j γ done w) {i : Nat} (h1 : i ≠ ia) (h2 : i ≠ is) (hc : Chg No w w') : GH base W ia is j γ (dn done i) w' := by
 refine ⟨h.chg.trans' hc, by rw [dn_of_ne h1]; exact h.iff, fun t ht => ?_⟩
 obtain ⟨h3, c, h4, h5, h6⟩ := h.box t ht
 exact ⟨h3, c, h4.chg hc id, h5, fun e => (h6 (by rwa [dn_of_ne h2] at e)).chg hc (fun _ _ e => e)⟩
theorem GH.size (h : GH base W ia is j γ done w) : W.heap.size ≤ w.heap.size := h.chg.size
theorem GH.noBox (h : GH base W ia is j γ done w) (hd : done ia = false) : γ = none := by
 have h1 := h.iff
 rw [hd] at h1
 cases γ with
 | none => rfl
 | some t => cases h1
theorem GH.fresh (h : GH base W ia is j γ done w) {b : Nat} (hb : w.heap.size ≤ b) : okBox base W.heap.size γ b := by
 refine .inr ⟨Nat.le_trans h.size hb, fun e => ?_⟩
 obtain ⟨-, c, h1, -⟩ := h.box b e
 have := h1.lt
 omega
theorem GH.lay (h : GH base W ia is j none done w) (hne : ia ≠ is) (hs : done is = false) : GH base W ia is j (some w.heap.size) (dn done ia) (w.alloc (.cells zero7.toArray 26)) := by
 refine ⟨h.chg.alloc _, by rw [dn_self]; rfl, fun t ht => ?_⟩
 cases ht
 exact ⟨h.size, zero7, Blk.new _ _ _, rfl, fun e => by rw [dn_of_ne hne, hs] at e; cases e⟩
theorem okBox_lay {b : Nat} (hb : b < w.heap.size) (h : okBox base W.heap.size none b) : okBox base W.heap.size (some w.heap.size) b := h.imp id (fun h => ⟨h.1, fun e => by cases e; omega⟩)
theorem okBox_not {t b : Nat} (ht : W.heap.size ≤ t) (h : okBox base W.heap.size (some t) b) : b ≠ t := fun e => by
 rcases h with h | h
 ·omega
 ·exact h.2 (by rw [e])
theorem GH.put {t : Nat} {c : List Value} (h : GH base W ia is j (some t) done w) (hne : ia ≠ is) (hc : Chg (· = t) w w') (hb : Blk w' t c 26) (hv : ValJ (okBox base W.heap.size (some t)) w c j) : GH base W ia is j (some t) (dn done is) w' := by
 have h1 := (h.box t rfl).1
 refine ⟨h.chg.trans hc (fun i hi e => by omega), by rw [dn_of_ne hne.symm]; exact h.iff, fun t' ht => ?_⟩
 cases ht
 exact ⟨h1, c, hb, hv.length, fun _ => hv.chg hc (fun b hb e => okBox_not h1 hb e)⟩
end
def resJ : Option T -> J
 | none => .null
 | some t => .table t
def AllRet (ok : Nat -> Prop) (w : World) (r : Option T) (e : Ending) (w' : World) : Prop :=
 ∃ cs : List Value, e = .returned (.tuple #[.agg cs.toArray, .bool r.isSome]) /\ ValJ (fun b => ok b ∨ w.heap.size ≤ b) w' cs (resJ r) /\ Chg No w w'
theorem WU.max {U : List K} {N d e : Nat} {j : J} (h : WU U N d j) : WU U N (d + e) j := h.mono (fun _ h => h) (Nat.le_refl _) (Nat.le_add_right _ _)
theorem WU.max' {U : List K} {N d e : Nat} {j : J} (h : WU U N d j) : WU U N (e + d) j := h.mono (fun _ h => h) (Nat.le_refl _) (Nat.le_add_left _ _)
theorem allV_wu {U : List K} {N D : Nat} (hg : gK ∈ U) (m : Bool) : ∀ (h : Nat) (c : Ch) (E : Nat) (v t : T), ChW U N D h c -> WU U N E (.table v) -> allV m c v = some t -> ∃ E', WU U N E' (.table t) := by
 intro h
 induction h with
 | zero => intro c E v t hc; exact hc.elim
 | succ h ih =>
  intro c E v t hc hv hr
  rw [allV_eq] at hr
  have hd : ∀ d ∈ c.deps, ChW U N D h d := hc.2.2.2.2.2
  have h0 : WU U N (E + (D + 1)) (.table (over m (hasDep c.deps) v (tabOf c.vals))) := by
   refine WU.over _ _ hv.max ?_
   cases hcv : c.vals with
   | table s => exact (hc.2.2.2.1 s hcv).1.mono (fun _ h => h) (Nat.le_refl _) (by omega)
   | _ => exact WU.nil
  generalize over m (hasDep c.deps) v (tabOf c.vals) = out at hr h0
  generalize E + (D + 1) = F at h0
  generalize c.deps = l at hr hd
  clear hv hc
  induction l generalizing out F with
  | nil => rw [allD] at hr; cases hr; exact ⟨F, h0⟩
  | cons d r ihl =>
   rw [allD] at hr
   cases hx : tabAt out d.name with
   | none => rw [hx] at hr; cases hr
   | some x =>
    rw [hx] at hr
    have hdd := hd d (by simp)
    have hwx : WU U N (F + 1 + 1) (.table x) := by
     have := (h0.max (e := 2)).tabAt hx
     exact this.mono (fun _ h => h) (Nat.le_refl _) (by omega)
    have hgl := WU.globals (d := F) hg hwx (h0.max (e := 2))
    cases hy : allV m d (globals x out) with
    | none => simp only [hy] at hr; cases hr
    | some y =>
     simp only [hy] at hr
     obtain ⟨E2, hE2⟩ := ih d _ _ _ hdd hgl hy
     have hin : WU U N (F + E2 + 1) (.table (ins out d.name (.table y))) := WU.ins (h0.mono (fun _ h => h) (Nat.le_refl _) (by omega)) (by
      cases h with
      | zero => exact hdd.elim
      | succ h => exact hdd.2.1) (hE2.mono (fun _ h => h) (Nat.le_refl _) (by omega))
     have hd2 : ∀ x ∈ r, ChW U N D h x := fun x hx => hd x (by simp [hx])
     first | exact ihl _ _ hr hin hd2 | exact ihl _ _ hin hr hd2 | exact ihl _ _ hd2 hr hin | exact ihl _ _ hr hd2 hin | exact ihl _ _ hin hd2 hr | exact ihl _ _ hd2 hin hr | exact ihl _ _ hin hd2 hr
structure AO (ok : Nat -> Prop) (w W0 : World) (g : Nat) (cc vc : List Value) (o : T) (wr : World) (oc : List Value) : Prop where
 b0 : Blk wr g cc 30
 b1 : Blk wr (g + 1) vc 26
 b2 : Blk wr (g + 2) zero7 26
 b3 : Blk wr (g + 3) oc 26
 val : ValJ (okL ok w (g + 3)) wr oc (.table o)
 chg : Chg No w wr
 ch7 : Chg (fun k => g + 3 ≤ k) W0 wr
theorem AO.step {ok : Nat -> Prop} {w W0 : World} {g : Nat} {cc vc : List Value} {o : T} {wr w' : World} {oc : List Value} (h : AO ok w W0 g cc vc o wr oc) (hc : Chg No wr w') : AO ok w W0 g cc vc o w' oc :=
 ⟨h.b0.chg hc id, h.b1.chg hc id, h.b2.chg hc id, h.b3.chg hc id, h.val.chg hc (fun _ _ e => e), h.chg.trans' hc, h.ch7.trans' hc⟩
theorem AO.fill {ok : Nat -> Prop} {w W0 : World} {g : Nat} {cc vc : List Value} {o o' : T} {wr w' : World} {oc oc' : List Value} (h : AO ok w W0 g cc vc o wr oc) (hw : w.heap.size ≤ g) (hc : Chg (· = g + 3) wr w') (hb : Blk w' (g + 3) oc' 26) (hv : ValJ (okL ok w (g + 3)) w' oc' (.table o')) : AO ok w W0 g cc vc o' w' oc' :=
 ⟨h.b0.chg hc (by omega), h.b1.chg hc (by omega), h.b2.chg hc (by omega), hb, hv, h.chg.trans hc (fun i hi e => by omega), h.ch7.trans hc (fun i hi e => by omega)⟩
theorem AO.other {ok : Nat -> Prop} {w W0 : World} {g x : Nat} {cc vc : List Value} {o : T} {wr w' : World} {oc : List Value} (h : AO ok w W0 g cc vc o wr oc) (hw : w.heap.size ≤ g) (hx : g + 3 < x) (hc : Chg (· = x) wr w') (hv : ValJ (okL ok w (g + 3)) w' oc (.table o)) : AO ok w W0 g cc vc o w' oc :=
 ⟨h.b0.chg hc (by omega), h.b1.chg hc (by omega), h.b2.chg hc (by omega), h.b3.chg hc (by omega), hv, h.chg.trans hc (fun i hi e => by omega), h.ch7.trans hc (fun i hi e => by omega)⟩
def atT (a : T) (k : K) : J := match get a k with
 | none => .table []
 | some x => x
theorem tabAt_atT {a t : T} {k : K} (h : atT a k = .table t) : tabAt a k = some t := by
 unfold atT at h
 unfold tabAt
 cases hg : get a k with
 | none => rw [hg] at h; cases h; rfl
 | some x => rw [hg] at h; subst h; rfl
theorem tabAt_atT_none {a : T} {k : K} (h : isT (atT a k) = false) : tabAt a k = none := by
 unfold atT at h
 unfold tabAt
 cases hg : get a k with
 | none => rw [hg] at h; cases h
 | some x => rw [hg] at h; cases x <;> first | rfl | cases h
theorem at_atT {ok : Nat -> Prop} {a : T} {k : K} {w1 : World} {e : Ending} (h : match get a k with
  | some x => ∃ cs, e = .returned (.tuple #[.agg cs.toArray, .bool true]) /\ ValJ ok w1 cs x
  | none => e = .returned (.tuple #[.agg zero7.toArray, .bool false])) : ∃ (xc : List Value) (has : Bool), e = .returned (.tuple #[.agg xc.toArray, .bool has]) /\ (xc.length = 7 /\ xc.all (·.oneCell') = true) /\ (has = true -> ValJ ok w1 xc (atT a k)) /\ (has = false -> atT a k = .table []) := by
 unfold atT
 cases hg : get a k with
 | none =>
  rw [hg] at h
  exact ⟨zero7, false, h, ⟨rfl, rfl⟩, (by intro h; cases h), fun _ => rfl⟩
 | some x =>
  rw [hg] at h
  obtain ⟨cs, h1, h2⟩ := h
  exact ⟨cs, true, h1, ⟨h2.length, h2.one⟩, fun _ => h2, (by intro h; cases h)⟩
theorem tab_at {vals : J} {n : Nat} {p : K × J} (h : (tabOf vals)[n]? = some p) : (jks vals)[n]? = some p.1 /\ (jxs vals)[n]? = some p.2 := by
 cases vals with
 | table t => simp only [tabOf] at h; simp [jks, jxs, h]
 | _ => simp [tabOf] at h
theorem tab_keys (vals : J) : jks vals = (tabOf vals).map (·.1) := by cases vals <;> rfl
theorem allValues_any (U : List K) (N : Nat) (hU : U.length < 1099511627776) (hgU : gK ∈ U) (m : Bool) (D : Nat) : ∀ (h : Nat) (c : Ch), ChW U N D h c -> ∀ (E : Nat) (ok : Nat -> Prop) (cc : List Value) (jv : J) (cv : List Value) (v : T) (w : World), ChJ ok w cc c -> ValJ ok w cv jv -> ((jv = .null /\ v = []) ∨ jv = .table v) -> WU U N E (.table v) ->
  Calls Tryz.prog 16 #[.agg cc.toArray, .agg cv.toArray, .bool m] w (AllRet ok w (allV m c v)) := by
 intro h
 induction h with
 | zero => intro c hc; exact hc.elim
 | succ h ih =>
  intro c hc E ok cc jv cv v w hcj hvj hjv hwv
  have IH := Hd ih
  have HCW := Hd hc
  have HWV := Hd hwv
  have HJV := Hd hjv
  have HCJ := Hd hcj.bel
  have HVJ := Hd hvj.bel
  have hUl := hU
  obtain ⟨O0, hO0⟩ : ∃ O0, O0 = over m (hasDep c.deps) v (tabOf c.vals) := ⟨_, rfl⟩
  have HO0 := Hd hO0
  have hall : allV m c v = allD m c.deps O0 := by rw [allV_eq, hO0]
  have HALL := Hd hall
  have hwt : WU U N (D + 1) (.table (tabOf c.vals)) := by
   cases hcv : c.vals with
   | table s => exact (hc.2.2.2.1 s hcv).1.mono (fun _ h => h) (Nat.le_refl _) (by omega)
   | _ => exact WU.nil
  have HWT := Hd hwt
  have HTS := Hd hwt.sorted
  have TOLD := Hd (told_over m (hasDep c.deps) v)
  have HW0 := Hd (show WU U N (E + (D + 1)) (.table O0) by rw [hO0]; exact WU.over _ _ hwv.max hwt.max')
  obtain ⟨name, ver, k, b, i, f, t, kv, lv, dv, wv, rfl, -, -, hv, ⟨drows, hd, hn, hdr⟩, -⟩ := hcj.bel.cells
  obtain ⟨hk, rows, hl, hrn, hr⟩ := hv.parts
  rw [tab_keys] at hk
  obtain ⟨tb, htb⟩ : ∃ tb, tb = tabOf c.vals := ⟨_, rfl⟩
  rw [← htb] at hk
  have HTB := Hd htb
  have HK := Hd hk
  have HL := Hd hl
  have HR := Hd hr
  have HRN := Hd hrn
  have HD := Hd hd
  have HDN := Hd hn
  have HDR := Hd hdr
  have hk1 := hk.1
  have hd1 := hd.1
  have hl1 := hl.1
  obtain ⟨-, -, ka, kc, rfl, -, -⟩ := hk
  obtain ⟨-, -, la, lc, rfl, -, -⟩ := hl
  obtain ⟨-, -, da, dc, rfl, -, -⟩ := hd
  simp only [kRows, List.length_map] at hk1 HK HCJ ⊢
  unfold maxLen at hk1 hd1 hl1
  obtain ⟨vk, vb, vi, vf, vt, vkv, vlv, rfl⟩ := hvj.seven
  have HKV := Hd hvj.kindQ
  have hfacts : ∀ W, (((w.alloc (.cells (cells11 name ver k b i f t (.slice ka tb.length kc) (.slice la rows.length lc) (.slice da drows.length dc) wv).toArray 30)).alloc (.cells (cells7 vk vb vi vf vt vkv vlv).toArray 26)).alloc (.cells zero7.toArray 26)) = W ->
    Blk W w.heap.size (cells11 name ver k b i f t (.slice ka tb.length kc) (.slice la rows.length lc) (.slice da drows.length dc) wv) 30 /\ Blk W (w.heap.size + 1) (cells7 vk vb vi vf vt vkv vlv) 26 /\ Blk W (w.heap.size + 2) zero7 26 /\ Chg No w W /\ W.heap.size = w.heap.size + 3 := by
   rintro W rfl
   exact ⟨((Blk.new _ _ _).alloc _).alloc _, (Blk.newAt (by simp) _ _).alloc _, Blk.newAt (by simp) _ _, (((Chg.refl No w).alloc _).alloc _).alloc _, by simp⟩
  have HF := Hd hfacts
  clear hfacts hcj hvj hv hn hdr hrn hr hc hwv hjv ih hO0 hall hwt htb
  go_enter Tryz.func16, Tryz.ntmps16
  unfold cells11 cells7
  go_upto_if 22 with fail
  generalize hgw : World.alloc _ _ = W
  obtain ⟨b0, b1, b2, c1, hws⟩ := HF.out W hgw
  clear hgw HF
  obtain ⟨g, hg⟩ : ∃ g, g = w.heap.size := ⟨_, rfl⟩
  rw [← hg] at b0 b1 b2 hws ⊢
  rw [show g + 1 + 1 = g + 2 from rfl]
  have HG := Hd hg
  have HB0 := Hd b0
  have HB1 := Hd b1
  have HB2 := Hd b2
  have HC1 := Hd c1
  have HWS := Hd hws
  clear b0 b1 b2 c1 hws hg
  go_cut [23] from 23 to 23 (fun s23 wc => ∃ vb vi vf vt vkv vlv, ValJ (okB ok w) wc (cells7 7 vb vi vf vt vkv vlv) (.table v) /\ Blk wc g (cells11 name ver k b i f t (.slice ka tb.length kc) (.slice la rows.length lc) (.slice da drows.length dc) wv) 30 /\ Blk wc (g + 1) (cells7 7 vb vi vf vt vkv vlv) 26 /\ Blk wc (g + 2) zero7 26 /\ Chg No w wc /\ wc.heap.size = g + 3)
  case first =>
   have hbk := build26_k 7
   by_cases h0 : vk = 0
   ·subst h0
    have hv0 : v = [] := by
     rcases HJV.out with ⟨-, h⟩ | h
     ·exact h
     ·have := HKV.out.1 rfl; rw [h] at this; cases this
    have HV0 := Hd hv0
    have hb1 := HB1.out
    clear hv0
    go_wp2_with (first | (refine wpList_storeBlk rfl agg26 rfl rfl rfl hb1 rfl rfl rfl ?_; intro w3 hb3 hc3 hs3))
    go_meet
    refine ⟨_, _, _, _, _, _, ?_, HB0.out.chg hc3 (by omega), hb3, HB2.out.chg hc3 (by omega), HC1.out.trans hc3 (fun i hi e => by have := HG.out; omega), by rw [hs3]; exact HWS.out⟩
    rw [HV0.out]; exact table7_nil _ _
   ·have h0b : (vk == 0) = false := by simpa using h0
    have hj : jv = .table v := by
     rcases HJV.out with ⟨h, -⟩ | h
     ·exact absurd (HKV.out.2.2.1 h) h0
     ·exact h
    subst hj
    have h7 := HKV.out.2.2.2 rfl
    subst h7
    clear h0
    go_wp2_with fail
    go_meet
    exact ⟨_, _, _, _, _, _, HVJ.out.chg HC1.out (fun _ _ e => e), HB0.out, HB1.out, HB2.out, HC1.out, HWS.out⟩
  case rest =>
   obtain ⟨vb, vi, vf, vt, vkv, vlv, hvv, hb0, hb1, hb2, hcw, hwc⟩ := hcut
   have HVT := Hd hvv
   have HCC := Hd hcw
   have hoa : (cells7 7 vb vi vf vt vkv vlv).all (·.oneCell') = true := hvv.one
   have HAO0 := Hd (show AO ok w wc g (cells11 name ver k b i f t (.slice ka tb.length kc) (.slice la rows.length lc) (.slice da drows.length dc) wv) (cells7 7 vb vi vf vt vkv vlv) (over m (hasDep c.deps) v (tb.take 0)) (wc.alloc (.cells (cells7 7 vb vi vf vt vkv vlv).toArray 26)) (cells7 7 vb vi vf vt vkv vlv) from
    ⟨hb0.alloc _, hb1.alloc _, hb2.alloc _, Blk.newAt hwc.symm _ _, (by
     rw [TOLD.out.start HWV.out.sorted (fun k => overAt_none m _ _)]
     exact (hvv.chg ((Chg.refl No wc).alloc _) (fun _ _ e => e)).mono (fun b _ h => .inl h)), hcw.alloc _, (Chg.refl _ _).alloc _⟩)
   have HWC := Hd hwc
   have b1c := hb1.cells
   have k7 : (wc.alloc (.cells (cells7 7 vb vi vf vt vkv vlv).toArray 26)).cell? ⟨g, 7, none⟩ = some (.slice ka tb.length kc) := (hb0.alloc _).cell 7
   clear hvv hb0 hb1 hb2 hcw hwc HB0 HB1 HB2 HC1
   go_wp2_with (first | (with_reducible refine wpList_loadAgg rfl agg26 rfl rfl b1c rfl ?_) | (with_reducible refine wpList_storeNew rfl agg26 rfl rfl rfl rfl rfl hoa ?_))
   rw [HWC.out]
   clear k7 b1c hoa
   go_loopw [29] (fun ct wr => ∃ (n : Nat) (oc : List Value), ct = .int .i64 n /\ n ≤ tb.length /\ AO ok w wc g (cells11 name ver k b i f t (.slice ka tb.length kc) (.slice la rows.length lc) (.slice da drows.length dc) wv) (cells7 7 vb vi vf vt vkv vlv) (over m (hasDep c.deps) v (tb.take n)) wr oc) (fun ct _ => tb.length - (intOf ct).toNat)
   case atStart => exact ⟨0, _, rfl, Nat.zero_le _, HAO0.out⟩
   case round =>
    obtain ⟨n, oc, rfl, hnb, hao⟩ := hrel
    have HAOm := Hd hao
    clear hao HAO0
    by_cases hlt : n < tb.length
    ·obtain ⟨p, hp⟩ : ∃ p, tb[n]? = some p := ⟨_, List.getElem?_eq_getElem hlt⟩
     have hjx := tab_at (vals := c.vals) (n := n) (p := p) (by rw [← HTB.out]; exact hp)
     have hrl0 : n < rows.length := by rw [HRN.out]; exact (List.getElem?_eq_some_iff.1 hjx.2).1
     obtain ⟨r, hr0⟩ : ∃ r, rows[n]? = some r := ⟨_, List.getElem?_eq_getElem hrl0⟩
     obtain ⟨kb, ko, rfl, hkok, hkc⟩ := HK.out.at (i := n) (r := [.string p.1]) (by simp [hp])
     obtain ⟨lb, lo, rfl, hlok, hlc⟩ := HL.out.at (i := n) (r := r) hr0
     have hkc := (hkc.chg HAOm.out.chg id).one
     simp only [Nat.mul_one] at hkc
     have hlc := hlc.chg HAOm.out.chg id
     have hvr := (HR.out n r p.2 hr0 hjx.2).chg HAOm.out.chg (fun _ _ e => e)
     obtain ⟨rk, rb, ri, rf, rt, rkv, rlv, rfl⟩ := hvr.seven
     have hrl := hvr.length
     have hro := hvr.one
     have HKR := Hd hvr.kindQ
     have HVR := Hd hvr
     have HP := Hd (show (tabOf c.vals)[n]? = some p by rw [← HTB.out]; exact hp)
     have h64 : (n : Int) < (tb.length : Int) := by omega
     have h65 : (n : Int) < (rows.length : Int) := by omega
     have q8 : wr.cell? ⟨g, 8, none⟩ = some (.slice (some ⟨lb, lo, none⟩) rows.length lc) := HAOm.out.b0.cell 8
     obtain ⟨gv, hgv⟩ : ∃ gv, gv = wr.heap.size := ⟨_, rfl⟩
     have HGV := Hd (show g + 3 < gv by have := HAOm.out.b3.lt; omega)
     have HGVE := Hd hgv
     clear hp hr0 hkok hlok hvr hgv hjx
     go_upto_region 8 with (first | (with_reducible refine wpList_loadAgg rfl agg26 rfl rfl hlc hrl ?_) | (with_reducible refine wpList_storeNew rfl agg26 rfl rfl rfl rfl hrl hro ?_))
     obtain ⟨w2, hw2⟩ : ∃ w2, w2 = wr.alloc (.cells (cells7 rk rb ri rf rt rkv rlv).toArray 26) := ⟨_, rfl⟩
     have hb11 := Blk.newAt HGVE.out (cells7 rk rb ri rf rt rkv rlv) 26
     rw [← hw2] at hb11 ⊢
     rw [← HGVE.out]
     have HC2 := Hd (show Chg No wr w2 by rw [hw2]; exact (Chg.refl No wr).alloc _)
     have HB11 := Hd hb11
     clear hb11 hw2 q8 hkc hlc hrl hro
     have HAOs := Hd (HAOm.out.step HC2.out)
     have HVV := Hd ((HVR.out.chg HC2.out (fun _ _ e => e)).mono (ok' := okL ok w (g + 3)) (fun b _ h => .inl h))
     obtain ⟨O, hO⟩ : ∃ O, O = over m (hasDep c.deps) v (tb.take n) := ⟨_, rfl⟩
     have HOE := Hd (show O = over m (hasDep c.deps) v ((tabOf c.vals).take n) by rw [hO, HTB.out])
     have hwo : WU U N (E + (D + 1)) (.table O) := by rw [HOE.out]; exact WU.over _ _ HWV.out.max HWT.out.take.max'
     have HOS := Hd hwo.sorted
     have HOL := Hd (Nat.lt_of_le_of_lt hwo.len hUl)
     have NOTG := Hd (okL_not (ok := ok) (w := w) (g := g + 3) (by have := HG.out; omega))
     rw [← hO] at HAOs
     have HAO := Hd HAOs.out
     clear HAOs HAOm
     clear hwo hO HVR
     obtain ⟨ob, oi, of, ot, okv, olv, rfl⟩ := HAO.out.val.table7
     have bv1 := HAO.out.b1.cells
     go_wp2_with (first | (with_reducible refine wpList_loadAgg rfl agg26 rfl rfl bv1 rfl ?_))
     refine (at_table (okB ok w) v p.1 vb vi vf vt vkv vlv w2 (HVT.out.chg HAO.out.ch7 (fun b hb e => by have := hb.2; have := HG.out; omega))).mono ?_
     rintro e w3 ⟨hc3, hat⟩
     simp only [atJ] at hat
     have HAO := Hd (HAO.out.step hc3)
     have HB11 := Hd (HB11.out.chg hc3 id)
     have HVV := Hd (HVV.out.chg hc3 (fun _ _ e => e))
     clear hc3 bv1
     cases hgk : get v p.1 with
     | none =>
      rw [hgk] at hat
      obtain rfl := hat
      have HGK := Hd hgk
      have hz1 : zero7.all (·.oneCell') = true := rfl
      clear hgk
      go_upto_region 10 with (first | (with_reducible refine wpList_storeNew rfl agg26 rfl rfl rfl rfl rfl hz1 ?_))
      obtain ⟨w4, hw4⟩ : ∃ w4, w4 = w3.alloc (.cells zero7.toArray 26) := ⟨_, rfl⟩
      rw [← hw4]
      have hc4 : Chg No w3 w4 := by rw [hw4]; exact (Chg.refl No w3).alloc _
      have HAO := Hd (HAO.out.step hc4)
      have HB11 := Hd (HB11.out.chg hc4 id)
      have HVV := Hd (HVV.out.chg hc4 (fun _ _ e => e))
      clear hw4 hc4
      have bm := HAO.out.b3.cells
      have bv := HB11.out.cells
      go_wp2_with (first | (with_reducible refine wpList_loadAgg rfl agg26 rfl rfl bm rfl ?_) | (with_reducible refine wpList_loadAgg rfl agg26 rfl rfl bv rfl ?_))
      refine (with_any (okL ok w (g + 3)) O p.1 p.2 ob oi of ot okv olv _ _ HAO.out.val HVV.out HOS.out HOL.out).mono ?_
      rintro e w20 ⟨c2, rfl, hv2, hc2⟩
      have hbm := HAO.out.b3.chg hc2 id
      have hl2 := hv2.length
      have ho2 := hv2.one
      have HV2 := Hd (hv2.mono (ok' := okL ok w (g + 3)) (fun b _ hb => hb.elim id (fun h => .inr (by have h2 := HAO.out.b3.lt; omega))))
      have HAO2 := Hd (HAO.out.step hc2)
      clear hv2 hc2 bm bv
      go_wp2_with (first | (with_reducible refine wpList_storeBlk rfl agg26 rfl rfl rfl hbm rfl hl2 ho2 ?_; intro w21 hb3' hc3 hs3))
      have HAO3 := Hd (HAO2.out.fill (Nat.le_of_eq HG.out.symm) hc3 hb3' (HV2.out.chg hc3 (fun b hb e => NOTG.out (e ▸ hb))))
      clear hb3' hc3 hs3 hbm
      go_roundw
      case rel => first | exact ⟨n + 1, c2, by go_num, by omega, (by rw [show over m (hasDep c.deps) v (tb.take (n + 1)) = ins O p.1 p.2 by rw [HTB.out, TOLD.out.ins (z := p.2) HTS.out HP.out (by rw [HGK.out]; rfl), ← HOE.out]]; exact HAO3.out)⟩ | ((repeat apply Exists.intro); exact ⟨⟨n + 1, c2, by go_num, by omega, (by rw [show over m (hasDep c.deps) v (tb.take (n + 1)) = ins O p.1 p.2 by rw [HTB.out, TOLD.out.ins (z := p.2) HTS.out HP.out (by rw [HGK.out]; rfl), ← HOE.out]]; exact HAO3.out)⟩, rfl⟩)
      case measure => simp [intOf]; omega
     | some x0 =>
      rw [hgk] at hat
      obtain ⟨xc, rfl, hvx⟩ := hat
      have HGK := Hd hgk
      have hxl := hvx.length
      have hxo := hvx.one
      obtain ⟨xk, xb, xi, xf, xt, xkv, xlv, rfl⟩ := hvx.seven
      have HKX := Hd hvx.kindQ
      have HVX := Hd (hvx.mono (ok' := okL ok w (g + 3)) (fun b _ h => .inl h))
      obtain ⟨gx, hgx⟩ : ∃ gx, gx = w3.heap.size := ⟨_, rfl⟩
      have HGXE := Hd hgx
      have HGX := Hd (show g + 3 < gx by have := HAO.out.b3.lt; omega)
      clear hgk hgx hvx
      go_upto_region 9 with (first | (with_reducible refine wpList_storeNew rfl agg26 rfl rfl rfl rfl hxl hxo ?_))
      obtain ⟨w4, hw4⟩ : ∃ w4, w4 = w3.alloc (.cells (cells7 xk xb xi xf xt xkv xlv).toArray 26) := ⟨_, rfl⟩
      have hb12 := Blk.newAt HGXE.out (cells7 xk xb xi xf xt xkv xlv) 26
      rw [← hw4] at hb12 ⊢
      rw [← HGXE.out]
      have HB12 := Hd hb12
      have hc4 : Chg No w3 w4 := by rw [hw4]; exact (Chg.refl No w3).alloc _
      have HAO := Hd (HAO.out.step hc4)
      have HB11 := Hd (HB11.out.chg hc4 id)
      have HVV := Hd (HVV.out.chg hc4 (fun _ _ e => e))
      have HVX := Hd (HVX.out.chg hc4 (fun _ _ e => e))
      have kx : w4.cell? ⟨gx, 0, none⟩ = some (.int .i64 xk) := HB12.out.cell 0
      clear hb12 hw4 hc4
      by_cases hx0 : xk = 0
      ·subst hx0
       have hxn : x0 = .null := HKX.out.1 rfl
       subst hxn
       cases m with
       | false =>
        have b3 := HAO.out.b3.cells
        go_wp2_with (first | (with_reducible refine wpList_loadAgg rfl agg26 rfl rfl b3 rfl ?_))
        refine (without_any (okL ok w (g + 3)) O p.1 ob oi of ot okv olv _ HAO.out.val HOL.out).mono ?_
        rintro e w5 ⟨c2, rfl, hv2, hc2⟩
        have hb3 := HAO.out.b3.chg hc2 id
        have hl2 := hv2.length
        have ho2 := hv2.one
        have HV2 := Hd (hv2.mono (ok' := okL ok w (g + 3)) (fun b _ hb => hb.elim id (fun h => .inr (by have h2 := HAO.out.b3.lt; omega))))
        have HAO2 := Hd (HAO.out.step hc2)
        clear hv2 hc2 b3 kx
        go_wp2_with (first | (with_reducible refine wpList_storeBlk rfl agg26 rfl rfl rfl hb3 rfl hl2 ho2 ?_; intro w6 hb3' hc3 hs3))
        have HAO3 := Hd (HAO2.out.fill (Nat.le_of_eq HG.out.symm) hc3 hb3' (HV2.out.chg hc3 (fun b hb e => NOTG.out (e ▸ hb))))
        clear hb3' hc3 hs3 hb3
        go_roundw
        case rel => first | exact ⟨n + 1, c2, by go_num, by omega, (by rw [show over false (hasDep c.deps) v (tb.take (n + 1)) = del O p.1 by rw [HTB.out, TOLD.out.del HTS.out HP.out (by rw [HGK.out]; rfl), ← HOE.out]]; exact HAO3.out)⟩ | ((repeat apply Exists.intro); exact ⟨⟨n + 1, c2, by go_num, by omega, (by rw [show over false (hasDep c.deps) v (tb.take (n + 1)) = del O p.1 by rw [HTB.out, TOLD.out.del HTS.out HP.out (by rw [HGK.out]; rfl), ← HOE.out]]; exact HAO3.out)⟩, rfl⟩)
        case measure => simp [intOf]; omega
       | true =>
        have bx := HB12.out.cells
        go_wp2_with (first | (with_reducible refine wpList_loadAgg rfl agg26 rfl rfl bx rfl ?_) | (with_reducible refine wpList_loadAggG rfl agg26 rfl rfl bx rfl ?_))
        refine (isTable_any _ _ _ _ _ _ _ _).mono ?_
        rintro e w5 ⟨rfl, hc5⟩
        have HAO := Hd (HAO.out.step hc5)
        have HB11 := Hd (HB11.out.chg hc5 id)
        have HB12 := Hd (HB12.out.chg hc5 id)
        have HVV := Hd (HVV.out.chg hc5 (fun _ _ e => e))
        have HVX := Hd (HVX.out.chg hc5 (fun _ _ e => e))
        clear bx hc5
        clear kx
        go_wp2_with fail
        go_roundw
        case rel => first | exact ⟨n + 1, _, by go_num, by omega, (by rw [show over true (hasDep c.deps) v (tb.take (n + 1)) = O by rw [HTB.out, TOLD.out.same HTS.out HP.out (by rw [HGK.out]; rfl), ← HOE.out]]; exact HAO.out)⟩ | ((repeat apply Exists.intro); exact ⟨⟨n + 1, _, by go_num, by omega, (by rw [show over true (hasDep c.deps) v (tb.take (n + 1)) = O by rw [HTB.out, TOLD.out.same HTS.out HP.out (by rw [HGK.out]; rfl), ← HOE.out]]; exact HAO.out)⟩, rfl⟩)
        case measure => simp [intOf]; omega
      ·have hx0b : (xk == 0) = false := by simpa using hx0
       have bx := HB12.out.cells
       go_wp2_with (first | (with_reducible refine wpList_loadAgg rfl agg26 rfl rfl bx rfl ?_) | (with_reducible refine wpList_loadAggG rfl agg26 rfl rfl bx rfl ?_))
       refine (isTable_any _ _ _ _ _ _ _ _).mono ?_
       rintro e w5 ⟨rfl, hc5⟩
       have HAO := Hd (HAO.out.step hc5)
       have HB11 := Hd (HB11.out.chg hc5 id)
       have HB12 := Hd (HB12.out.chg hc5 id)
       have HVV := Hd (HVV.out.chg hc5 (fun _ _ e => e))
       have HVX := Hd (HVX.out.chg hc5 (fun _ _ e => e))
       clear bx hc5
       clear kx
       by_cases hx7 : xk = 7
       ·subst hx7
        obtain ⟨x, rfl⟩ := isT_table (HKX.out.2.1 rfl)
        have bv := HB11.out.cells
        go_wp2_with (first | (with_reducible refine wpList_loadAgg rfl agg26 rfl rfl bv rfl ?_) | (with_reducible refine wpList_loadAggG rfl agg26 rfl rfl bv rfl ?_))
        refine (isTable_any _ _ _ _ _ _ _ _).mono ?_
        rintro e w6 ⟨rfl, hc6⟩
        have HAO := Hd (HAO.out.step hc6)
        have HB11 := Hd (HB11.out.chg hc6 id)
        have HB12 := Hd (HB12.out.chg hc6 id)
        have HVV := Hd (HVV.out.chg hc6 (fun _ _ e => e))
        have HVX := Hd (HVX.out.chg hc6 (fun _ _ e => e))
        clear bv hc6
        by_cases hr7 : rk = 7
        ·subst hr7
         obtain ⟨v', hv'⟩ := isT_table (HKR.out.2.1 rfl)
         have HPV := Hd hv'
         rw [hv'] at HVV
         have WX := Hd (show WU U N (E + (D + 1)) (.table x) by
          cases E with
          | zero => exact HWV.out.elim
          | succ E => exact ((HWV.out.get HGK.out).2).mono (fun _ h => h) (Nat.le_refl _) (by omega))
         have WY := Hd (show WU U N (E + (D + 1)) (.table v') by rw [← HPV.out]; exact ((HWT.out.2 p (List.mem_of_getElem? HP.out)).2).mono (fun _ h => h) (Nat.le_refl _) (by omega))
         clear hv'
         go_upto_region 14 with fail
         obtain ⟨wx, hwx⟩ : ∃ wx, wx = w6 := ⟨_, rfl⟩
         rw [← hwx] at HAO HB11 HB12 HVV HVX ⊢
         clear hwx
         obtain ⟨mg, hmg⟩ : ∃ mg, mg = m := ⟨_, rfl⟩
         have HMG := Hd hmg
         clear hmg
         refine wp_region_inv (FI [.eq (.agg (cells7 7 ob oi of ot okv olv).toArray), .eq (.string p.1), .eq (.agg (cells7 7 xb xi xf xt xkv xlv).toArray), .eq (.agg (cells7 7 rb ri rf rt rkv rlv).toArray), .eq (.bool mg), .eq (.bool mg), .unless mg (.eq (.agg (cells11 name ver k b i f t (.slice (some ⟨kb, ko, none⟩) tb.length kc) (.slice (some ⟨lb, lo, none⟩) rows.length lc) (.slice da drows.length dc) wv).toArray)), .unless mg (.eq (.string p.1)), .unless mg (.eq (.bool (hasDep c.deps p.1))), .eq (.bool (m || hasDep c.deps p.1)), .val (okL ok w (g + 3)) (.table (coal (m || hasDep c.deps p.1) x v')), .val (okL ok w (g + 3)) (.table (ins O p.1 (.table (coal (m || hasDep c.deps p.1) x v')))), .any])
          (fun done w' => PG (g + 3) (cells7 7 ob oi of ot okv olv) (okL ok w (g + 3)) (.table (ins O p.1 (.table (coal (m || hasDep c.deps p.1) x v')))) wx w' (done 12)) (by kernel_rfl) (by kernel_rfl) (PG.start HAO.out.b3) ?_ ?_
         ·refine ⟨?_, ?_, ?_, ?_, ?_, ?_, ?_, ?_, ?_, ?_, ?_, ?_, ?_, trivial⟩
          ·intro done a w1 K hd qd qe qf qb hG hK
           have e8 : a.tmps[8]?.getD undef = .pointer (some ⟨(g + 3), 0, none⟩) := qf 8 rfl
           have n12 : done 12 = false := by
            cases hh0 : done 12 with
            | false => rfl
            | true =>
             have hh1 := qd 12 11 rfl hh0
             have hh2 := qd 11 0 rfl hh1
             rw [hd] at hh2; cases hh2
           have hG0 := hG
           rw [n12] at hG0
           obtain ⟨c', hb, h1, -⟩ := hG0.box
           obtain rfl := h1 rfl
           refine if_wanted rfl ?_
           refine wp_loadAgg agg26 rfl (by simpa [Act.eval] using e8) hb.cells rfl ?_
           exact hK _ _ rfl (by simpa [dn] using hG) (fun _ _ _ _ h => h)
          ·intro done a w1 K hd qd qe qf qb hG hK
           have e10 : a.tmps[10]?.getD undef = .string p.1 := qf 10 rfl
           clear qd qe qf qb
           go_simp
           exact hK _ _ rfl (by simpa [dn] using hG) (fun _ _ _ _ h => h)
          ·intro done a w1 K hd qd qe qf qb hG hK
           have e12 : a.tmps[12]?.getD undef = .pointer (some ⟨gx, 0, none⟩) := qf 12 rfl
           refine if_wanted rfl ?_
           refine wp_loadAgg agg26 rfl (by simpa [Act.eval] using e12) (HB12.out.chg hG.chg (by have := HGX.out; omega)).cells rfl ?_
           exact hK _ _ rfl (by simpa [dn] using hG) (fun _ _ _ _ h => h)
          ·intro done a w1 K hd qd qe qf qb hG hK
           have e11 : a.tmps[11]?.getD undef = .pointer (some ⟨gv, 0, none⟩) := qf 11 rfl
           refine if_wanted rfl ?_
           refine wp_loadAgg agg26 rfl (by simpa [Act.eval] using e11) (HB11.out.chg hG.chg (by have := HGV.out; omega)).cells rfl ?_
           exact hK _ _ rfl (by simpa [dn] using hG) (fun _ _ _ _ h => h)
          ·intro done a w1 K hd qd qe qf qb hG hK
           have e2 : a.tmps[2]?.getD undef = .bool m := qf 2 rfl
           clear qd qe qf qb
           go_simp
           exact hK _ _ (congrArg Value.bool HMG.out.symm) (by simpa [dn] using hG) (fun _ _ _ _ h => h)
          ·intro done a w1 K hd qd qe qf qb hG hK
           have e75 : a.tmps[75]?.getD undef = .bool mg := qe 4 75 rfl (qb 4 rfl)
           clear qd qe qf qb
           go_simp
           exact hK _ _ rfl (by simpa [dn] using hG) (fun _ _ _ _ h => h)
          ·intro done a w1 K hd qd qe qf qb hG hK
           have eg : a.tmps[76]?.getD undef = .bool mg := qe 5 76 rfl (qb 5 rfl)
           obtain ⟨c0, hcv⟩ : ∃ c0, c0 = mg := ⟨_, rfl⟩
           rw [← hcv] at eg
           cases c0 with
           | true =>
            refine if_off rfl rfl eg ?_
            rw [← hcv] at hK
            exact hK undef _ trivial (by simpa [dn] using hG) (fun _ _ _ _ h => h)
           | false =>
            refine if_on rfl rfl eg ?_
            rw [← hcv] at hK qe
            have e3 : a.tmps[3]?.getD undef = .pointer (some ⟨g, 0, none⟩) := qf 3 rfl
            refine wp_loadAgg agg30 rfl (by simpa [Act.eval] using e3) (HAO.out.b0.chg hG.chg (by omega)).cells rfl ?_
            exact hK _ _ rfl (by simpa [dn] using hG) (fun _ _ _ _ h => h)
          ·intro done a w1 K hd qd qe qf qb hG hK
           have eg : a.tmps[76]?.getD undef = .bool mg := qe 5 76 rfl (qb 5 rfl)
           obtain ⟨c0, hcv⟩ : ∃ c0, c0 = mg := ⟨_, rfl⟩
           rw [← hcv] at eg
           cases c0 with
           | true =>
            refine if_off rfl rfl eg ?_
            rw [← hcv] at hK
            exact hK undef _ trivial (by simpa [dn] using hG) (fun _ _ _ _ h => h)
           | false =>
            refine if_on rfl rfl eg ?_
            rw [← hcv] at hK qe
            have e10 : a.tmps[10]?.getD undef = .string p.1 := qf 10 rfl
            clear qd qe qf qb eg hcv
            go_simp
            exact hK _ _ rfl (by simpa [dn] using hG) (fun _ _ _ _ h => h)
          ·intro done a w1 K hd qd qe qf qb hG hK
           have eg : a.tmps[76]?.getD undef = .bool mg := qe 5 76 rfl (qb 5 rfl)
           obtain ⟨c0, hcv⟩ : ∃ c0, c0 = mg := ⟨_, rfl⟩
           rw [← hcv] at eg
           cases c0 with
           | true =>
            refine if_off rfl rfl eg ?_
            rw [← hcv] at hK
            exact hK undef _ trivial (by simpa [dn] using hG) (fun _ _ _ _ h => h)
           | false =>
            refine if_on rfl rfl eg ?_
            rw [← hcv] at hK qe
            have e77 : a.tmps[77]?.getD undef = .agg (cells11 name ver k b i f t (.slice (some ⟨kb, ko, none⟩) tb.length kc) (.slice (some ⟨lb, lo, none⟩) rows.length lc) (.slice da drows.length dc) wv).toArray := qe 6 77 rfl (qb 6 rfl)
            have e78 : a.tmps[78]?.getD undef = .string p.1 := qe 7 78 rfl (qb 7 rfl)
            refine wp_callV Tryz.call54 rfl (by simpa [Act.eval] using e77) (by simpa [Act.eval] using e78) (hasDep_any ((HCJ.out.chg HAO.out.chg (fun _ _ e => e)).chg hG.chg (fun b hb e => by have := hb.2; have := HG.out; omega)) p.1) ?_
            rintro e w2 ⟨rfl, hc⟩
            exact ⟨_, rfl, hK _ _ rfl (by simpa [dn] using hG.chgNo hc) (fun _ _ _ _ h => h.keepNo hc)⟩
          ·intro done a w1 K hd qd qe qf qb hG hK
           have HMV := Hd (show (mg || hasDep c.deps p.1) = (m || hasDep c.deps p.1) by rw [HMG.out])
           clear HMG
           cases mg with
           | true =>
            have e76 : a.tmps[76]?.getD undef = .bool true := qe 5 76 rfl (qb 5 rfl)
            clear qd qe qf qb
            go_simp
            exact hK _ _ (congrArg Value.bool HMV.out) (by simpa [dn] using hG) (fun _ _ _ _ h => h)
           | false =>
            have e76 : a.tmps[76]?.getD undef = .bool false := qe 5 76 rfl (qb 5 rfl)
            have e79 : a.tmps[79]?.getD undef = .bool (hasDep c.deps p.1) := qe 8 79 rfl (qb 8 rfl)
            clear qd qe qf qb
            go_simp
            exact hK _ _ (congrArg Value.bool HMV.out) (by simpa [dn] using hG) (fun _ _ _ _ h => h)
          ·intro done a w1 K hd qd qe qf qb hG hK
           have e73 : a.tmps[73]?.getD undef = .agg (cells7 7 xb xi xf xt xkv xlv).toArray := qe 2 73 rfl (qb 2 rfl)
           have e74 : a.tmps[74]?.getD undef = .agg (cells7 7 rb ri rf rt rkv rlv).toArray := qe 3 74 rfl (qb 3 rfl)
           have e80 : a.tmps[80]?.getD undef = .bool (m || hasDep c.deps p.1) := qe 9 80 rfl (qb 9 rfl)
           refine if_wanted rfl ?_
           have hcall := coalesced_any U N hUl (m || hasDep c.deps p.1) (E + (D + 1)) (okL ok w (g + 3)) x v' (cells7 7 xb xi xf xt xkv xlv) (cells7 7 rb ri rf rt rkv rlv) w1 (HVX.out.chg hG.chg (fun b hb e => NOTG.out (e ▸ hb))) (HVV.out.chg hG.chg (fun b hb e => NOTG.out (e ▸ hb))) WX.out WY.out
           refine wp_callV3 Tryz.call53 rfl (by simpa [Act.eval] using e73) (by simpa [Act.eval] using e74) (by simpa [Act.eval] using e80) hcall ?_
           rintro e w2 ⟨cs, rfl, hj, hc⟩
           exact ⟨_, rfl, hK _ _ ⟨cs, rfl, hj.mono (fun b _ hb => hb.elim id (fun h => .inr (by have h1 := hG.size; have h2 := HAO.out.b3.lt; omega)))⟩ (by simpa [dn] using hG.chgNo hc) (fun _ _ _ _ h => h.keepNo hc)⟩
          ·intro done a w1 K hd qd qe qf qb hG hK
           have e71 : a.tmps[71]?.getD undef = .agg (cells7 7 ob oi of ot okv olv).toArray := qe 0 71 rfl (qb 0 rfl)
           have e72 : a.tmps[72]?.getD undef = .string p.1 := qe 1 72 rfl (qb 1 rfl)
           obtain ⟨c9, e81, hv9⟩ := qe 10 81 rfl (qb 10 rfl)
           refine if_wanted rfl ?_
           have hcall := with_any (okL ok w (g + 3)) O p.1 (.table (coal (m || hasDep c.deps p.1) x v')) ob oi of ot okv olv c9 w1 (HAO.out.val.chg hG.chg (fun b hb e => NOTG.out (e ▸ hb))) hv9 HOS.out HOL.out
           refine wp_callV3 Tryz.call51 rfl (by simpa [Act.eval] using e71) (by simpa [Act.eval] using e72) (by simpa [Act.eval] using e81) hcall ?_
           rintro e w2 ⟨cs, rfl, hj, hc⟩
           exact ⟨_, rfl, hK _ _ ⟨cs, rfl, hj.mono (fun b _ hb => hb.elim id (fun h => .inr (by have h1 := hG.size; have h2 := HAO.out.b3.lt; omega)))⟩ (by simpa [dn] using hG.chgNo hc) (fun _ _ _ _ h => h.keepNo hc)⟩
          ·intro done a w1 K hd qd qe qf qb hG hK
           have e8 : a.tmps[8]?.getD undef = .pointer (some ⟨(g + 3), 0, none⟩) := qf 8 rfl
           obtain ⟨c2, e82, hv2⟩ := qe 11 82 rfl (qb 11 rfl)
           rw [hd] at hG
           obtain ⟨c', hb, h1, -⟩ := hG.box
           obtain rfl := h1 rfl
           refine if_wanted rfl ?_
           refine wp_storeBlk agg26 rfl (by simpa [Act.eval] using e8) (by simpa [Act.eval] using e82) hb rfl hv2.length hv2.one ?_
           intro w2 hb2 hC hs2
           refine hK undef _ trivial (by simpa [dn] using hG.fill hb2 hC hv2 NOTG.out) ?_
           refine fun j hj _ u hu => hu.keep hC (safe_of (i := 12) (fun j hl hj => ?_) j hj)
           match j, hj with
           | 0, _ => exact trivial
           | 1, _ => exact trivial
           | 2, _ => exact trivial
           | 3, _ => exact trivial
           | 4, _ => exact trivial
           | 5, _ => exact trivial
           | 6, _ => exact by clear HMG; cases mg <;> exact trivial
           | 7, _ => exact by clear HMG; cases mg <;> exact trivial
           | 8, _ => exact by clear HMG; cases mg <;> exact trivial
           | 9, _ => exact trivial
           | 10, _ => exact fun b hb e => NOTG.out (e ▸ hb)
           | 11, _ => exact fun b hb e => NOTG.out (e ▸ hb)
           | 12, hj => exact absurd rfl hj
           | j + 13, _ => exact absurd hl (by simp)
         ·intro vs w2 hvs hvn hG
          obtain ⟨c2, hb2, -, hv2⟩ := hG.box
          have HAO2 := Hd (HAO.out.fill (Nat.le_of_eq HG.out.symm) hG.chg hb2 (hv2 rfl))
          clear hb2 hv2 hG hvs hvn
          simp only [putAll, Act.put, List.setIfInBounds_toArray, List.set_cons_succ, List.set_cons_zero]
          go_wp2_with fail
          go_roundw
          case rel => first | exact ⟨n + 1, c2, by go_num, by omega, (by rw [show over m (hasDep c.deps) v (tb.take (n + 1)) = ins O p.1 (.table (coal (m || hasDep c.deps p.1) x v')) by rw [HTB.out, TOLD.out.ins HTS.out HP.out (by rw [HGK.out, HPV.out]; rfl), ← HOE.out]]; exact HAO2.out)⟩ | ((repeat apply Exists.intro); exact ⟨⟨n + 1, c2, by go_num, by omega, (by rw [show over m (hasDep c.deps) v (tb.take (n + 1)) = ins O p.1 (.table (coal (m || hasDep c.deps p.1) x v')) by rw [HTB.out, TOLD.out.ins HTS.out HP.out (by rw [HGK.out, HPV.out]; rfl), ← HOE.out]]; exact HAO2.out)⟩, rfl⟩)
          case measure => simp [intOf]; omega
        ·have hr7b : (rk == 7) = false := by simpa using hr7
         have HPT := Hd (show isT p.2 = false by cases h : isT p.2 <;> first | rfl | exact absurd (HKR.out.2.2.2 h) hr7)
         clear hr7
         go_wp2_with fail
         go_roundw
         case rel => first | exact ⟨n + 1, _, by go_num, by omega, (by rw [show over m (hasDep c.deps) v (tb.take (n + 1)) = O by rw [HTB.out, TOLD.out.same HTS.out HP.out (by rw [HGK.out]; have h := HPT.out; cases hp2 : p.2 <;> first | rfl | (rw [hp2] at h; cases h)), ← HOE.out]]; exact HAO.out)⟩ | ((repeat apply Exists.intro); exact ⟨⟨n + 1, _, by go_num, by omega, (by rw [show over m (hasDep c.deps) v (tb.take (n + 1)) = O by rw [HTB.out, TOLD.out.same HTS.out HP.out (by rw [HGK.out]; have h := HPT.out; cases hp2 : p.2 <;> first | rfl | (rw [hp2] at h; cases h)), ← HOE.out]]; exact HAO.out)⟩, rfl⟩)
         case measure => simp [intOf]; omega
       ·have hx7b : (xk == 7) = false := by simpa using hx7
        have HXT := Hd (show isT x0 = false by cases h : isT x0 <;> first | rfl | exact absurd (HKX.out.2.2.2 h) hx7)
        have HXN := Hd (show x0 ≠ .null from fun e => hx0 (HKX.out.2.2.1 e))
        clear hx7 hx0
        go_wp2_with fail
        go_roundw
        case rel => first | exact ⟨n + 1, _, by go_num, by omega, (by rw [show over m (hasDep c.deps) v (tb.take (n + 1)) = O by rw [HTB.out, TOLD.out.same HTS.out HP.out (by rw [HGK.out]; have h := HXT.out; have h2 := HXN.out; cases x0 <;> first | rfl | exact absurd rfl h2 | cases h), ← HOE.out]]; exact HAO.out)⟩ | ((repeat apply Exists.intro); exact ⟨⟨n + 1, _, by go_num, by omega, (by rw [show over m (hasDep c.deps) v (tb.take (n + 1)) = O by rw [HTB.out, TOLD.out.same HTS.out HP.out (by rw [HGK.out]; have h := HXT.out; have h2 := HXN.out; cases x0 <;> first | rfl | exact absurd rfl h2 | cases h), ← HOE.out]]; exact HAO.out)⟩, rfl⟩)
        case measure => simp [intOf]; omega
    ·have hnl : n = tb.length := Nat.le_antisymm hnb (Nat.not_lt.1 hlt)
     subst hnl
     have hlen : ¬ ((tb.length : Nat) : Int) < (tb.length : Int) := by omega
     have hov : over m (hasDep c.deps) v (tb.take tb.length) = O0 := by rw [List.take_length, HTB.out, ← HO0.out]
     rw [hov] at HAOm
     have q9 : wr.cell? ⟨g, 9, none⟩ = some (.slice da drows.length dc) := HAOm.out.b0.cell 9
     have HAO1 := Hd HAOm.out
     clear hov HAOm
     go_wp2_with fail
     clear q9
     go_loopw [87] (fun ct wr => ∃ (n : Nat) (O : T) (oc : List Value), ct = .int .i64 n /\ n ≤ drows.length /\ AO ok w wc g (cells11 name ver k b i f t (.slice ka tb.length kc) (.slice la rows.length lc) (.slice da drows.length dc) wv) (cells7 7 vb vi vf vt vkv vlv) O wr oc /\ allD m (c.deps.drop n) O = allV m c v /\ ∃ F, WU U N F (.table O)) (fun ct _ => drows.length - (intOf ct).toNat)
     case atStart => exact ⟨0, O0, _, rfl, Nat.zero_le _, HAO1.out, by rw [List.drop_zero, HALL.out], ⟨_, HW0.out⟩⟩
     case round =>
      obtain ⟨n, O, oc, rfl, hnd, hao, hal, F, hwo⟩ := hrel
      have HAOm := Hd hao
      have HAL := Hd hal
      have WO := Hd hwo
      clear hao hal hwo HAO1
      by_cases hlt : n < drows.length
      ·obtain ⟨r, hr0⟩ : ∃ r, drows[n]? = some r := ⟨_, List.getElem?_eq_getElem hlt⟩
       obtain ⟨dd, hdd⟩ : ∃ d, c.deps[n]? = some d := ⟨_, List.getElem?_eq_getElem (by rw [← HDN.out]; exact hlt)⟩
       obtain ⟨lb, lo, rfl, -, hlc⟩ := HD.out.at (i := n) (r := r) hr0
       have hlc := hlc.chg HAOm.out.chg id
       have hch := (HDR.out n r dd hr0 hdd).chg HAOm.out.chg (fun _ _ e => e)
       obtain ⟨hrl, hro⟩ := hch.one
       obtain ⟨rn, rv, rk, rb, ri, rf, rt, rkv, rlv, rdv, rwv, rfl, hnm, -⟩ := hch.cells
       have HNM := Hd hnm
       have HCD0 := Hd hch
       have HDDA := Hd hdd
       have HDD := Hd (HCW.out.2.2.2.2.2 dd (List.mem_of_getElem? hdd))
       have h64 : (n : Int) < (drows.length : Int) := by omega
       obtain ⟨g15, hg15⟩ : ∃ x, x = wr.heap.size := ⟨_, rfl⟩
       have HGE := Hd hg15
       have H15 := Hd (show g + 3 < g15 by have := HAOm.out.b3.lt; omega)
       clear hr0 hdd hch hnm hg15
       go_upto_region 19 with (first | (with_reducible refine wpList_loadAgg rfl agg30 rfl rfl hlc hrl ?_) | (with_reducible refine wpList_storeNew rfl agg30 rfl rfl rfl rfl hrl hro ?_))
       obtain ⟨w2, hw2⟩ : ∃ w2, w2 = wr.alloc (.cells (cells11 rn rv rk rb ri rf rt rkv rlv rdv rwv).toArray 30) := ⟨_, rfl⟩
       have hb15 := Blk.newAt HGE.out (cells11 rn rv rk rb ri rf rt rkv rlv rdv rwv) 30
       rw [← hw2] at hb15 ⊢
       rw [← HGE.out]
       have HC2 := Hd (show Chg No wr w2 by rw [hw2]; exact (Chg.refl No wr).alloc _)
       have HB15 := Hd hb15
       have HAO := Hd (HAOm.out.step HC2.out)
       have HCD := Hd (HCD0.out.chg HC2.out (fun _ _ e => e))
       clear hb15 hw2 hlc hrl hro HAOm HCD0
       have HOS := Hd WO.out.sorted
       have HOL := Hd (Nat.lt_of_le_of_lt WO.out.len hUl)
       have NOTG := Hd (okL_not (ok := ok) (w := w) (g := g + 3) (by have := HG.out; omega))
       obtain ⟨ob, oi, of, ot, okv, olv, rfl⟩ := HAO.out.val.table7
       have bm := HAO.out.b3.cells
       have k0 : w2.cell? ⟨g15, 0, none⟩ = some (.string rn) := HB15.out.cell 0
       go_wp2_with (first | (with_reducible refine wpList_loadAgg rfl agg26 rfl rfl bm rfl ?_))
       refine (at_table (okL ok w (g + 3)) O rn ob oi of ot okv olv w2 HAO.out.val).mono ?_
       rintro e w3 ⟨hc3, hat⟩
       simp only [atJ] at hat
       obtain ⟨xc0, has, rfl, ⟨hxl, hxo⟩, hx1, hx2⟩ := at_atT hat
       have HX1 := Hd hx1
       have HX2 := Hd hx2
       have HAO := Hd (HAO.out.step hc3)
       have HB15 := Hd (HB15.out.chg hc3 id)
       have HCD := Hd (HCD.out.chg hc3 (fun _ _ e => e))
       obtain ⟨g16, hg16⟩ : ∃ x, x = w3.heap.size := ⟨_, rfl⟩
       have HGE2 := Hd hg16
       have H16 := Hd (show g15 < g16 by have := HB15.out.lt; omega)
       have hbk := build26_k 7
       clear hat hx1 hx2 hc3 bm k0 hg16
       go_upto_if 99 with (first | (with_reducible refine wpList_storeNew rfl agg26 rfl rfl rfl rfl hxl hxo ?_))
       obtain ⟨w4, hw4⟩ : ∃ w4, w4 = w3.alloc (.cells xc0.toArray 26) := ⟨_, rfl⟩
       have hb16 := Blk.newAt HGE2.out xc0 26
       rw [← hw4] at hb16 ⊢
       rw [← HGE2.out]
       have HB160 := Hd hb16
       have HC4 := Hd (show Chg No w3 w4 by rw [hw4]; exact (Chg.refl No w3).alloc _)
       have HAO4 := Hd (HAO.out.step HC4.out)
       have HB154 := Hd (HB15.out.chg HC4.out id)
       have HCD4 := Hd (HCD.out.chg HC4.out (fun _ _ e => e))
       clear hb16 hw4
       go_cut [87] from 87 to 122 (fun s87 wc2 => s87 = .int .i64 n /\ ∃ xc, Blk wc2 g16 xc 26 /\ ValJ (okL ok w (g + 3)) wc2 xc (atT O rn) /\ AO ok w wc g (cells11 name ver k b i f t (.slice ka tb.length kc) (.slice la rows.length lc) (.slice (some ⟨lb, lo, none⟩) drows.length dc) wv) (cells7 7 vb vi vf vt vkv vlv) O wc2 (cells7 7 ob oi of ot okv olv) /\ Blk wc2 g15 (cells11 rn rv rk rb ri rf rt rkv rlv rdv rwv) 30 /\ ChJ (okB ok w) wc2 (cells11 rn rv rk rb ri rf rt rkv rlv rdv rwv) dd)
       case first =>
        cases has with
        | true =>
         go_wp2_with fail
         go_meet
         exact ⟨rfl, xc0, HB160.out, (HX1.out trivial).chg HC4.out (fun _ _ e => e), HAO4.out, HB154.out, HCD4.out⟩
        | false =>
         have hb16 := HB160.out
         go_wp2_with (first | (refine wpList_storeBlk rfl agg26 rfl rfl rfl hb16 hxl rfl rfl ?_; intro w5 hb5 hc5 hs5))
         go_meet
         refine ⟨rfl, _, hb5, by rw [HX2.out trivial]; exact table7_nil _ _, HAO4.out.other (Nat.le_of_eq HG.out.symm) (by have := H15.out; have := H16.out; omega) hc5 ?_, HB154.out.chg hc5 (by have := H16.out; omega), HCD4.out.chg hc5 (fun b hb e => by have := hb.2; have := HG.out; have := H15.out; have := H16.out; omega)⟩
         exact (((HAO.out.val.bel.chg HC4.out (fun _ _ e => e)).chg hc5 (fun x h e => by have := h.2; have := HGE2.out; omega)).mono (fun x _ h => h.1))
       case rest =>
        obtain ⟨rfl, xc, hb16, hvx, hao, hb15, hcd⟩ := hcut
        have HB16 := Hd hb16
        have HVX0 := Hd hvx
        have HAOa := Hd hao
        have HB15a := Hd hb15
        have HCDa := Hd hcd
        clear hb16 hvx hao hb15 hcd HX1 HX2 HC4 HAO4 HB154 HCD4 HB160 HAO HB15 HCD hxl hxo HC2
        obtain ⟨xk, xb, xi, xf, xt, xkv, xlv, rfl⟩ := HVX0.out.seven
        have HKX := Hd HVX0.out.kindQ
        have bx := HB16.out.cells
        go_wp2_with (first | (with_reducible refine wpList_loadAgg rfl agg26 rfl rfl bx rfl ?_))
        refine (isTable_any _ _ _ _ _ _ _ _).mono ?_
        rintro e w6 ⟨rfl, hc6⟩
        have HAO := Hd (HAOa.out.step hc6)
        have HB15 := Hd (HB15a.out.chg hc6 id)
        have HB16 := Hd (HB16.out.chg hc6 id)
        have HCD := Hd (HCDa.out.chg hc6 (fun _ _ e => e))
        have HVX1 := Hd (HVX0.out.chg hc6 (fun _ _ e => e))
        clear bx hc6 HAOa HB15a HCDa HVX0
        by_cases hx7 : xk = 7
        ·subst hx7
         obtain ⟨x, hx⟩ := isT_table (HKX.out.2.1 rfl)
         have HTA := Hd (tabAt_atT hx)
         have hvx := HVX1.out
         rw [hx] at hvx
         have HVX := Hd hvx
         have WX := Hd ((WO.out.max (e := 3)).tabAt (d := F + 1) HTA.out)
         have WO2 := Hd (WO.out.max (e := 2))
         have WG := Hd (WU.globals (d := F) hgU WX.out WO2.out)
         have HAD := Hd (allD_at (m := m) HDDA.out O)
         clear hvx hx HVX1
         go_upto_region 24 with fail
         obtain ⟨wx, hwx⟩ : ∃ wx, wx = w6 := ⟨_, rfl⟩
         obtain ⟨xc, hxc⟩ : ∃ xc, xc = cells7 7 xb xi xf xt xkv xlv := ⟨_, rfl⟩
         obtain ⟨oc, hoc⟩ : ∃ oc, oc = cells7 7 ob oi of ot okv olv := ⟨_, rfl⟩
         rw [← hwx, ← hxc] at HB16 HVX
         rw [← hwx, ← hoc] at HAO
         rw [← hwx] at HB15 HCD ⊢
         have HOC := Hd hoc
         clear hwx hxc hoc
         refine wp_region_ghost (fun γ => FI [.eq (.agg (cells11 rn rv rk rb ri rf rt rkv rlv rdv rwv).toArray), .eq (.agg xc.toArray), .eq (.agg oc.toArray), .val (okBox (okL ok w (g + 3)) wx.heap.size γ) (.table (globals x O)), .eq (.bool m), .tupB (okBox (okL ok w (g + 3)) wx.heap.size γ) (resJ (allV m dd (globals x O))) (allV m dd (globals x O)).isSome, .tupB (okBox (okL ok w (g + 3)) wx.heap.size γ) (resJ (allV m dd (globals x O))) (allV m dd (globals x O)).isSome, .val (okBox (okL ok w (g + 3)) wx.heap.size γ) (resJ (allV m dd (globals x O))), .eq (.bool (allV m dd (globals x O)).isSome), .box γ, .any, .eq (.bool (allV m dd (globals x O)).isSome)])
          (fun γ done w' => GH (okL ok w (g + 3)) wx 9 10 (resJ (allV m dd (globals x O))) γ done w') (by kernel_rfl) (by kernel_rfl) none (GH.start _ _ _ _ _) ?_ ?_
         ·refine ⟨?_, ?_, ?_, ?_, ?_, ?_, ?_, ?_, ?_, ?_, ?_, ?_, trivial⟩
          ·intro γ done a w1 K hd qd qe qf qb hG hK
           have e15 : a.tmps[15]?.getD undef = .pointer (some ⟨g15, 0, none⟩) := qf 15 rfl
           refine if_wanted rfl ?_
           refine wp_loadAgg agg30 rfl (by simpa [Act.eval] using e15) (HB15.out.chg hG.chg id).cells rfl ?_
           exact hK _ _ _ rfl (hG.other (by decide) (by decide) (Chg.refl _ _)) (fun _ _ _ _ h => h)
          ·intro γ done a w1 K hd qd qe qf qb hG hK
           have e16 : a.tmps[16]?.getD undef = .pointer (some ⟨g16, 0, none⟩) := qf 16 rfl
           refine if_wanted rfl ?_
           refine wp_loadAgg agg26 rfl (by simpa [Act.eval] using e16) (HB16.out.chg hG.chg id).cells HVX.out.length ?_
           exact hK _ _ _ rfl (hG.other (by decide) (by decide) (Chg.refl _ _)) (fun _ _ _ _ h => h)
          ·intro γ done a w1 K hd qd qe qf qb hG hK
           have e8 : a.tmps[8]?.getD undef = .pointer (some ⟨g + 3, 0, none⟩) := qf 8 rfl
           refine if_wanted rfl ?_
           refine wp_loadAgg agg26 rfl (by simpa [Act.eval] using e8) (HAO.out.b3.chg hG.chg id).cells HAO.out.val.length ?_
           exact hK _ _ _ rfl (hG.other (by decide) (by decide) (Chg.refl _ _)) (fun _ _ _ _ h => h)
          ·intro γ done a w1 K hd qd qe qf qb hG hK
           have e107 : a.tmps[107]?.getD undef = .agg xc.toArray := qe 1 107 rfl (qb 1 rfl)
           have e108 : a.tmps[108]?.getD undef = .agg oc.toArray := qe 2 108 rfl (qb 2 rfl)
           refine if_wanted rfl ?_
           have hcall := spGlobals_any U N hUl F (okBox (okL ok w (g + 3)) wx.heap.size γ) x O xc oc w1 ((HVX.out.bel.chg hG.chg (fun _ _ e => e)).mono (fun b _ h => .inl h)) ((HAO.out.val.bel.chg hG.chg (fun _ _ e => e)).mono (fun b _ h => .inl h)) WX.out WO2.out
           refine wp_callV Tryz.call55 rfl (by simpa [Act.eval] using e107) (by simpa [Act.eval] using e108) hcall ?_
           rintro e w2 ⟨cs, rfl, hj, hc⟩
           exact ⟨_, rfl, hK γ _ _ ⟨cs, rfl, hj.mono (fun b _ hb => hb.elim id (fun h => hG.fresh h))⟩ (hG.other (by decide) (by decide) hc) (fun _ _ _ _ h => h.keepNo hc)⟩
          ·intro γ done a w1 K hd qd qe qf qb hG hK
           have e2 : a.tmps[2]?.getD undef = .bool m := qf 2 rfl
           clear qd qe qf qb
           go_simp
           exact hK _ _ _ rfl (hG.other (by decide) (by decide) (Chg.refl _ _)) (fun _ _ _ _ h => h)
          ·intro γ done a w1 K hd qd qe qf qb hG hK
           have e106 : a.tmps[106]?.getD undef = .agg (cells11 rn rv rk rb ri rf rt rkv rlv rdv rwv).toArray := qe 0 106 rfl (qb 0 rfl)
           obtain ⟨c1, e109, hv1⟩ := qe 3 109 rfl (qb 3 rfl)
           have e110 : a.tmps[110]?.getD undef = .bool m := qe 4 110 rfl (qb 4 rfl)
           refine if_wanted rfl ?_
           have hcall := IH.out dd HDD.out (F + 2) (okBox (okL ok w (g + 3)) wx.heap.size γ) (cells11 rn rv rk rb ri rf rt rkv rlv rdv rwv) (.table (globals x O)) c1 (globals x O) w1 ((HCD.out.bel.chg hG.chg (fun _ _ e => e)).mono (fun b _ h => .inl ⟨.inl h.1, h.2⟩)) hv1 (.inr rfl) WG.out
           refine wp_callV3 Tryz.call16 rfl (by simpa [Act.eval] using e106) (by simpa [Act.eval] using e109) (by simpa [Act.eval] using e110) hcall ?_
           rintro e w2 ⟨cs, rfl, hj, hc⟩
           exact ⟨_, rfl, hK γ _ _ ⟨cs, rfl, hj.mono (fun b _ hb => hb.elim id (fun h => hG.fresh h))⟩ (hG.other (by decide) (by decide) hc) (fun _ _ _ _ h => h.keepNo hc)⟩
          ·intro γ done a w1 K hd qd qe qf qb hG hK
           obtain ⟨c1, e111, hv1⟩ := qe 5 111 rfl (qb 5 rfl)
           have HV1 := Hd hv1
           clear hv1
           clear qd qe qf qb
           go_simp
           exact hK _ _ _ ⟨c1, rfl, HV1.out⟩ (hG.other (by decide) (by decide) (Chg.refl _ _)) (fun _ _ _ _ h => h)
          ·intro γ done a w1 K hd qd qe qf qb hG hK
           obtain ⟨c1, e105, hv1⟩ := qe 6 105 rfl (qb 6 rfl)
           have HV1 := Hd hv1
           clear hv1
           clear qd qe qf qb
           go_simp
           exact hK _ _ _ ⟨c1, rfl, HV1.out⟩ (hG.other (by decide) (by decide) (Chg.refl _ _)) (fun _ _ _ _ h => h)
          ·intro γ done a w1 K hd qd qe qf qb hG hK
           obtain ⟨c1, e105, hv1⟩ := qe 6 105 rfl (qb 6 rfl)
           clear hv1
           clear qd qe qf qb
           go_simp
           exact hK _ _ _ rfl (hG.other (by decide) (by decide) (Chg.refl _ _)) (fun _ _ _ _ h => h)
          ·intro γ done a w1 K hd qd qe qf qb hG hK
           have n10 : done 10 = false := by
            cases hh0 : done 10 with
            | false => rfl
            | true => have := qd 10 9 rfl hh0; rw [hd] at this; cases this
           have hγ := hG.noBox hd
           subst hγ
           have HLAY := Hd (hG.lay (by decide) n10)
           clear qd qe qf qb
           clear n10
           go_simp
           refine hK (some w1.heap.size) _ _ ⟨_, rfl, rfl⟩ HLAY.out ?_
           refine fun j hj hdj u hu => ?_
           match j, hj with
           | 0, _ => exact hu
           | 1, _ => exact hu
           | 2, _ => exact hu
           | 3, _ => obtain ⟨c, h1, h2⟩ := hu; exact ⟨c, h1, (h2.mono (fun b hb h => okBox_lay hb h)).chg ((Chg.refl No w1).alloc _) (fun _ _ e => e)⟩
           | 4, _ => exact hu
           | 5, _ => obtain ⟨c, h1, h2⟩ := hu; exact ⟨c, h1, (h2.mono (fun b hb h => okBox_lay hb h)).chg ((Chg.refl No w1).alloc _) (fun _ _ e => e)⟩
           | 6, _ => obtain ⟨c, h1, h2⟩ := hu; exact ⟨c, h1, (h2.mono (fun b hb h => okBox_lay hb h)).chg ((Chg.refl No w1).alloc _) (fun _ _ e => e)⟩
           | 7, _ => obtain ⟨c, h1, h2⟩ := hu; exact ⟨c, h1, (h2.mono (fun b hb h => okBox_lay hb h)).chg ((Chg.refl No w1).alloc _) (fun _ _ e => e)⟩
           | 8, _ => exact hu
           | 9, hj => exact absurd rfl hj
           | 10, _ => exact hu
           | 11, _ => exact hu
           | j + 12, _ => exact hu
          ·intro γ done a w1 K hd qd qe qf qb hG hK
           obtain ⟨t, rfl, e18⟩ := qe 9 18 rfl (qb 9 rfl)
           obtain ⟨c2, e112, hv2⟩ := qe 7 112 rfl (qb 7 rfl)
           obtain ⟨htB, c', hb, hcl', -⟩ := hG.box t rfl
           refine if_wanted rfl ?_
           refine wp_storeBlk agg26 rfl (by simpa [Act.eval] using e18) (by simpa [Act.eval] using e112) hb hcl' hv2.length hv2.one ?_
           intro w2 hb2 hC hs2
           refine hK (some t) undef _ trivial (hG.put (by decide) hC hb2 hv2) ?_
           refine fun j hj _ u hu => hu.keep hC (safe_of (i := 10) (fun j hl hj => ?_) j hj)
           match j, hj with
           | 0, _ => exact trivial
           | 1, _ => exact trivial
           | 2, _ => exact trivial
           | 3, _ => exact fun b hb e => okBox_not htB hb e
           | 4, _ => exact trivial
           | 5, _ => exact fun b hb e => okBox_not htB hb e
           | 6, _ => exact fun b hb e => okBox_not htB hb e
           | 7, _ => exact fun b hb e => okBox_not htB hb e
           | 8, _ => exact trivial
           | 9, _ => exact trivial
           | 10, hj => exact absurd rfl hj
           | 11, _ => exact trivial
           | j + 12, _ => exact absurd hl (by simp)
          ·intro γ done a w1 K hd qd qe qf qb hG hK
           have e113 : a.tmps[113]?.getD undef = .bool (allV m dd (globals x O)).isSome := qe 8 113 rfl (qb 8 rfl)
           clear qd qe qf qb
           go_simp
           exact hK _ _ _ rfl (hG.other (by decide) (by decide) (Chg.refl _ _)) (fun _ _ _ _ h => h)
         ·intro γ vs w2 hvs hvn hG
          obtain ⟨g18, hγ, e9⟩ : ∃ t, γ = some t /\ vs 9 = .pointer (some ⟨t, 0, none⟩) := hvs 9 _ rfl (by decide)
          have e11 : vs 11 = .bool (allV m dd (globals x O)).isSome := hvs 11 _ rfl (by decide)
          subst hγ
          obtain ⟨htB, c18, hb18, hl18, hv18⟩ := hG.box g18 rfl
          have HB18 := Hd hb18
          have HV18 := Hd (hv18 rfl)
          have HCG := Hd hG.chg
          have H18 := Hd htB
          clear hb18 hv18 hG hvs hvn htB
          simp only [putAll, Act.put, List.setIfInBounds_toArray, List.set_cons_succ, List.set_cons_zero, e9, e11]
          clear e9 e11
          have hbk0 := build26_0
          cases hy : allV m dd (globals x O) with
          | none =>
           have hnone : allV m c v = none := by rw [← HAL.out, HAD.out, HNM.out, HTA.out]; simp only [hy]
           have HNONE := Hd hnone
           have b2 := HAO.out.b2.chg HCG.out id
           have HCA := Hd (HAO.out.chg.trans' HCG.out)
           clear hnone hy
           go_wp2_with (first | (refine wpList_storeBlk rfl agg26 rfl rfl rfl b2 rfl rfl rfl ?_; intro w9 hb9 hc9 hs9))
           refine bodyPost_ret (results_blk_tmp rfl agg26 rfl hb9 rfl) rfl ?_
           rw [HNONE.out]
           exact ⟨zero7, rfl, .null (rowNil _ _ _) (rowNil _ _ _), HCA.out.trans hc9 (fun i hi e => by have := HG.out; omega)⟩
          | some y =>
           have hv18 := HV18.out
           rw [hy] at hv18
           have HVY := Hd (show ValJ (okL ok w (g + 3)) w2 c18 (.table y) from hv18.mono (fun b _ h => h.elim (fun h => h.1) (fun h => .inr (by have := h.1; have := HAO.out.b3.lt; omega))))
           have hal : allD m (c.deps.drop (n + 1)) (ins O rn (.table y)) = allV m c v := by rw [← HAL.out, HAD.out, HNM.out, HTA.out]; simp only [hy]
           have HAL2 := Hd hal
           obtain ⟨E2, hE2⟩ := allV_wu hgU m h dd _ _ _ HDD.out WG.out hy
           have HWN := Hd (show ∃ F', WU U N F' (.table (ins O rn (.table y))) from ⟨F + E2 + 1, WU.ins (WO.out.mono (fun _ h => h) (Nat.le_refl _) (by omega)) (by
            have h1 := HDD.out
            cases h with
            | zero => exact h1.elim
            | succ h => rw [← HNM.out]; exact h1.2.1) (hE2.mono (fun _ h => h) (Nat.le_refl _) (by omega))⟩)
           have HAO2 := Hd (HAO.out.step HCG.out)
           have bm := HAO2.out.b3.cells
           have hom := HAO2.out.val.length
           have b18 := HB18.out.cells
           have k0 : w2.cell? ⟨g15, 0, none⟩ = some (.string rn) := (HB15.out.chg HCG.out id).cell 0
           clear hv18 hal hE2 hy
           go_wp2_with (first | (with_reducible refine wpList_loadAgg rfl agg26 rfl rfl bm hom ?_) | (with_reducible refine wpList_loadAgg rfl agg26 rfl rfl b18 hl18 ?_))
           rw [HOC.out]
           refine (with_any (okL ok w (g + 3)) O rn (.table y) ob oi of ot okv olv c18 w2 (by rw [← HOC.out]; exact HAO2.out.val) HVY.out HOS.out HOL.out).mono ?_
           rintro e w20 ⟨c2, rfl, hv2, hc2⟩
           have hbm := HAO2.out.b3.chg hc2 id
           have hl2 := hv2.length
           have ho2 := hv2.one
           have HV2 := Hd (hv2.mono (ok' := okL ok w (g + 3)) (fun b _ hb => hb.elim id (fun h => .inr (by have h2 := HAO2.out.b3.lt; omega))))
           have HAO3 := Hd (HAO2.out.step hc2)
           clear hv2 hc2 bm b18 k0
           go_wp2_with (first | (with_reducible refine wpList_storeBlk rfl agg26 rfl rfl rfl hbm hom hl2 ho2 ?_; intro w21 hb3' hc3 hs3))
           have HAO4 := Hd (HAO3.out.fill (Nat.le_of_eq HG.out.symm) hc3 hb3' (HV2.out.chg hc3 (fun b hb e => NOTG.out (e ▸ hb))))
           clear hb3' hc3 hs3 hbm
           go_roundw
           case rel => first | exact ⟨n + 1, _, c2, by go_num, by omega, HAO4.out, HAL2.out, HWN.out⟩ | ((repeat apply Exists.intro); exact ⟨⟨n + 1, _, c2, by go_num, by omega, HAO4.out, HAL2.out, HWN.out⟩, rfl⟩)
           case measure => simp [intOf]; omega
        ·have hx7b : (xk == 7) = false := by simpa using hx7
         have HTA := Hd (tabAt_atT_none (a := O) (k := rn) (by cases h : isT (atT O rn) <;> first | rfl | exact absurd (HKX.out.2.2.2 h) hx7))
         have b2 := HAO.out.b2
         have hz := build26_0
         clear hx7
         go_wp2_with (first | (refine wpList_storeBlk rfl agg26 rfl rfl rfl b2 rfl rfl rfl ?_; intro w9 hb9 hc9 hs9))
         refine bodyPost_ret (results_blk_tmp rfl agg26 rfl hb9 rfl) rfl ?_
         have hnone : allV m c v = none := by rw [← HAL.out, allD_at HDDA.out, HNM.out, HTA.out]
         rw [hnone]
         exact ⟨zero7, rfl, .null (rowNil _ _ _) (rowNil _ _ _), HAO.out.chg.trans hc9 (fun i hi e => by have := HG.out; omega)⟩
      ·have hnl : n = drows.length := Nat.le_antisymm hnd (Nat.not_lt.1 hlt)
       subst hnl
       have hlen : ¬ ((drows.length : Nat) : Int) < (drows.length : Int) := by omega
       have hsome : allV m c v = some O := by rw [← HAL.out, List.drop_of_length_le (by rw [← HDN.out]; exact Nat.le_refl _), allD]
       have HSOME := Hd hsome
       have b3 := HAOm.out.b3.cells
       have b2 := HAOm.out.b2
       have hol := HAOm.out.val.length
       have hoo := HAOm.out.val.one
       clear hsome
       go_wp2_with (first | (with_reducible refine wpList_loadAgg rfl agg26 rfl rfl b3 hol ?_) | (with_reducible refine wpList_storeBlk rfl agg26 rfl rfl rfl b2 rfl hol hoo ?_; intro w9 hb9 hc9 hs9))
       refine bodyPost_ret (results_blk_tmp rfl agg26 rfl hb9 hol) rfl ?_
       rw [HSOME.out]
       exact ⟨oc, rfl, ((HAOm.out.val.chg hc9 (fun b hb e => by rcases hb with hb | hb <;> (have := HG.out; omega))).mono (fun b _ hb => hb.imp (fun h => h.1) (fun h => by have := HG.out; omega))), HAOm.out.chg.trans hc9 (fun i hi e => by have := HG.out; omega)⟩
@[reducible] def txtC (s : K) : List Value := cells7 5 false 0 0 s (.slice none 0 0) (.slice none 0 0)
@[reducible] def boolC (b : Bool) : List Value := cells7 1 b 0 0 ⟨#[]⟩ (.slice none 0 0) (.slice none 0 0)
@[reducible] def intC (i : Int) : List Value := cells7 2 false i 0 ⟨#[]⟩ (.slice none 0 0) (.slice none 0 0)
theorem txt_val (ok : Nat -> Prop) (w : World) (s : K) : ValJ ok w (txtC s) (.text s) := .text (rowNil _ _ _) (rowNil _ _ _)
theorem bool_val (ok : Nat -> Prop) (w : World) (b : Bool) : ValJ ok w (boolC b) (.bool b) := .bool (rowNil _ _ _) (rowNil _ _ _)
theorem int_val (ok : Nat -> Prop) (w : World) (i : Int) : ValJ ok w (intC i) (.int i) := .int (rowNil _ _ _) (rowNil _ _ _)
theorem moText_any (s : K) (w : World) : Calls Tryz.prog 67 #[.string s] w fun e w' => e = .returned (.agg (txtC s).toArray) /\ Chg No w w' := by
 have hb := Blk.new w zero7 26
 go_enter Tryz.func67, Tryz.ntmps67
 go_wp2
 exact bodyPost_ret (results_blk rfl agg26 rfl (Blk.new w (txtC s) 26) rfl) rfl ⟨rfl, (Chg.refl _ _).alloc _⟩
theorem moBool_any (b : Bool) (w : World) : Calls Tryz.prog 68 #[.bool b] w fun e w' => e = .returned (.agg (boolC b).toArray) /\ Chg No w w' := by
 go_enter Tryz.func68, Tryz.ntmps68
 go_wp2
 exact bodyPost_ret (results_blk rfl agg26 rfl (Blk.new w (boolC b) 26) rfl) rfl ⟨rfl, (Chg.refl _ _).alloc _⟩
theorem moTable_any (ka : Option Addr) (kn kc : Nat) (la : Option Addr) (ln lc : Nat) (w : World) : Calls Tryz.prog 66 #[.slice ka kn kc, .slice la ln lc] w fun e w' => e = .returned (.agg (cells7 7 false 0 0 ⟨#[]⟩ (.slice ka kn kc) (.slice la ln lc)).toArray) /\ Chg No w w' := by
 go_enter Tryz.func66, Tryz.ntmps66
 go_wp2
 exact bodyPost_ret (results_blk rfl agg26 rfl (Blk.new w (cells7 7 false 0 0 ⟨#[]⟩ (.slice ka kn kc) (.slice la ln lc)) 26) rfl) rfl ⟨rfl, (Chg.refl _ _).alloc _⟩
def Fact.rowOk (ok : Nat -> Prop) (size : Nat) (rows : List (List Value)) : Fact :=
 ⟨fun v w => RowAt ok w v size rows, fun S _ => ∀ b, ok b -> ¬ S b, fun S v w w' h hc hs => h.chg hc hs, fun _ _ _ e => e⟩
theorem RowAt.rows7 (w : World) (rows : List (List Value)) (h7 : ∀ r ∈ rows, r.length = 7) (hl : rows.length ≤ maxLen) : RowAt (fun b => b = w.heap.size) (w.alloc (.cells rows.flatten.toArray 26)) (.slice (some ⟨w.heap.size, 0, none⟩) rows.length rows.length) 7 rows :=
 RowAt.ofBlk (pad := []) (by rw [List.append_nil]; exact Blk.new w _ 26) h7 hl
theorem RowAt.strs (w : World) (ks : List K) (hl : ks.length ≤ maxLen) : RowAt (fun b => b = w.heap.size) (w.alloc (.cells (kRows ks).flatten.toArray 9)) (.slice (some ⟨w.heap.size, 0, none⟩) ks.length ks.length) 1 (kRows ks) := by
 have h := RowAt.ofBlk (pad := []) (cap := ks.length) (size := 1) (rows := kRows ks) (w := w.alloc (.cells (kRows ks).flatten.toArray 9)) (by rw [List.append_nil]; exact Blk.new w _ 9) (by intro r hr; simp only [kRows, List.mem_map] at hr; obtain ⟨q, -, rfl⟩ := hr; rfl) (by simpa [kRows] using hl)
 simpa [kRows] using h
theorem run_b23_2 (w : World) : (Instr.buildSlice 23 2 #[(0, .string nameK), (1, .string verK)]).run Tryz.prog w = .ok (.slice (some ⟨w.heap.size, 0, none⟩) 2 2) (w.alloc (.cells (kRows [nameK, verK]).flatten.toArray 9)) := by kernel_rfl
theorem run_b23_6 (w : World) : (Instr.buildSlice 23 6 #[(0, .string insK), (1, .string upK), (2, .string nameK), (3, .string nsK), (4, .string revK), (5, .string svcK)]).run Tryz.prog w = .ok (.slice (some ⟨w.heap.size, 0, none⟩) 6 6) (w.alloc (.cells (kRows [insK, upK, nameK, nsK, revK, svcK]).flatten.toArray 9)) := by kernel_rfl
theorem run_b23_3 (w : World) : (Instr.buildSlice 23 3 #[(0, .string chartK), (1, .string relK), (2, .string valsK)]).run Tryz.prog w = .ok (.slice (some ⟨w.heap.size, 0, none⟩) 3 3) (w.alloc (.cells (kRows [chartK, relK, valsK]).flatten.toArray 9)) := by kernel_rfl
theorem run_b24_md (n v : K) (w : World) : (Instr.buildSlice 24 2 #[(0, .agg (txtC n).toArray), (1, .agg (txtC v).toArray)]).run Tryz.prog w = .ok (.slice (some ⟨w.heap.size, 0, none⟩) 2 2) (w.alloc (.cells [txtC n, txtC v].flatten.toArray 26)) := by kernel_rfl
theorem run_b24_rel (nm ns : K) (rev : Int) (up ins : Bool) (w : World) : (Instr.buildSlice 24 6 #[(0, .agg (boolC ins).toArray), (1, .agg (boolC up).toArray), (2, .agg (txtC nm).toArray), (3, .agg (txtC ns).toArray), (4, .agg (intC rev).toArray), (5, .agg (txtC helmK).toArray)]).run Tryz.prog w =
  .ok (.slice (some ⟨w.heap.size, 0, none⟩) 6 6) (w.alloc (.cells [boolC ins, boolC up, txtC nm, txtC ns, intC rev, txtC helmK].flatten.toArray 26)) := by kernel_rfl
theorem run_b24_3 (ca cb cc : List Value) (ha : ca.length = 7) (hb : cb.length = 7) (hc : cc.length = 7) (w : World) : (Instr.buildSlice 24 3 #[(0, .agg ca.toArray), (1, .agg cb.toArray), (2, .agg cc.toArray)]).run Tryz.prog w = .ok (.slice (some ⟨w.heap.size, 0, none⟩) 3 3) (w.alloc (.cells [ca, cb, cc].flatten.toArray 26)) := by
 obtain ⟨a1, a2, a3, a4, a5, a6, a7, rfl⟩ : ∃ a b c d e f g, ca = [a, b, c, d, e, f, g] := by
  match ca, ha with
  | [a, b, c, d, e, f, g], _ => exact ⟨a, b, c, d, e, f, g, rfl⟩
 obtain ⟨b1, b2, b3, b4, b5, b6, b7, rfl⟩ : ∃ a b c d e f g, cb = [a, b, c, d, e, f, g] := by
  match cb, hb with
  | [a, b, c, d, e, f, g], _ => exact ⟨a, b, c, d, e, f, g, rfl⟩
 obtain ⟨c1, c2, c3, c4, c5, c6, c7, rfl⟩ : ∃ a b c d e f g, cc = [a, b, c, d, e, f, g] := by
  match cc, hc with
  | [a, b, c, d, e, f, g], _ => exact ⟨a, b, c, d, e, f, g, rfl⟩
 clear ha hb hc
 kernel_rfl
section
variable {o : Oper} {a : Act} {w : World} {K' : Act -> World -> Prop} {Q : Exit -> Act -> World -> Prop}
theorem wp_build23_2 (ho : o.op = .buildSlice 23 2 #[(0, .const (.string nameK)), (1, .const (.string verK))]) (h : K' (a.put o.dst (.slice (some ⟨w.heap.size, 0, none⟩) 2 2)) (w.alloc (.cells (kRows [nameK, verK]).flatten.toArray 9))) : o.wp Tryz.prog a w K' Q := by
 have h3 := run_b23_2 w
 unfold Oper.wp
 simp only [execOp, ho, List.map_toArray, List.map_cons, List.map_nil, Act.eval, Sem.run_bind, h3, Result.andThen_ok]
 exact h
theorem wp_build23_6 (ho : o.op = .buildSlice 23 6 #[(0, .const (.string insK)), (1, .const (.string upK)), (2, .const (.string nameK)), (3, .const (.string nsK)), (4, .const (.string revK)), (5, .const (.string svcK))]) (h : K' (a.put o.dst (.slice (some ⟨w.heap.size, 0, none⟩) 6 6)) (w.alloc (.cells (kRows [insK, upK, nameK, nsK, revK, svcK]).flatten.toArray 9))) : o.wp Tryz.prog a w K' Q := by
 have h3 := run_b23_6 w
 unfold Oper.wp
 simp only [execOp, ho, List.map_toArray, List.map_cons, List.map_nil, Act.eval, Sem.run_bind, h3, Result.andThen_ok]
 exact h
theorem wp_build23_3 (ho : o.op = .buildSlice 23 3 #[(0, .const (.string chartK)), (1, .const (.string relK)), (2, .const (.string valsK))]) (h : K' (a.put o.dst (.slice (some ⟨w.heap.size, 0, none⟩) 3 3)) (w.alloc (.cells (kRows [chartK, relK, valsK]).flatten.toArray 9))) : o.wp Tryz.prog a w K' Q := by
 have h3 := run_b23_3 w
 unfold Oper.wp
 simp only [execOp, ho, List.map_toArray, List.map_cons, List.map_nil, Act.eval, Sem.run_bind, h3, Result.andThen_ok]
 exact h
theorem wp_build24_md {x y : Operand} (ho : o.op = .buildSlice 24 2 #[(0, x), (1, y)]) {n v : K} (hx : a.eval x = .agg (txtC n).toArray) (hy : a.eval y = .agg (txtC v).toArray) (h : K' (a.put o.dst (.slice (some ⟨w.heap.size, 0, none⟩) 2 2)) (w.alloc (.cells [txtC n, txtC v].flatten.toArray 26))) : o.wp Tryz.prog a w K' Q := by
 have h3 := run_b24_md n v w
 unfold Oper.wp
 simp only [execOp, ho, List.map_toArray, List.map_cons, List.map_nil, hx, hy, Sem.run_bind, h3, Result.andThen_ok]
 exact h
theorem wp_build24_rel {x1 x2 x3 x4 x5 x6 : Operand} (ho : o.op = .buildSlice 24 6 #[(0, x1), (1, x2), (2, x3), (3, x4), (4, x5), (5, x6)]) {nm ns : K} {rev : Int} {up ins : Bool} (h1 : a.eval x1 = .agg (boolC ins).toArray) (h2 : a.eval x2 = .agg (boolC up).toArray) (h3 : a.eval x3 = .agg (txtC nm).toArray) (h4 : a.eval x4 = .agg (txtC ns).toArray) (h5 : a.eval x5 = .agg (intC rev).toArray) (h6 : a.eval x6 = .agg (txtC helmK).toArray)
  (h : K' (a.put o.dst (.slice (some ⟨w.heap.size, 0, none⟩) 6 6)) (w.alloc (.cells [boolC ins, boolC up, txtC nm, txtC ns, intC rev, txtC helmK].flatten.toArray 26))) : o.wp Tryz.prog a w K' Q := by
 have hr := run_b24_rel nm ns rev up ins w
 unfold Oper.wp
 simp only [execOp, ho, List.map_toArray, List.map_cons, List.map_nil, h1, h2, h3, h4, h5, h6, Sem.run_bind, hr, Result.andThen_ok]
 exact h
theorem wp_build24_3 {x1 x2 x3 : Operand} (ho : o.op = .buildSlice 24 3 #[(0, x1), (1, x2), (2, x3)]) {ca cb cc : List Value} (h1 : a.eval x1 = .agg ca.toArray) (h2 : a.eval x2 = .agg cb.toArray) (h3 : a.eval x3 = .agg cc.toArray) (ha : ca.length = 7) (hb : cb.length = 7) (hc : cc.length = 7)
  (h : K' (a.put o.dst (.slice (some ⟨w.heap.size, 0, none⟩) 3 3)) (w.alloc (.cells [ca, cb, cc].flatten.toArray 26))) : o.wp Tryz.prog a w K' Q := by
 have hr := run_b24_3 ca cb cc ha hb hc w
 unfold Oper.wp
 simp only [execOp, ho, List.map_toArray, List.map_cons, List.map_nil, h1, h2, h3, Sem.run_bind, hr, Result.andThen_ok]
 exact h
end
section
variable {ops : Array Oper} {rest : List Oper} {o : Oper} {a : Act} {w : World} {Q : Exit -> Act -> World -> Prop}
theorem wpList_build23_3 (hg : o.guard = none) (ho : o.op = .buildSlice 23 3 #[(0, .const (.string chartK)), (1, .const (.string relK)), (2, .const (.string valsK))]) (h : wpList Tryz.prog ops Q rest (a.put o.dst (.slice (some ⟨w.heap.size, 0, none⟩) 3 3)) (w.alloc (.cells (kRows [chartK, relK, valsK]).flatten.toArray 9))) : wpList Tryz.prog ops Q (o :: rest) a w :=
 wpList_plain hg fun _ hK => wp_build23_3 ho (hK _ _ h)
theorem wpList_build24_3 (hg : o.guard = none) {x1 x2 x3 : Operand} (ho : o.op = .buildSlice 24 3 #[(0, x1), (1, x2), (2, x3)]) {ca cb cc : List Value} (h1 : a.eval x1 = .agg ca.toArray) (h2 : a.eval x2 = .agg cb.toArray) (h3 : a.eval x3 = .agg cc.toArray) (ha : ca.length = 7) (hb : cb.length = 7) (hc : cc.length = 7)
  (h : wpList Tryz.prog ops Q rest (a.put o.dst (.slice (some ⟨w.heap.size, 0, none⟩) 3 3)) (w.alloc (.cells [ca, cb, cc].flatten.toArray 26))) : wpList Tryz.prog ops Q (o :: rest) a w :=
 wpList_plain hg fun _ hK => wp_build24_3 ho h1 h2 h3 ha hb hc (hK _ _ h)
end
theorem top_rows (name ver nm ns : K) (rev : Int) (up ins : Bool) (t : T) {ok : Nat -> Prop} {w : World} {ca cb cc : List Value} (ha : ValJ ok w ca (jT name ver)) (hb : ValJ ok w cb (.table (relT nm ns rev up ins))) (hc : ValJ ok w cc (.table t)) (n : Nat) (r : List Value) (p : K × J) (h1 : [ca, cb, cc][n]? = some r) (h2 : (topT name ver nm ns rev up ins t)[n]? = some p) : ValJ ok w r p.2 := by
 match n with
 | 0 => cases h1; cases h2; exact ha
 | 1 => cases h1; cases h2; exact hb
 | 2 => cases h1; cases h2; exact hc
 | n + 3 => simp at h1
theorem md_rows (name ver : K) {ok : Nat -> Prop} {w : World} (n : Nat) (r : List Value) (p : K × J) (h1 : [txtC name, txtC ver][n]? = some r) (h2 : (kvsT name ver)[n]? = some p) : ValJ ok w r p.2 := by
 match n with
 | 0 => cases h1; cases h2; exact txt_val _ _ _
 | 1 => cases h1; cases h2; exact txt_val _ _ _
 | n + 2 => simp at h1
theorem rel_rows (nm ns : K) (rev : Int) (up ins : Bool) {ok : Nat -> Prop} {w : World} (n : Nat) (r : List Value) (p : K × J) (h1 : [boolC ins, boolC up, txtC nm, txtC ns, intC rev, txtC helmK][n]? = some r) (h2 : (relT nm ns rev up ins)[n]? = some p) : ValJ ok w r p.2 := by
 match n with
 | 0 => cases h1; cases h2; exact bool_val _ _ _
 | 1 => cases h1; cases h2; exact bool_val _ _ _
 | 2 => cases h1; cases h2; exact txt_val _ _ _
 | 3 => cases h1; cases h2; exact txt_val _ _ _
 | 4 => cases h1; cases h2; exact int_val _ _ _
 | 5 => cases h1; cases h2; exact txt_val _ _ _
 | n + 6 => simp at h1
def WantRet (ok : Nat -> Prop) (w : World) (name ver nm ns : K) (rev : Int) (up ins : Bool) (r : Option T) (e : Ending) (w' : World) : Prop :=
 ∃ cs : List Value, e = .returned (.tuple #[.agg cs.toArray, .bool r.isSome]) /\ Chg No w w' /\ ValJ (fun b => ok b ∨ w.heap.size ≤ b) w' cs (match r with | none => .null | some t => .table (topT name ver nm ns rev up ins t))
theorem moRendered_any {ok0 : Nat -> Prop} {w0 : World} {cs0 vs0 : List Value} {c : Ch} {t : T} (G : Given ok0 w0 cs0 vs0 c t) (ok : Nat -> Prop) (cs vs : List Value) (nm ns : K) (rev : Int) (up ins : Bool) (w : World) (hc : ChJ ok w cs c) (hv : ValJ ok w vs (.table t)) :
  Calls Tryz.prog 29 #[.agg cs.toArray, .agg vs.toArray, .agg #[.string nm, .string ns, .int .i64 rev, .bool up, .bool ins]] w (WantRet (okB ok w) w c.name c.version nm ns rev up ins (allV false c t)) := by
 obtain ⟨hUN, hUk, hgU, hchw, hwu, hsh⟩ := given_in G
 obtain ⟨name, ver, k, b, i, f, tx, kv, lv, dv, wv, rfl, hnm, hvr, -, ⟨drows, hdr, -⟩, ⟨wrows, hwr, -⟩⟩ := hc.cells
 obtain ⟨vk, vb, vi, vf, vt, vkv, vlv, rfl⟩ := hv.seven
 subst hnm; subst hvr
 have hfacts : ∀ W, (((((w.alloc (.cells (cells11 c.name c.version k b i f tx kv lv dv wv).toArray 30)).alloc (.cells (cells7 vk vb vi vf vt vkv vlv).toArray 26)).alloc (.cells [.string nm, .string ns, .int .i64 rev, .bool up, .bool ins].toArray 55)).alloc (.cells zero7.toArray 26))) = W ->
   Blk W w.heap.size (cells11 c.name c.version k b i f tx kv lv dv wv) 30 /\ Blk W (w.heap.size + 1) (cells7 vk vb vi vf vt vkv vlv) 26 /\ Blk W (w.heap.size + 2) [.string nm, .string ns, .int .i64 rev, .bool up, .bool ins] 55 /\ Blk W (w.heap.size + 3) zero7 26 /\ Chg No w W := by
  rintro W rfl
  exact ⟨(((Blk.new _ _ _).alloc _).alloc _).alloc _, ((Blk.newAt (by simp) _ _).alloc _).alloc _, (Blk.newAt (by simp) _ _).alloc _, Blk.newAt (by simp) _ _, (((((Chg.refl No w).alloc _).alloc _).alloc _).alloc _)⟩
 have HF := Hd hfacts
 have HCJ := Hd hc
 have HVJ := Hd hv
 have HUU := Hd (And.intro hUN (And.intro hgU (And.intro hchw hwu)))
 clear hfacts hc hv G hUN hUk hgU hchw hwu hsh hdr hwr
 go_enter Tryz.func29, Tryz.ntmps29
 unfold cells11 cells7
 go_upto_region 1 with fail
 generalize hgw : World.alloc _ _ = W
 obtain ⟨b3, b4, b5, b6, c1⟩ := HF.out W hgw
 clear hgw HF
 obtain ⟨g, hg⟩ : ∃ g, g = w.heap.size := ⟨_, rfl⟩
 rw [← hg] at b3 b4 b5 b6 ⊢
 have HGE := Hd hg
 have HB3W := Hd b3
 have HB5W := Hd b5
 have HB6W := Hd b6
 have HC1 := Hd c1
 clear b5 b6 c1 hg
 have hl3 : (cells11 c.name c.version k b i f tx kv lv dv wv).length = 11 := rfl
 go_wp2_with (first | (with_reducible refine wpList_loadAgg rfl agg26 rfl rfl b4.cells rfl ?_) | (with_reducible refine wpList_loadAgg rfl agg30 rfl rfl b3.cells hl3 ?_))
 refine (allValues_any (keysG c t) 99999999999 (Nat.lt_of_le_of_lt HUU.out.1 (by decide)) HUU.out.2.1 false 50 6 c HUU.out.2.2.1 50 (okB ok w) _ (.table t) _ t W (HCJ.out.bel.chg HC1.out (fun _ _ e => e)) (HVJ.out.bel.chg HC1.out (fun _ _ e => e)) (.inr rfl) HUU.out.2.2.2).mono ?_
 rintro e w2 ⟨cs2, rfl, hj2, hc2⟩
 have HJ2 := Hd hj2
 have HC2 := Hd (HC1.out.trans' hc2)
 have HC22 := Hd hc2
 have hl2 := hj2.length
 have ho2 := hj2.one
 clear hj2 hc2 b3 b4 hl3
 cases hr : allV false c t with
 | none =>
  rw [hr] at HJ2
  have b62 := (HB6W.out.chg HC22.out id).alloc (.cells cs2.toArray 26)
  have HGL := Hd (show w.heap.size ≤ g + 3 by have := HGE.out; omega)
  go_wp2_with (first | (with_reducible refine wpList_storeNew rfl agg26 rfl rfl rfl rfl hl2 ho2 ?_) | (refine wpList_storeBlk (cs := cells7 0 false 0 0 ⟨#[]⟩ (.slice none 0 0) (.slice none 0 0)) rfl agg26 rfl rfl rfl b62 rfl rfl rfl ?_; intro w6 hb7 hc7 hs7))
  refine bodyPost_ret (results_blk_tmp rfl agg26 rfl hb7 rfl) rfl ⟨_, by rw [hr]; rfl, (HC2.out.alloc _).trans hc7 (fun x hx e => by have := HGL.out; omega), by rw [hr]; exact .null (rowNil _ _ _) (rowNil _ _ _)⟩
 | some tt =>
  rw [hr] at HJ2
  have hfacts : ∀ wx, w2.alloc (.cells cs2.toArray 26) = wx -> Blk wx g (cells11 c.name c.version k b i f tx kv lv dv wv) 30 /\ Blk wx (g + 2) [.string nm, .string ns, .int .i64 rev, .bool up, .bool ins] 55 /\ Blk wx (g + 3) zero7 26 /\ Blk wx w2.heap.size cs2 26 /\ Chg No w2 wx := by
   rintro wx rfl
   exact ⟨(HB3W.out.chg HC22.out id).alloc _, (HB5W.out.chg HC22.out id).alloc _, (HB6W.out.chg HC22.out id).alloc _, Blk.new _ _ _, (Chg.refl No w2).alloc _⟩
  have HF2 := Hd hfacts
  clear hfacts
  go_upto_region 4 with (first | (with_reducible refine wpList_storeNew rfl agg26 rfl rfl rfl rfl hl2 ho2 ?_))
  generalize hgw : World.alloc _ _ = wx
  obtain ⟨c3, c5, c6, c8, cc⟩ := HF2.out wx hgw
  clear hgw HF2
  obtain ⟨g8, hg8⟩ : ∃ g8, g8 = w2.heap.size := ⟨_, rfl⟩
  rw [← hg8] at c8 ⊢
  have HG8 := Hd (show g + 3 < g8 by have := HB6W.out.lt; have := HC22.out.size; omega)
  have HB3 := Hd c3
  have HB5X := Hd c5
  have HB6X := Hd c6
  have HB8X := Hd c8
  have HCX := Hd (HC2.out.trans' cc)
  have HJX := Hd (HJ2.out.chg cc (fun _ _ e => e))
  have HWX := Hd (show W.heap.size ≤ wx.heap.size from Nat.le_trans HC22.out.size cc.size)
  clear c3 c5 c6 c8 cc hg8
  refine wp_region_ghost (fun γ => FI [.rowOk (okBox (fun _ => False) wx.heap.size γ) 1 (kRows [nameK, verK]), .eq (.pointer (some ⟨g, 0, none⟩)), .eq (.string c.name), .eq (.agg (txtC c.name).toArray), .eq (.pointer (some ⟨g, 1, none⟩)), .eq (.string c.version), .eq (.agg (txtC c.version).toArray), .rowOk (okBox (fun _ => False) wx.heap.size γ) 7 [txtC c.name, txtC c.version], .val (okBox (fun _ => False) wx.heap.size γ) (.table (kvsT c.name c.version)), .box γ, .any])
   (fun γ done w' => GH (fun _ => False) wx 9 10 (.table (kvsT c.name c.version)) γ done w') (by kernel_rfl) (by kernel_rfl) none (GH.start _ _ _ _ _) ?_ ?_
  ·refine ⟨?_, ?_, ?_, ?_, ?_, ?_, ?_, ?_, ?_, ?_, ?_, trivial⟩
   ·intro γ done a w1 K hd qd qe qf qb hG hK
    refine if_wanted rfl ?_
    refine wp_build23_2 rfl ?_
    exact hK γ _ _ ((RowAt.strs w1 [nameK, verK] (by decide)).mono (fun b _ hb => hb ▸ hG.fresh (Nat.le_refl _)) (by decide)) (hG.other (by decide) (by decide) ((Chg.refl No w1).alloc _)) (fun _ _ _ _ h => h.keepNo ((Chg.refl No w1).alloc _))
   ·intro γ done a w1 K hd qd qe qf qb hG hK
    have e3 : a.tmps[3]?.getD undef = .pointer (some ⟨g, 0, none⟩) := qf 3 rfl
    clear qd qe qf qb
    go_simp
    exact hK _ _ _ rfl (hG.other (by decide) (by decide) (Chg.refl _ _)) (fun _ _ _ _ h => h)
   ·intro γ done a w1 K hd qd qe qf qb hG hK
    have e22 : a.tmps[22]?.getD undef = .pointer (some ⟨g, 0, none⟩) := qe 1 22 rfl (qb 1 rfl)
    have c0 : w1.cell? ⟨g, 0, none⟩ = some (.string c.name) := (HB3.out.chg hG.chg id).cell 0
    clear qd qe qf qb
    go_simp
    exact hK _ _ _ rfl (hG.other (by decide) (by decide) (Chg.refl _ _)) (fun _ _ _ _ h => h)
   ·intro γ done a w1 K hd qd qe qf qb hG hK
    have e23 : a.tmps[23]?.getD undef = .string c.name := qe 2 23 rfl (qb 2 rfl)
    refine if_wanted rfl ?_
    refine wp_callV1 Tryz.call67 rfl (by simpa [Act.eval] using e23) (moText_any _ w1) ?_
    rintro e w2 ⟨rfl, hc⟩
    exact ⟨_, rfl, hK γ _ _ rfl (hG.other (by decide) (by decide) hc) (fun _ _ _ _ h => h.keepNo hc)⟩
   ·intro γ done a w1 K hd qd qe qf qb hG hK
    have e3 : a.tmps[3]?.getD undef = .pointer (some ⟨g, 0, none⟩) := qf 3 rfl
    clear qd qe qf qb
    go_simp
    exact hK _ _ _ rfl (hG.other (by decide) (by decide) (Chg.refl _ _)) (fun _ _ _ _ h => h)
   ·intro γ done a w1 K hd qd qe qf qb hG hK
    have e25 : a.tmps[25]?.getD undef = .pointer (some ⟨g, 1, none⟩) := qe 4 25 rfl (qb 4 rfl)
    have c0 : w1.cell? ⟨g, 1, none⟩ = some (.string c.version) := (HB3.out.chg hG.chg id).cell 1
    clear qd qe qf qb
    go_simp
    exact hK _ _ _ rfl (hG.other (by decide) (by decide) (Chg.refl _ _)) (fun _ _ _ _ h => h)
   ·intro γ done a w1 K hd qd qe qf qb hG hK
    have e26 : a.tmps[26]?.getD undef = .string c.version := qe 5 26 rfl (qb 5 rfl)
    refine if_wanted rfl ?_
    refine wp_callV1 Tryz.call67 rfl (by simpa [Act.eval] using e26) (moText_any _ w1) ?_
    rintro e w2 ⟨rfl, hc⟩
    exact ⟨_, rfl, hK γ _ _ rfl (hG.other (by decide) (by decide) hc) (fun _ _ _ _ h => h.keepNo hc)⟩
   ·intro γ done a w1 K hd qd qe qf qb hG hK
    have e24 : a.tmps[24]?.getD undef = .agg (txtC c.name).toArray := qe 3 24 rfl (qb 3 rfl)
    have e27 : a.tmps[27]?.getD undef = .agg (txtC c.version).toArray := qe 6 27 rfl (qb 6 rfl)
    refine if_wanted rfl ?_
    refine wp_build24_md rfl (by simpa [Act.eval] using e24) (by simpa [Act.eval] using e27) ?_
    exact hK γ _ _ ((RowAt.rows7 w1 [txtC c.name, txtC c.version] (by simp [cells7]) (by simp [maxLen])).mono (fun b _ hb => hb ▸ hG.fresh (Nat.le_refl _)) (by decide)) (hG.other (by decide) (by decide) ((Chg.refl No w1).alloc _)) (fun _ _ _ _ h => h.keepNo ((Chg.refl No w1).alloc _))
   ·intro γ done a w1 K hd qd qe qf qb hG hK
    have hks : RowAt (okBox (fun _ => False) wx.heap.size γ) w1 (a.tmps[21]?.getD undef) 1 (kRows [nameK, verK]) := qe 0 21 rfl (qb 0 rfl)
    have hls : RowAt (okBox (fun _ => False) wx.heap.size γ) w1 (a.tmps[28]?.getD undef) 7 [txtC c.name, txtC c.version] := qe 7 28 rfl (qb 7 rfl)
    obtain ⟨ka, kn, kc, ek⟩ : ∃ ka kn kc, a.tmps[21]?.getD undef = .slice ka kn kc := by obtain ⟨-, -, ka, kc, e, -⟩ := hks; exact ⟨_, _, _, e⟩
    obtain ⟨la, ln, lc, el⟩ : ∃ la ln lc, a.tmps[28]?.getD undef = .slice la ln lc := by obtain ⟨-, -, ka, kc, e, -⟩ := hls; exact ⟨_, _, _, e⟩
    rw [ek] at hks
    rw [el] at hls
    refine if_wanted rfl ?_
    refine wp_callV Tryz.call66 rfl (by simpa [Act.eval] using ek) (by simpa [Act.eval] using el) (moTable_any ka kn kc la ln lc w1) ?_
    rintro e w2 ⟨rfl, hc⟩
    exact ⟨_, rfl, hK γ _ _ ⟨_, rfl, .table (hks.chg hc (fun _ _ e => e)) (hls.chg hc (fun _ _ e => e)) rfl (md_rows c.name c.version)⟩ (hG.other (by decide) (by decide) hc) (fun _ _ _ _ h => h.keepNo hc)⟩
   ·intro γ done a w1 K hd qd qe qf qb hG hK
    have n10 : done 10 = false := by
     cases hh0 : done 10 with
     | false => rfl
     | true => have := qd 10 9 rfl hh0; rw [hd] at this; cases this
    have hγ := hG.noBox hd
    subst hγ
    have HLAY := Hd (hG.lay (by decide) n10)
    clear qd qe qf qb
    clear n10
    go_simp
    refine hK (some w1.heap.size) _ _ ⟨_, rfl, rfl⟩ HLAY.out ?_
    refine fun j hj hdj u hu => ?_
    match j, hj with
    | 0, _ => exact (RowAt.mono hu (fun b hb h => okBox_lay hb h) (by decide)).chg ((Chg.refl No w1).alloc _) (fun _ _ e => e)
    | 1, _ => exact hu
    | 2, _ => exact hu
    | 3, _ => exact hu
    | 4, _ => exact hu
    | 5, _ => exact hu
    | 6, _ => exact hu
    | 7, _ => exact (RowAt.mono hu (fun b hb h => okBox_lay hb h) (by decide)).chg ((Chg.refl No w1).alloc _) (fun _ _ e => e)
    | 8, _ => obtain ⟨c, h1, h2⟩ := hu; exact ⟨c, h1, (h2.mono (fun b hb h => okBox_lay hb h)).chg ((Chg.refl No w1).alloc _) (fun _ _ e => e)⟩
    | 9, hj => exact absurd rfl hj
    | 10, _ => exact hu
    | j + 11, _ => exact hu
   ·intro γ done a w1 K hd qd qe qf qb hG hK
    obtain ⟨t, rfl, e10⟩ := qe 9 10 rfl (qb 9 rfl)
    obtain ⟨c2, e29, hv2⟩ := qe 8 29 rfl (qb 8 rfl)
    obtain ⟨htB, c', hb, hcl', -⟩ := hG.box t rfl
    refine if_wanted rfl ?_
    refine wp_storeBlk agg26 rfl (by simpa [Act.eval] using e10) (by simpa [Act.eval] using e29) hb hcl' hv2.length hv2.one ?_
    intro w2 hb2 hC hs2
    refine hK (some t) undef _ trivial (hG.put (by decide) hC hb2 hv2) ?_
    refine fun j hj _ u hu => hu.keep hC (safe_of (i := 10) (fun j hl hj => ?_) j hj)
    match j, hj with
    | 0, _ => exact fun b hb e => okBox_not htB hb e
    | 1, _ => exact trivial
    | 2, _ => exact trivial
    | 3, _ => exact trivial
    | 4, _ => exact trivial
    | 5, _ => exact trivial
    | 6, _ => exact trivial
    | 7, _ => exact fun b hb e => okBox_not htB hb e
    | 8, _ => exact fun b hb e => okBox_not htB hb e
    | 9, _ => exact trivial
    | 10, hj => exact absurd rfl hj
    | j + 11, _ => exact absurd hl (by simp)
  ·intro γ vs wy hvs hvn hG
   obtain ⟨g10, hγ, e10⟩ : ∃ t, γ = some t /\ vs 9 = .pointer (some ⟨t, 0, none⟩) := hvs 9 _ rfl (by decide)
   subst hγ
   obtain ⟨htB, cg10, hb10, hl10, hv10⟩ := hG.box g10 rfl
   have HBg10 := Hd hb10
   have HVg10 := Hd (hv10 rfl)
   have HCG := Hd hG.chg
   have Hg10 := Hd htB
   clear hb10 hv10 hG hvs hvn htB
   simp only [putAll, Act.put, List.setIfInBounds_toArray, List.set_cons_succ, List.set_cons_zero, e10]
   clear e10
   have HB5 := Hd (HB5X.out.chg HCG.out id)
   have HB6Y := Hd (HB6X.out.chg HCG.out id)
   have HB8Y := Hd (HB8X.out.chg HCG.out id)
   have HCY := Hd (HCX.out.trans' HCG.out)
   have HJY := Hd (HJX.out.chg HCG.out (fun _ _ e => e))
   have HCX0 := Hd HCG.out
   have HCW0 := Hd HCY.out
   clear HB5X HB6X HB8X HJX HCG HB3
   go_upto_region 5 with fail
   refine wp_region_ghost (fun γ => FI [.rowOk (okBox (fun _ => False) wy.heap.size γ) 1 (kRows [insK, upK, nameK, nsK, revK, svcK]), .eq (.pointer (some ⟨(g + 1 + 1), 4, none⟩)), .eq (.bool ins), .eq (.agg (boolC ins).toArray), .eq (.pointer (some ⟨(g + 1 + 1), 3, none⟩)), .eq (.bool up), .eq (.agg (boolC up).toArray), .eq (.pointer (some ⟨(g + 1 + 1), 0, none⟩)), .eq (.string nm), .eq (.agg (txtC nm).toArray), .eq (.pointer (some ⟨(g + 1 + 1), 1, none⟩)), .eq (.string ns), .eq (.agg (txtC ns).toArray), .eq (.pointer (some ⟨(g + 1 + 1), 2, none⟩)), .eq (.int .i64 rev), .eq (.agg (intC rev).toArray), .eq (.agg (txtC helmK).toArray), .rowOk (okBox (fun _ => False) wy.heap.size γ) 7 [boolC ins, boolC up, txtC nm, txtC ns, intC rev, txtC helmK], .val (okBox (fun _ => False) wy.heap.size γ) (.table (relT nm ns rev up ins)), .box γ, .any])
    (fun γ done w' => GH (fun _ => False) wy 19 20 (.table (relT nm ns rev up ins)) γ done w') (by kernel_rfl) (by kernel_rfl) none (GH.start _ _ _ _ _) ?_ ?_
   ·refine ⟨?_, ?_, ?_, ?_, ?_, ?_, ?_, ?_, ?_, ?_, ?_, ?_, ?_, ?_, ?_, ?_, ?_, ?_, ?_, ?_, ?_, trivial⟩
    ·intro γ done a w1 K hd qd qe qf qb hG hK
     refine if_wanted rfl ?_
     refine wp_build23_6 rfl ?_
     exact hK γ _ _ ((RowAt.strs w1 [insK, upK, nameK, nsK, revK, svcK] (by decide)).mono (fun b _ hb => hb ▸ hG.fresh (Nat.le_refl _)) (by decide)) (hG.other (by decide) (by decide) ((Chg.refl No w1).alloc _)) (fun _ _ _ _ h => h.keepNo ((Chg.refl No w1).alloc _))
    ·intro γ done a w1 K hd qd qe qf qb hG hK
     have e5 : a.tmps[5]?.getD undef = .pointer (some ⟨(g + 1 + 1), 0, none⟩) := qf 5 rfl
     clear qd qe qf qb
     go_simp
     exact hK _ _ _ rfl (hG.other (by decide) (by decide) (Chg.refl _ _)) (fun _ _ _ _ h => h)
    ·intro γ done a w1 K hd qd qe qf qb hG hK
     have e31 : a.tmps[31]?.getD undef = .pointer (some ⟨(g + 1 + 1), 4, none⟩) := qe 1 31 rfl (qb 1 rfl)
     have c0 : w1.cell? ⟨(g + 1 + 1), 4, none⟩ = some (.bool ins) := (HB5.out.chg hG.chg id).cell 4
     clear qd qe qf qb
     go_simp
     exact hK _ _ _ rfl (hG.other (by decide) (by decide) (Chg.refl _ _)) (fun _ _ _ _ h => h)
    ·intro γ done a w1 K hd qd qe qf qb hG hK
     have e32 : a.tmps[32]?.getD undef = .bool ins := qe 2 32 rfl (qb 2 rfl)
     refine if_wanted rfl ?_
     refine wp_callV1 Tryz.call68 rfl (by simpa [Act.eval] using e32) (moBool_any _ w1) ?_
     rintro e w2 ⟨rfl, hc⟩
     exact ⟨_, rfl, hK γ _ _ rfl (hG.other (by decide) (by decide) hc) (fun _ _ _ _ h => h.keepNo hc)⟩
    ·intro γ done a w1 K hd qd qe qf qb hG hK
     have e5 : a.tmps[5]?.getD undef = .pointer (some ⟨(g + 1 + 1), 0, none⟩) := qf 5 rfl
     clear qd qe qf qb
     go_simp
     exact hK _ _ _ rfl (hG.other (by decide) (by decide) (Chg.refl _ _)) (fun _ _ _ _ h => h)
    ·intro γ done a w1 K hd qd qe qf qb hG hK
     have e34 : a.tmps[34]?.getD undef = .pointer (some ⟨(g + 1 + 1), 3, none⟩) := qe 4 34 rfl (qb 4 rfl)
     have c0 : w1.cell? ⟨(g + 1 + 1), 3, none⟩ = some (.bool up) := (HB5.out.chg hG.chg id).cell 3
     clear qd qe qf qb
     go_simp
     exact hK _ _ _ rfl (hG.other (by decide) (by decide) (Chg.refl _ _)) (fun _ _ _ _ h => h)
    ·intro γ done a w1 K hd qd qe qf qb hG hK
     have e35 : a.tmps[35]?.getD undef = .bool up := qe 5 35 rfl (qb 5 rfl)
     refine if_wanted rfl ?_
     refine wp_callV1 Tryz.call68 rfl (by simpa [Act.eval] using e35) (moBool_any _ w1) ?_
     rintro e w2 ⟨rfl, hc⟩
     exact ⟨_, rfl, hK γ _ _ rfl (hG.other (by decide) (by decide) hc) (fun _ _ _ _ h => h.keepNo hc)⟩
    ·intro γ done a w1 K hd qd qe qf qb hG hK
     have e5 : a.tmps[5]?.getD undef = .pointer (some ⟨(g + 1 + 1), 0, none⟩) := qf 5 rfl
     clear qd qe qf qb
     go_simp
     exact hK _ _ _ rfl (hG.other (by decide) (by decide) (Chg.refl _ _)) (fun _ _ _ _ h => h)
    ·intro γ done a w1 K hd qd qe qf qb hG hK
     have e37 : a.tmps[37]?.getD undef = .pointer (some ⟨(g + 1 + 1), 0, none⟩) := qe 7 37 rfl (qb 7 rfl)
     have c0 : w1.cell? ⟨(g + 1 + 1), 0, none⟩ = some (.string nm) := (HB5.out.chg hG.chg id).cell 0
     clear qd qe qf qb
     go_simp
     exact hK _ _ _ rfl (hG.other (by decide) (by decide) (Chg.refl _ _)) (fun _ _ _ _ h => h)
    ·intro γ done a w1 K hd qd qe qf qb hG hK
     have e38 : a.tmps[38]?.getD undef = .string nm := qe 8 38 rfl (qb 8 rfl)
     refine if_wanted rfl ?_
     refine wp_callV1 Tryz.call67 rfl (by simpa [Act.eval] using e38) (moText_any _ w1) ?_
     rintro e w2 ⟨rfl, hc⟩
     exact ⟨_, rfl, hK γ _ _ rfl (hG.other (by decide) (by decide) hc) (fun _ _ _ _ h => h.keepNo hc)⟩
    ·intro γ done a w1 K hd qd qe qf qb hG hK
     have e5 : a.tmps[5]?.getD undef = .pointer (some ⟨(g + 1 + 1), 0, none⟩) := qf 5 rfl
     clear qd qe qf qb
     go_simp
     exact hK _ _ _ rfl (hG.other (by decide) (by decide) (Chg.refl _ _)) (fun _ _ _ _ h => h)
    ·intro γ done a w1 K hd qd qe qf qb hG hK
     have e40 : a.tmps[40]?.getD undef = .pointer (some ⟨(g + 1 + 1), 1, none⟩) := qe 10 40 rfl (qb 10 rfl)
     have c0 : w1.cell? ⟨(g + 1 + 1), 1, none⟩ = some (.string ns) := (HB5.out.chg hG.chg id).cell 1
     clear qd qe qf qb
     go_simp
     exact hK _ _ _ rfl (hG.other (by decide) (by decide) (Chg.refl _ _)) (fun _ _ _ _ h => h)
    ·intro γ done a w1 K hd qd qe qf qb hG hK
     have e41 : a.tmps[41]?.getD undef = .string ns := qe 11 41 rfl (qb 11 rfl)
     refine if_wanted rfl ?_
     refine wp_callV1 Tryz.call67 rfl (by simpa [Act.eval] using e41) (moText_any _ w1) ?_
     rintro e w2 ⟨rfl, hc⟩
     exact ⟨_, rfl, hK γ _ _ rfl (hG.other (by decide) (by decide) hc) (fun _ _ _ _ h => h.keepNo hc)⟩
    ·intro γ done a w1 K hd qd qe qf qb hG hK
     have e5 : a.tmps[5]?.getD undef = .pointer (some ⟨(g + 1 + 1), 0, none⟩) := qf 5 rfl
     clear qd qe qf qb
     go_simp
     exact hK _ _ _ rfl (hG.other (by decide) (by decide) (Chg.refl _ _)) (fun _ _ _ _ h => h)
    ·intro γ done a w1 K hd qd qe qf qb hG hK
     have e43 : a.tmps[43]?.getD undef = .pointer (some ⟨(g + 1 + 1), 2, none⟩) := qe 13 43 rfl (qb 13 rfl)
     have c0 : w1.cell? ⟨(g + 1 + 1), 2, none⟩ = some (.int .i64 rev) := (HB5.out.chg hG.chg id).cell 2
     clear qd qe qf qb
     go_simp
     exact hK _ _ _ rfl (hG.other (by decide) (by decide) (Chg.refl _ _)) (fun _ _ _ _ h => h)
    ·intro γ done a w1 K hd qd qe qf qb hG hK
     have e44 : a.tmps[44]?.getD undef = .int .i64 rev := qe 14 44 rfl (qb 14 rfl)
     clear qd qe qf qb
     go_simp
     exact hK _ _ _ rfl (hG.other (by decide) (by decide) (Chg.refl _ _)) (fun _ _ _ _ h => h)
    ·intro γ done a w1 K hd qd qe qf qb hG hK
     refine if_wanted rfl ?_
     refine wp_callV1 Tryz.call67 rfl (rfl) (moText_any _ w1) ?_
     rintro e w2 ⟨rfl, hc⟩
     exact ⟨_, rfl, hK γ _ _ rfl (hG.other (by decide) (by decide) hc) (fun _ _ _ _ h => h.keepNo hc)⟩
    ·intro γ done a w1 K hd qd qe qf qb hG hK
     have e33 : a.tmps[33]?.getD undef = .agg (boolC ins).toArray := qe 3 33 rfl (qb 3 rfl)
     have e36 : a.tmps[36]?.getD undef = .agg (boolC up).toArray := qe 6 36 rfl (qb 6 rfl)
     have e39 : a.tmps[39]?.getD undef = .agg (txtC nm).toArray := qe 9 39 rfl (qb 9 rfl)
     have e42 : a.tmps[42]?.getD undef = .agg (txtC ns).toArray := qe 12 42 rfl (qb 12 rfl)
     have e45 : a.tmps[45]?.getD undef = .agg (intC rev).toArray := qe 15 45 rfl (qb 15 rfl)
     have e46 : a.tmps[46]?.getD undef = .agg (txtC helmK).toArray := qe 16 46 rfl (qb 16 rfl)
     refine if_wanted rfl ?_
     refine wp_build24_rel rfl (by simpa [Act.eval] using e33) (by simpa [Act.eval] using e36) (by simpa [Act.eval] using e39) (by simpa [Act.eval] using e42) (by simpa [Act.eval] using e45) (by simpa [Act.eval] using e46) ?_
     exact hK γ _ _ ((RowAt.rows7 w1 [boolC ins, boolC up, txtC nm, txtC ns, intC rev, txtC helmK] (by simp [cells7]) (by simp [maxLen])).mono (fun b _ hb => hb ▸ hG.fresh (Nat.le_refl _)) (by decide)) (hG.other (by decide) (by decide) ((Chg.refl No w1).alloc _)) (fun _ _ _ _ h => h.keepNo ((Chg.refl No w1).alloc _))
    ·intro γ done a w1 K hd qd qe qf qb hG hK
     have hks : RowAt (okBox (fun _ => False) wy.heap.size γ) w1 (a.tmps[30]?.getD undef) 1 (kRows [insK, upK, nameK, nsK, revK, svcK]) := qe 0 30 rfl (qb 0 rfl)
     have hls : RowAt (okBox (fun _ => False) wy.heap.size γ) w1 (a.tmps[47]?.getD undef) 7 [boolC ins, boolC up, txtC nm, txtC ns, intC rev, txtC helmK] := qe 17 47 rfl (qb 17 rfl)
     obtain ⟨ka, kn, kc, ek⟩ : ∃ ka kn kc, a.tmps[30]?.getD undef = .slice ka kn kc := by obtain ⟨-, -, ka, kc, e, -⟩ := hks; exact ⟨_, _, _, e⟩
     obtain ⟨la, ln, lc, el⟩ : ∃ la ln lc, a.tmps[47]?.getD undef = .slice la ln lc := by obtain ⟨-, -, ka, kc, e, -⟩ := hls; exact ⟨_, _, _, e⟩
     rw [ek] at hks
     rw [el] at hls
     refine if_wanted rfl ?_
     refine wp_callV Tryz.call66 rfl (by simpa [Act.eval] using ek) (by simpa [Act.eval] using el) (moTable_any ka kn kc la ln lc w1) ?_
     rintro e w2 ⟨rfl, hc⟩
     exact ⟨_, rfl, hK γ _ _ ⟨_, rfl, .table (hks.chg hc (fun _ _ e => e)) (hls.chg hc (fun _ _ e => e)) rfl (rel_rows nm ns rev up ins)⟩ (hG.other (by decide) (by decide) hc) (fun _ _ _ _ h => h.keepNo hc)⟩
    ·intro γ done a w1 K hd qd qe qf qb hG hK
     have n20 : done 20 = false := by
      cases hh0 : done 20 with
      | false => rfl
      | true => have := qd 20 19 rfl hh0; rw [hd] at this; cases this
     have hγ := hG.noBox hd
     subst hγ
     have HLAY := Hd (hG.lay (by decide) n20)
     clear qd qe qf qb
     clear n20
     go_simp
     refine hK (some w1.heap.size) _ _ ⟨_, rfl, rfl⟩ HLAY.out ?_
     refine fun j hj hdj u hu => ?_
     match j, hj with
     | 0, _ => exact (RowAt.mono hu (fun b hb h => okBox_lay hb h) (by decide)).chg ((Chg.refl No w1).alloc _) (fun _ _ e => e)
     | 1, _ => exact hu
     | 2, _ => exact hu
     | 3, _ => exact hu
     | 4, _ => exact hu
     | 5, _ => exact hu
     | 6, _ => exact hu
     | 7, _ => exact hu
     | 8, _ => exact hu
     | 9, _ => exact hu
     | 10, _ => exact hu
     | 11, _ => exact hu
     | 12, _ => exact hu
     | 13, _ => exact hu
     | 14, _ => exact hu
     | 15, _ => exact hu
     | 16, _ => exact hu
     | 17, _ => exact (RowAt.mono hu (fun b hb h => okBox_lay hb h) (by decide)).chg ((Chg.refl No w1).alloc _) (fun _ _ e => e)
     | 18, _ => obtain ⟨c, h1, h2⟩ := hu; exact ⟨c, h1, (h2.mono (fun b hb h => okBox_lay hb h)).chg ((Chg.refl No w1).alloc _) (fun _ _ e => e)⟩
     | 19, hj => exact absurd rfl hj
     | 20, _ => exact hu
     | j + 21, _ => exact hu
    ·intro γ done a w1 K hd qd qe qf qb hG hK
     obtain ⟨t, rfl, e11⟩ := qe 19 11 rfl (qb 19 rfl)
     obtain ⟨c2, e48, hv2⟩ := qe 18 48 rfl (qb 18 rfl)
     obtain ⟨htB, c', hb, hcl', -⟩ := hG.box t rfl
     refine if_wanted rfl ?_
     refine wp_storeBlk agg26 rfl (by simpa [Act.eval] using e11) (by simpa [Act.eval] using e48) hb hcl' hv2.length hv2.one ?_
     intro w2 hb2 hC hs2
     refine hK (some t) undef _ trivial (hG.put (by decide) hC hb2 hv2) ?_
     refine fun j hj _ u hu => hu.keep hC (safe_of (i := 20) (fun j hl hj => ?_) j hj)
     match j, hj with
     | 0, _ => exact fun b hb e => okBox_not htB hb e
     | 1, _ => exact trivial
     | 2, _ => exact trivial
     | 3, _ => exact trivial
     | 4, _ => exact trivial
     | 5, _ => exact trivial
     | 6, _ => exact trivial
     | 7, _ => exact trivial
     | 8, _ => exact trivial
     | 9, _ => exact trivial
     | 10, _ => exact trivial
     | 11, _ => exact trivial
     | 12, _ => exact trivial
     | 13, _ => exact trivial
     | 14, _ => exact trivial
     | 15, _ => exact trivial
     | 16, _ => exact trivial
     | 17, _ => exact fun b hb e => okBox_not htB hb e
     | 18, _ => exact fun b hb e => okBox_not htB hb e
     | 19, _ => exact trivial
     | 20, hj => exact absurd rfl hj
     | j + 21, _ => exact absurd hl (by simp)
   ·intro γ vs wz hvs hvn hG
    obtain ⟨g11, hγ, e10⟩ : ∃ t, γ = some t /\ vs 19 = .pointer (some ⟨t, 0, none⟩) := hvs 19 _ rfl (by decide)
    subst hγ
    obtain ⟨htB, cg11, hb10, hl10, hv10⟩ := hG.box g11 rfl
    have HBg11 := Hd hb10
    have HVg11 := Hd (hv10 rfl)
    have HCG := Hd hG.chg
    have Hg11 := Hd htB
    clear hb10 hv10 hG hvs hvn htB
    simp only [putAll, Act.put, List.setIfInBounds_toArray, List.set_cons_succ, List.set_cons_zero, e10]
    clear e10
    have HYZ := Hd HCG.out.size
    have HB6Z := Hd (HB6Y.out.chg HCG.out id)
    have HB8Z := Hd (HB8Y.out.chg HCG.out id)
    have HJZ := Hd (HJY.out.chg HCG.out (fun _ _ e => e))
    have HB10Z := Hd (HBg10.out.chg HCG.out id)
    have HV10Z := Hd (HVg10.out.chg HCG.out (fun _ _ e => e))
    have HCZ := Hd (HCY.out.trans' HCG.out)
    have hl10 := HVg10.out.length
    have hl11 := HVg11.out.length
    clear HB6Y HB8Y HJY HBg10 HCY HB5
    have k10 := (HB10Z.out.alloc (.cells (kRows [chartK, relK, valsK]).flatten.toArray 9)).cells
    have k11 := (HBg11.out.alloc (.cells (kRows [chartK, relK, valsK]).flatten.toArray 9)).cells
    have k8 := (HB8Z.out.alloc (.cells (kRows [chartK, relK, valsK]).flatten.toArray 9)).cells
    go_wp2_with (first | (refine wpList_build23_3 rfl rfl ?_) | (with_reducible refine wpList_loadAgg rfl agg26 rfl rfl k10 hl10 ?_) | (with_reducible refine wpList_loadAgg rfl agg26 rfl rfl k11 hl11 ?_) | (with_reducible refine wpList_loadAgg rfl agg26 rfl rfl k8 hl2 ?_) | (refine wpList_build24_3 rfl rfl rfl rfl rfl hl10 hl11 hl2 ?_))
    have HKS := Hd ((RowAt.strs wz [chartK, relK, valsK] (by decide)).chg ((Chg.refl No _).alloc (.cells [cg10, cg11, cs2].flatten.toArray 26)) (fun _ _ e => e))
    have hls0 := RowAt.rows7 (wz.alloc (.cells (kRows [chartK, relK, valsK]).flatten.toArray 9)) [cg10, cg11, cs2] (by intro r hr; simp only [List.mem_cons, List.not_mem_nil, or_false] at hr; rcases hr with rfl | rfl | rfl <;> assumption) (by simp [maxLen])
    have hss : (wz.alloc (.cells (kRows [chartK, relK, valsK]).flatten.toArray 9)).heap.size = wz.heap.size + 1 := by simp
    rw [hss] at hls0
    have HLS := Hd hls0
    clear hls0 hss
    have HCA := Hd (((Chg.refl No wz).alloc (.cells (kRows [chartK, relK, valsK]).flatten.toArray 9)).alloc (.cells [cg10, cg11, cs2].flatten.toArray 26))
    clear k10 k11 k8 hl10 hl11 hl2 ho2
    refine (moTable_any _ _ _ _ _ _ _).mono ?_
    rintro e w7 ⟨rfl, hc7⟩
    replace hc7 : Chg No ((wz.alloc (.cells (kRows [chartK, relK, valsK]).flatten.toArray 9)).alloc (.cells [cg10, cg11, cs2].flatten.toArray 26)) w7 := by simpa [kRows] using hc7
    have HCA7 := Hd (HCA.out.trans' hc7)
    have HKS7 := Hd (HKS.out.chg hc7 (fun _ _ e => e))
    have HLS7 := Hd (HLS.out.chg hc7 (fun _ _ e => e))
    have b67 := HB6Z.out.chg HCA7.out id
    have hbw := HGE.out
    have hsz1 := HCX.out.size
    have hsz2 := HCX0.out.size
    have hszz := HCZ.out.size
    have hszw := HCW0.out.size
    have hlt6 := HB6W.out.lt
    have hsw1 := HC1.out.size
    have hsw2 := HWX.out
    have hsyz := HYZ.out
    have HALLV := Hd (show ValJ (fun b => okB ok w b ∨ (w.heap.size ≤ b /\ b ≠ g + 3)) w7 (cells7 7 false 0 0 ⟨#[]⟩ (.slice (some ⟨wz.heap.size, 0, none⟩) 3 3) (.slice (some ⟨wz.heap.size + 1, 0, none⟩) 3 3)) (.table (topT c.name c.version nm ns rev up ins tt)) from by
     refine .table (rows := [cg10, cg11, cs2]) (HKS7.out.mono (fun b _ hb => by right; exact ⟨by omega, by omega⟩) (by decide)) (HLS7.out.mono (fun b _ hb => by right; exact ⟨by omega, by omega⟩) (by decide)) rfl (top_rows _ _ _ _ _ _ _ _ ?_ ?_ ?_)
     ·exact (HV10Z.out.chg HCA7.out (fun _ _ e => e)).mono (fun b _ hb => by
       rcases hb with hb | hb
       ·exact hb.1.elim
       ·have := hb.1; right; exact ⟨by omega, by omega⟩)
     ·exact (HVg11.out.chg HCA7.out (fun _ _ e => e)).mono (fun b _ hb => by
       rcases hb with hb | hb
       ·exact hb.1.elim
       ·have := hb.1; right; exact ⟨by omega, by omega⟩)
     ·exact (HJZ.out.chg HCA7.out (fun _ _ e => e)).mono (fun b _ hb => by
       rcases hb with hb | hb
       ·exact .inl hb
       ·have := HC1.out.size; right; exact ⟨by omega, by omega⟩))
    have ho9 := HALLV.out.one
    have HC7 := Hd (HCZ.out.trans' HCA7.out)
    clear hlt6 hsw1 hsw2 hsyz HCA7 HKS7 HLS7 hbw hsz1 hsz2 hszz hszw hc7
    go_wp2_with (first | (refine wpList_storeBlk (cs := cells7 7 false 0 0 ⟨#[]⟩ (.slice (some ⟨wz.heap.size, 0, none⟩) 3 3) (.slice (some ⟨wz.heap.size + 1, 0, none⟩) 3 3)) rfl agg26 rfl rfl rfl b67 rfl rfl ho9 ?_; intro w8 hb8 hc8 hs8))
    have hge := HGE.out
    refine bodyPost_ret (results_blk_tmp rfl agg26 rfl hb8 rfl) rfl ⟨_, by rw [hr]; rfl, HC7.out.trans hc8 (fun x hx e => by omega), by rw [hr]; exact (HALLV.out.chg hc8 (fun x hx e => by rcases hx with hx | hx; (have := hx.2; omega); (exact hx.2 (by omega)))).mono (fun x _ hx => hx.imp id (fun h => h.1))⟩
theorem moGot_no (ca cb : List Value) (ha : ca.length = 7) (hb : cb.length = 7) (oa : ca.all (·.oneCell') = true) (ob : cb.all (·.oneCell') = true) (w : World) : Calls Tryz.prog 31 #[.agg ca.toArray, .int .i64 1, .agg cb.toArray, .bool false] w (BoolPost w fun r _ => r = true) := by
 obtain ⟨a1, a2, a3, a4, a5, a6, a7, rfl⟩ : ∃ a b c d e f g, ca = [a, b, c, d, e, f, g] := by
  match ca, ha with
  | [a, b, c, d, e, f, g], _ => exact ⟨a, b, c, d, e, f, g, rfl⟩
 obtain ⟨b1, b2, b3, b4, b5, b6, b7, rfl⟩ : ∃ a b c d e f g, cb = [a, b, c, d, e, f, g] := by
  match cb, hb with
  | [a, b, c, d, e, f, g], _ => exact ⟨a, b, c, d, e, f, g, rfl⟩
 have hc := ((Chg.refl No w).alloc (.cells #[a1, a2, a3, a4, a5, a6, a7] 26)).alloc (.cells #[b1, b2, b3, b4, b5, b6, b7] 26)
 clear ha hb
 have HC := Hd hc
 clear hc
 simp only [List.all_cons, List.all_nil, Bool.and_true, Bool.and_eq_true] at oa ob
 obtain ⟨oa1, oa2, oa3, oa4, oa5, oa6, oa7⟩ := oa
 obtain ⟨ob1, ob2, ob3, ob4, ob5, ob6, ob7⟩ := ob
 go_enter Tryz.func31, Tryz.ntmps31
 go_wp2
 go_ret
 exact ⟨true, rfl, HC.out, rfl⟩
theorem moGot_yes {N d : Nat} (hN : N < 1099511627776) {ok : Nat -> Prop} {ca cb : List Value} {j : J} {w : World} (ha : ValJ ok w ca j) (hb : ValJ ok w cb j) (wf : Wf N d j) : Calls Tryz.prog 31 #[.agg ca.toArray, .int .i64 0, .agg cb.toArray, .bool true] w (BoolPost w fun r _ => r = true) := by
 obtain ⟨ak, ab, ai, af, at_, akv, alv, rfl⟩ := ha.seven
 obtain ⟨bk, bb, bi, bf, bt, bkv, blv, rfl⟩ := hb.seven
 have hfacts : ∀ W, (w.alloc (.cells (cells7 ak ab ai af at_ akv alv).toArray 26)).alloc (.cells (cells7 bk bb bi bf bt bkv blv).toArray 26) = W -> Blk W w.heap.size (cells7 ak ab ai af at_ akv alv) 26 /\ Blk W (w.heap.size + 1) (cells7 bk bb bi bf bt bkv blv) 26 /\ Chg No w W := by
  rintro W rfl
  exact ⟨(Blk.new _ _ _).alloc _, Blk.newAt (by simp) _ _, ((Chg.refl No w).alloc _).alloc _⟩
 have HF := Hd hfacts
 have HA := Hd ha
 have HB := Hd hb
 have WF := Hd wf
 clear hfacts ha hb wf
 go_enter Tryz.func31, Tryz.ntmps31
 unfold cells7
 go_upto_region 3 with fail
 generalize hgw : World.alloc _ _ = W
 obtain ⟨b1, b2, hc⟩ := HF.out W hgw
 clear hgw HF
 have k1 := b1.cells
 have k2 := b2.cells
 have HC := Hd hc
 clear b1 b2 hc
 go_wp2_with (first | (with_reducible refine wpList_loadAggG rfl agg26 rfl rfl k1 rfl ?_) | (with_reducible refine wpList_loadAggG rfl agg26 rfl rfl k2 rfl ?_))
 refine (same_any N hN d ok j _ _ W (HA.out.chg HC.out (fun _ _ e => e)) (HB.out.chg HC.out (fun _ _ e => e)) WF.out).mono ?_
 rintro e w2 ⟨rfl, hc2⟩
 have HC2 := Hd (HC.out.trans' hc2)
 clear hc2
 go_wp2
 go_ret
 exact ⟨true, rfl, HC2.out, rfl⟩
theorem RowAt.same {ok ok' : Nat -> Prop} {w : World} {v : Value} {size : Nat} {rows rows' : List (List Value)} (hz : 0 < size) (h : RowAt ok w v size rows) (h' : RowAt ok' w v size rows') : rows = rows' := by
 obtain ⟨-, h2, a, cap, e, -, h3⟩ := h
 obtain ⟨-, h2', a', cap', e', -, h3'⟩ := h'
 rw [e] at e'
 injection e' with ea hl ec
 subst ea
 by_cases hn : rows = []
 ·subst hn
  exact (List.eq_nil_of_length_eq_zero hl.symm).symm
 ·have hn' : rows' ≠ [] := fun e => hn (List.eq_nil_of_length_eq_zero (by rw [hl, e]; rfl))
  obtain ⟨b, off, ha, -, hc⟩ := h3 hn
  obtain ⟨b', off', ha', -, hc'⟩ := h3' hn'
  rw [ha] at ha'
  cases ha'
  refine List.ext_getElem? fun i => ?_
  cases hr : rows[i]? with
  | none =>
   have : rows'[i]? = none := by rw [List.getElem?_eq_none_iff] at hr ⊢; omega
   rw [this]
  | some r =>
   have hi := (List.getElem?_eq_some_iff.1 hr).1
   obtain ⟨r', hr'⟩ : ∃ r', rows'[i]? = some r' := ⟨_, List.getElem?_eq_getElem (by omega)⟩
   rw [hr']
   congr 1
   have l1 := h2 r (List.mem_of_getElem? hr)
   have l2 := h2' r' (List.mem_of_getElem? hr')
   refine List.ext_getElem? fun j => ?_
   by_cases hj : j < size
   ·obtain ⟨u, hu⟩ : ∃ u, r[j]? = some u := ⟨_, List.getElem?_eq_getElem (by omega)⟩
    obtain ⟨u', hu'⟩ : ∃ u', r'[j]? = some u' := ⟨_, List.getElem?_eq_getElem (by omega)⟩
    have e1 := hc i r hr j u hu
    have e2 := hc' i r' hr' j u' hu'
    rw [e1] at e2
    rw [hu, hu', Option.some.inj e2]
   ·rw [List.getElem?_eq_none_iff.2 (by omega), List.getElem?_eq_none_iff.2 (by omega)]
theorem kRows_inj {a b : List K} (h : kRows a = kRows b) : a = b := by
 induction a generalizing b with
 | nil => cases b with
  | nil => rfl
  | cons x r => simp [kRows] at h
 | cons x r ih => cases b with
  | nil => simp [kRows] at h
  | cons y s =>
   simp only [kRows, List.map_cons, List.cons.injEq] at h
   obtain ⟨h1, h2⟩ := h
   have h3 : x = y := by simpa using h1
   rw [h3, ih (b := s) (by simpa [kRows] using h2)]
theorem ValJ.same {ok : Nat -> Prop} {w : World} {cs : List Value} {j : J} (h : ValJ ok w cs j) : ∀ {ok' : Nat -> Prop} {j' : J}, ValJ ok' w cs j' -> j = j' := by
 induction h with
 | null hk hl => intro ok' j' h'; generalize hcs : cells7 _ _ _ _ _ _ _ = cs' at h'; cases h' <;> simp_all [cells7]
 | bool hk hl => intro ok' j' h'; generalize hcs : cells7 _ _ _ _ _ _ _ = cs' at h'; cases h' <;> simp_all [cells7]
 | int hk hl => intro ok' j' h'; generalize hcs : cells7 _ _ _ _ _ _ _ = cs' at h'; cases h' <;> simp_all [cells7]
 | float hk hl => intro ok' j' h'; generalize hcs : cells7 _ _ _ _ _ _ _ = cs' at h'; cases h' <;> simp_all [cells7]
 | text hk hl => intro ok' j' h'; generalize hcs : cells7 _ _ _ _ _ _ _ = cs' at h'; cases h' <;> simp_all [cells7]
 | @list b i f t kv lv rows xs hk hl hn hr ih =>
  intro ok' j' h'
  generalize hcs : cells7 _ _ _ _ _ _ _ = cs' at h'
  cases h' with
  | @list b' i' f' t' kv' lv' rows' xs' hk' hl' hn' hr' =>
   simp only [cells7, List.cons.injEq] at hcs
   obtain ⟨-, -, -, -, -, -, rfl, -⟩ := hcs
   have := hl.same (by decide) hl'
   subst this
   congr 1
   refine List.ext_getElem (by omega) fun n h1 h2 => ?_
   have hrn : rows[n]? = some rows[n] := List.getElem?_eq_getElem (by omega)
   exact ih n _ _ hrn (List.getElem?_eq_getElem h1) (hr' n _ _ hrn (List.getElem?_eq_getElem h2))
  | _ => simp [cells7] at hcs
 | @table b i f t kv lv rows kvs hk hl hn hr ih =>
  intro ok' j' h'
  generalize hcs : cells7 _ _ _ _ _ _ _ = cs' at h'
  cases h' with
  | @table b' i' f' t' kv' lv' rows' kvs' hk' hl' hn' hr' =>
   simp only [cells7, List.cons.injEq] at hcs
   obtain ⟨-, -, -, -, -, rfl, rfl, -⟩ := hcs
   have := hl.same (by decide) hl'
   subst this
   have hkk : kvs.map (·.1) = kvs'.map (·.1) := kRows_inj (by simpa [kRows, List.map_map, Function.comp_def] using hk.same (by decide) hk')
   congr 1
   refine List.ext_getElem (by omega) fun n h1 h2 => ?_
   have hrn : rows[n]? = some rows[n] := List.getElem?_eq_getElem (by omega)
   have hv := ih n _ _ hrn (List.getElem?_eq_getElem h1) (hr' n _ _ hrn (List.getElem?_eq_getElem h2))
   have hk1 : kvs[n].1 = kvs'[n].1 := by
    have e1 : (kvs.map (·.1))[n]? = (kvs'.map (·.1))[n]? := by rw [hkk]
    simpa [h1, h2] using e1
   exact Prod.ext hk1 hv
  | _ => simp [cells7] at hcs
def ChCopy (w : World) (c : Ch) (e : Ending) (w' : World) : Prop :=
 ∃ cs : List Value, e = .returned (.agg cs.toArray) /\ ChJ (fun x => w.heap.size ≤ x) w' cs c /\ Chg No w w'
theorem moChart_any (L : Nat) : ∀ (c : Ch) (ok : Nat -> Prop) (cs : List Value) (w : World), ChJ ok w cs c -> ChR L c -> Calls Tryz.prog 14 #[.agg cs.toArray] w (ChCopy w c) := by
 induction L with
 | zero => intro c ok cs w _ h; exact h.elim
 | succ L ih =>
  intro c ok cs w hcj hcr
  obtain ⟨name, ver, k, b, i, f, t, kv, lv, dv, wv, rfl, hnm, hvr, hv, ⟨drows, hd, hn, hdr⟩, ⟨wrows, hw, hm, hwr⟩⟩ := hcj.bel.cells
  have HV := Hd hv
  have HD := Hd hd
  have HN := Hd hn
  have HDR := Hd hdr
  have HW := Hd hw
  have HM0 := Hd hm
  have HWR0 := Hd hwr
  have IH := Hd ih
  have HCR := Hd hcr
  have HNM := Hd hnm
  have HVR := Hd hvr
  have hd1 : (drows.length : Int) ≤ 20 := by have := hcr.2.2.2.1; omega
  have hw1 : (wrows.length : Int) ≤ 40 := by have := hcr.2.2.2.2.2.2.1; omega
  obtain ⟨-, -, da, dc, rfl, -, -⟩ := hd
  obtain ⟨-, -, wa, wc, rfl, -, -⟩ := hw
  have hfacts : ∀ W, ((w.alloc (.cells (cells11 name ver k b i f t kv lv (.slice da drows.length dc) (.slice wa wrows.length wc)).toArray 30)).alloc (.cells zero11.toArray 30)) = W ->
    Blk W w.heap.size (cells11 name ver k b i f t kv lv (.slice da drows.length dc) (.slice wa wrows.length wc)) 30 /\ Blk W (w.heap.size + 1) zero11 30 /\ Chg No w W /\ W.heap.size = w.heap.size + 2 := by
   rintro W rfl
   exact ⟨(Blk.new _ _ _).alloc _, Blk.newAt (by simp) _ _, ((Chg.refl No w).alloc _).alloc _, by simp⟩
  have HF := Hd hfacts
  have HONE := Hd (show ∀ r ∈ wrows, r.all (·.oneCell') = true from fun r hr => by
   obtain ⟨j, hj⟩ := List.getElem?_of_mem hr
   obtain ⟨x, hx⟩ : ∃ x, c.wants[j]? = some x := ⟨_, List.getElem?_eq_getElem (by rw [← hm]; exact (List.getElem?_eq_some_iff.1 hj).1)⟩
   exact (hwr j r x hj hx).len.2)
  have HW40 := Hd (show ([] : List (List Value)).length + wrows.length ≤ 1099511627776 by have := hcr.2.2.2.2.2.2.1; simp only [List.length_nil]; omega)
  clear hfacts hv hn hdr hm hwr ih hcr hnm hvr hcj
  go_enter Tryz.func14, Tryz.ntmps14
  unfold cells11
  go_upto_region 1 with fail
  generalize hgw : World.alloc _ _ = W
  obtain ⟨b0, b1, c1, hws⟩ := HF.out W hgw
  clear hgw HF
  obtain ⟨g, hg⟩ : ∃ g, g = w.heap.size := ⟨_, rfl⟩
  obtain ⟨B, hB⟩ : ∃ B, B = w.heap.size + 2 := ⟨_, rfl⟩
  have HBW := Hd (show w.heap.size ≤ g /\ g < B /\ B ≤ W.heap.size /\ g + 1 < B by omega)
  rw [← hg] at b0 b1 ⊢
  have HB0 := Hd b0
  have HB1 := Hd b1
  have HC1 := Hd c1
  have b2 := b0.vals11
  clear b0 b1 c1 hws hg hB
  go_wp2_with (first | (with_reducible refine wpList_loadAgg rfl agg26 rfl rfl b2 rfl ?_))
  refine (moCopy_any 400 (by decide) 50 _ _ _ W (HV.out.chg HC1.out (fun _ _ e => e)) HCR.out.1.1).mono ?_
  rintro e w2 ⟨cs', rfl, hvj, hc2⟩
  obtain ⟨k', b', i', f', t', kv', lv', rfl⟩ := hvj.seven
  have HVJ := Hd hvj
  have HB2 := Hd (HB0.out.chg hc2 id)
  have HC2 := Hd (HC1.out.trans' hc2)
  have HRB := Hd (HB1.out.chg hc2 id)
  have HSZ2 := Hd hc2.size
  have ho3 := hvj.one
  have hl3 : 2 + 7 ≤ (cells11 name ver k b i f t kv lv (.slice da drows.length dc) (.slice wa wrows.length wc)).length := by simp [cells11]
  have b3 := HB0.out.chg hc2 id
  clear hvj hc2 b2 HB0 HB1
  go_upto_region 2 with (first | (with_reducible refine wpList_storeMid rfl agg26 rfl rfl rfl b3 hl3 rfl ho3 ?_; intro w3 b4 hc3 hs3))
  have b4 : Blk w3 g (cells11 name ver k' b' i' f' t' kv' lv' (.slice da drows.length dc) (.slice wa wrows.length wc)) 30 := b4
  have HVJ3 := Hd (HVJ.out.chg hc3 (fun x hx e => by have e1 : x = g := e; have := HBW.out; have := HC1.out.size; omega))
  have HC3 := Hd (HC2.out.trans hc3 (fun x hx e => by have e1 : x = g := e; have := HBW.out; omega))
  have HB4 := Hd b4
  have HCS := Hd hc3.size
  have HRB3 := Hd (HRB.out.chg hc3 (fun e => by have e1 : g + 1 = g := e; omega))
  have k9 : w3.cell? ⟨g, 9, none⟩ = some (.slice da drows.length dc) := b4.cell 9
  have f9 : w3.frozen? ⟨g, 9, none⟩ = false := b4.frozen 9
  have hset := b4.setCell 9 (.slice none 0 0)
  have HSET := Hd hset
  clear b3 b4 hc3 hs3 hset ho3 hl3 HB2
  go_upto_region 4 with fail
  generalize hgw : World.setCell _ _ _ = w4
  have hset := HSET.out
  rw [hgw] at hset
  clear hgw HSET k9 f9
  obtain ⟨b5, hc5, hs5⟩ := hset
  have HCC0 := Hd (show CC w g B (fun l => cells11 name ver k' b' i' f' t' kv' lv' l (.slice wa wrows.length wc)) (cells7 k' b' i' f' t' kv' lv') c.vals c.deps w4 0 (.slice none 0 0) [] from by
   refine ⟨Nat.zero_le _, b5, OwnR.nil _ _ _ _, rfl, ?_, fun i r x h => by simp at h, HC3.out.trans hc5 (fun x hx e => by have e1 : x = g := e; have := HBW.out; omega), ⟨HBW.out.1, HBW.out.2.1, by have := HBW.out; have := HSZ2.out; have := hc5.size; have := HCS.out; omega⟩, (HRB3.out).chg hc5 (fun e => by have e1 : g + 1 = g := e; omega), HBW.out.2.2.2⟩
   exact ((HVJ3.out.mono (ok' := fun x => B ≤ x) (fun b _ hb => by have := HBW.out; omega)).chg hc5 (fun x hx e => by have e1 : x = g := e; have := HBW.out; omega)).mono (fun b _ hb => ⟨hb, fun e => by cases e⟩))
  clear b5 hc5 hs5 HB4 HVJ3 HVJ HRB3 HRB
  go_wp2_with fail
  go_loopw [17] (fun ct wr => ∃ (n : Nat) (iv : Value) (rows : List (List Value)), ct = .int .i64 n /\ CC w g B (fun l => cells11 name ver k' b' i' f' t' kv' lv' l (.slice wa wrows.length wc)) (cells7 k' b' i' f' t' kv' lv') c.vals c.deps wr n iv rows) (fun ct _ => drows.length - (intOf ct).toNat)
  case atStart => exact ⟨0, _, _, rfl, HCC0.out⟩
  case round =>
   obtain ⟨n, iv, rows, rfl, hcc⟩ := hrel
   have HCC := Hd hcc
   clear hcc HCC0
   by_cases hlt : n < drows.length
   ·obtain ⟨r, hr0⟩ : ∃ r, drows[n]? = some r := ⟨_, List.getElem?_eq_getElem hlt⟩
    obtain ⟨d, hd2⟩ : ∃ d, c.deps[n]? = some d := ⟨_, List.getElem?_eq_getElem (by rw [← HN.out]; exact hlt)⟩
    obtain ⟨lb, lo, rfl, -, hlc⟩ := HD.out.at (i := n) (r := r) hr0
    have hlc := hlc.chg HCC.out.chg id
    have hch := (HDR.out n r d hr0 hd2).chg HCC.out.chg (fun _ _ e => e)
    obtain ⟨hrl, hro⟩ := hch.one
    obtain ⟨wy, hwy⟩ : ∃ wy, wy = wr.alloc (.cells r.toArray 30) := ⟨_, rfl⟩
    have HC5 := Hd (show Chg No wr wy from hwy ▸ (Chg.refl No wr).alloc _)
    have HCCY := Hd (HCC.out.keep HC5.out)
    have HCHY := Hd (hch.chg HC5.out (fun _ _ e => e))
    have HD2 := Hd hd2
    have HCR2 := Hd (HCR.out.2.2.2.2.2.1 d (List.mem_of_getElem? hd2))
    have HRL := Hd (show r.length = 11 /\ r.all (·.oneCell') = true from ⟨hrl, hro⟩)
    have h64 : (n : Int) < (drows.length : Int) := by omega
    have HBNEW := Hd (show Blk wy wr.heap.size r 30 from hwy ▸ Blk.new wr r 30)
    clear hr0 hd2 hch
    go_upto_region 7 with (first | (with_reducible refine wpList_loadAgg rfl agg30 rfl rfl hlc hrl ?_) | (with_reducible refine wpList_storeNew rfl agg30 rfl rfl rfl rfl hrl hro ?_))
    rw [← hwy]
    obtain ⟨g5, hg5⟩ : ∃ g5, g5 = wr.heap.size := ⟨_, rfl⟩
    rw [← hg5]
    have HBB := Hd (show g < B /\ B ≤ wy.heap.size from ⟨HBW.out.2.1, HCCY.out.hB.2.2⟩)
    have HB5 := Hd (show Blk wy g5 r 30 from hg5 ▸ HBNEW.out)
    have HN5 := Hd (show ¬ (g5 = g ∨ iv.ownBlock = some g5) from fun e => by
     rcases e with e | e
     ·have := HCC.out.hB; omega
     ·have := (HCC.out.own.elem e).2.1; omega)
    have HOKB := Hd (show ∀ b, okB ok w b -> ¬ (b = g ∨ iv.ownBlock = some b) from fun b hb e => by
     have := hb.2
     have := HBW.out
     rcases e with e | e
     ·omega
     ·have := (HCC.out.own.elem e).1; omega)
    have HIVL := Hd (show ∀ q, iv.ownBlock = some q -> q < wy.heap.size from fun q e => (HCCY.out.own.elem e).2.1)
    have HLEN := Hd (show rows.length ≤ 20 by have := HCC.out.len; have := HCC.out.le; have := HN.out; omega)
    have HCR3 := Hd HCR.out
    replace HCR := HCR2
    clear hwy hg5 HBNEW hlc HCR2 hrl hro
    refine wp_region_inv (FI [.eq (.pointer (some ⟨g, 9, none⟩)), .eq iv, .eq (.agg r.toArray), .chNew wy d, .chRow wy d, .chApp B d rows iv wy HBB.out.2, .eq (.pointer (some ⟨g, 9, none⟩)), .any])
     (fun done w' => AC g B (fun l => cells11 name ver k' b' i' f' t' kv' lv' l (.slice wa wrows.length wc)) iv rows d wy w' (done 5) (done 7)) (by kernel_rfl) (by kernel_rfl) (AC.start HBB.out HCCY.out.own HCCY.out.blk) ?_ ?_
    ·refine ⟨?_, ?_, ?_, ?_, ?_, ?_, ?_, ?_, trivial⟩
     ·intro done a w1 K hd qd qe qf qb hG hK
      have e1 : a.tmps[1]?.getD undef = .pointer (some ⟨g, 0, none⟩) := qf 1 rfl
      clear qd qe qf qb
      go_simp
      exact hK _ _ rfl (by simpa [dn] using hG) (fun _ _ _ _ h => h)
     ·intro done a w1 K hd qd qe qf qb hG hK
      have e21 : a.tmps[21]?.getD undef = .pointer (some ⟨g, 9, none⟩) := qe 0 21 rfl (qb 0 rfl)
      have n7 : done 7 = false := by
       cases hh0 : done 7 with
       | false => rfl
       | true =>
        have hh1 := qd 7 5 rfl hh0
        have hh2 := qd 5 1 rfl hh1
        rw [hd] at hh2; cases hh2
      have hG0 := hG
      rw [n7] at hG0
      obtain ⟨l', hb, h1, -⟩ := hG0.box
      obtain rfl := h1 rfl
      obtain ⟨ia, inn, ic, hiv⟩ := HCCY.out.own.slice
      have c0 : w1.cell? ⟨g, 9, none⟩ = some (.slice ia inn ic) := by rw [← hiv]; exact hb.cell 9
      have HIV := Hd hiv
      clear hiv hG0 hb h1 n7
      clear qd qe qf qb
      go_simp
      exact hK _ _ HIV.out.symm (by simpa [dn] using hG) (fun _ _ _ _ h => h)
     ·intro done a w1 K hd qd qe qf qb hG hK
      have e5 : a.tmps[5]?.getD undef = .pointer (some ⟨g5, 0, none⟩) := qf 5 rfl
      refine if_wanted rfl ?_
      refine wp_loadAgg agg30 rfl (by simpa [Act.eval] using e5) ((HB5.out.chg hG.chg HN5.out).cells) HRL.out.1 ?_
      exact hK _ _ rfl (by simpa [dn] using hG) (fun _ _ _ _ h => h)
     ·intro done a w1 K hd qd qe qf qb hG hK
      have e23 : a.tmps[23]?.getD undef = .agg r.toArray := qe 2 23 rfl (qb 2 rfl)
      refine if_wanted rfl ?_
      refine wp_callV1 Tryz.call14 rfl (by simpa [Act.eval] using e23) (IH.out d (okB ok w) r w1 (HCHY.out.chg hG.chg HOKB.out) HCR.out) ?_
      rintro e w2 ⟨cs', rfl, hj, hc⟩
      exact ⟨_, rfl, hK _ _ ⟨cs', rfl, hj.mono (fun b hb h => ⟨Nat.le_trans hG.chg.size h, hb⟩)⟩ (by simpa [dn] using hG.chgNo hc) (fun _ _ _ _ h => h.keepNo hc)⟩
     ·intro done a w1 K hd qd qe qf qb hG hK
      obtain ⟨cs', e24, hj⟩ : (Fact.chNew wy d).holds (a.tmps[24]?.getD undef) w1 := qe 3 24 rfl (qb 3 rfl)
      have hc : Chg No w1 (w1.alloc (.cells cs'.toArray 30)) := (Chg.refl No w1).alloc _
      have HC := Hd hc
      have HT := Hd (show (Fact.chRow wy d).holds (.slice (some ⟨w1.heap.size, 0, none⟩) 1 1) (w1.alloc (.cells cs'.toArray 30)) from ⟨cs', _, rfl, hG.chg.size, Blk.new _ _ _, (hj.chg hc (fun _ _ e => e)).mono (fun b _ hb => ⟨hb.1, Nat.lt_of_lt_of_le hb.2 hc.size⟩)⟩)
      refine if_wanted rfl ?_
      refine wp_build27 rfl (by simpa [Act.eval] using e24) hj.one.1 ?_
      exact hK _ _ HT.out (by simpa [dn] using hG.chgNo HC.out) (fun _ _ _ _ h => h.keepNo HC.out)
     ·intro done a w1 K hd qd qe qf qb hG hK
      have e22 : a.tmps[22]?.getD undef = iv := qe 1 22 rfl (qb 1 rfl)
      obtain ⟨cs', t1, e25, htl, htb, hj⟩ : (Fact.chRow wy d).holds (a.tmps[25]?.getD undef) w1 := qe 4 25 rfl (qb 4 rfl)
      have n7 : done 7 = false := by
       cases hh0 : done 7 with
       | false => rfl
       | true => have := qd 7 5 rfl hh0; rw [hd] at this; cases this
      rw [hd, n7] at hG
      refine if_wanted rfl ?_
      refine wp_appendRowsB elem27 rfl (by simpa [Act.eval] using e22) (hG.own rfl) (by simpa [Act.eval] using e25) (htb.row1 hj.one.1) (by intro r hr; obtain rfl := List.mem_singleton.1 hr; exact hj.one.2) (by have := HLEN.out; simp only [List.length_cons, List.length_nil]; omega) (by have := HLEN.out; simp only [List.length_cons, List.length_nil]; omega) (by have := hG.chg.size; have := HBB.out.2; omega) ?_
      intro v' w2 hown hc hv' hold
      refine hK _ _ (AppC.of hown hj HCCY.out.own hG.chg.size hc hv') (by simpa [dn, n7] using hG.app hc) ?_
      refine fun j hj _ u hu => hu.keep hc (safe_of (i := 5) (fun j hl hj => ?_) j hj)
      match j, hj with
      | 0, _ => exact trivial
      | 1, _ => exact trivial
      | 2, _ => exact trivial
      | 3, _ => exact fun q hq => HIVL.out q hq
      | 4, _ => exact fun q hq => HIVL.out q hq
      | 5, hj => exact absurd rfl hj
      | 6, _ => exact trivial
      | 7, _ => exact trivial
      | j + 8, _ => exact absurd hl (by simp)
     ·intro done a w1 K hd qd qe qf qb hG hK
      have e1 : a.tmps[1]?.getD undef = .pointer (some ⟨g, 0, none⟩) := qf 1 rfl
      clear qd qe qf qb
      go_simp
      exact hK _ _ rfl (by simpa [dn] using hG) (fun _ _ _ _ h => h)
     ·intro done a w1 K hd qd qe qf qb hG hK
      have e27 : a.tmps[27]?.getD undef = .pointer (some ⟨g, 9, none⟩) := qe 6 27 rfl (qb 6 rfl)
      have happ : AppC B d rows iv wy (a.tmps[26]?.getD undef) w1 := qe 5 26 rfl (qb 5 rfl)
      have h5 : done 5 = true := qb 5 rfl
      rw [hd, h5] at hG
      obtain ⟨l', hb, h1, -⟩ := hG.box
      obtain rfl := h1 rfl
      have hsl2 := happ.choose_spec.1.slice
      refine if_wanted rfl ?_
      refine wp_setSlice rfl (by simpa [Act.eval] using e27) hsl2 Tryz.sizeOf27 hb (show 9 < 11 by decide) (by simp [Act.eval]) ?_
      intro w2 hb2 hc2 hs2
      refine hK undef _ trivial (by simpa [dn, h5] using hG.store hb2 hc2 happ) ?_
      refine fun j hj _ u hu => hu.keep hc2 (safe_of (i := 7) (fun j hl hj => ?_) j hj)
      match j, hj with
      | 0, _ => exact trivial
      | 1, _ => exact trivial
      | 2, _ => exact trivial
      | 3, _ => exact fun q hq => by have e1 : q = g := hq; have := HBB.out; omega
      | 4, _ => exact fun q hq => by have e1 : q = g := hq; have := HBB.out; omega
      | 5, _ => exact fun q hq => by have e1 : q = g := hq; have := HBB.out; omega
      | 6, _ => exact trivial
      | 7, hj => exact absurd rfl hj
      | j + 8, _ => exact absurd hl (by simp)
    ·intro vs w2 hvs hvn hG
     have HCC2 := Hd (HCC.out.step HD2.out HC5.out hG)
     clear hvs hvn hG
     obtain ⟨v2, rows2, hcc2⟩ := HCC2.out
     have HCC3 := Hd hcc2
     clear hcc2
     simp only [putAll, Act.put, List.setIfInBounds_toArray, List.set_cons_succ, List.set_cons_zero]
     go_wp2_with fail
     go_roundw
     case rel => first | exact ⟨n + 1, _, _, by go_num, HCC3.out⟩ | ((repeat apply Exists.intro); exact ⟨⟨n + 1, _, _, by go_num, HCC3.out⟩, rfl⟩)
     case measure => simp [intOf]; omega
   ·have hnl : n = drows.length := by have := HCC.out.le; have := HN.out; omega
    subst hnl
    have h64 : ¬ ((drows.length : Nat) : Int) < (drows.length : Int) := by omega
    have HCCE := Hd (show CC w g B (fun l => cells11 name ver k' b' i' f' t' kv' lv' l (.slice wa wrows.length wc)) (cells7 k' b' i' f' t' kv' lv') c.vals c.deps wr c.deps.length iv rows from by have h := HCC.out; rw [show drows.length = c.deps.length from HN.out] at h; exact h)
    have k10 : wr.cell? ⟨g, 10, none⟩ = some (.slice wa wrows.length wc) := HCC.out.blk.cell 10
    have HROWW := Hd (HW.out.chg HCC.out.chg (fun _ _ e => e))
    clear HCC
    go_upto_region 10 with (first | (at_builtin; refine wpList_appendRows rfl elem28 rfl rfl (OwnR.nil wr wr.heap.size 79 7) rfl HROWW.out HONE.out HW40.out (by decide) (Nat.le_refl _) ?_; intro v' w6 hown' hc6 hv' hold; obtain ⟨sa, sn, sc, rfl⟩ := hown'.slice; have hb6 := HCCE.out.blk.chg hc6 (fun e => by cases e); have c10 : w6.cell? ⟨g, 10, none⟩ = some (.slice wa wrows.length wc) := hb6.cell 10; have f10 : w6.frozen? ⟨g, 10, none⟩ = false := hb6.frozen 10; have HSET6 := Hd (hb6.setCell 10 (.slice sa sn sc)); have HOWN6 := Hd hown'; have HC6 := Hd (show Chg No wr w6 from hc6.mono (fun i _ e => by cases e)); clear hown' hc6 hv' hold hb6))
    generalize hgw : World.setCell _ _ _ = w7
    have hset := HSET6.out
    rw [hgw] at hset
    clear hgw HSET6 c10 f10 k10
    obtain ⟨b7, hc7, hs7⟩ := hset
    have hsn : sn = wrows.length := by have := HOWN6.out.rowAt; obtain ⟨-, -, a0, c0, e0, -⟩ := this; cases e0; simp
    subst hsn
    have HC7 := Hd (show Chg (· = g) wr w7 from (HC6.out.mono (fun _ _ e => e.elim)).trans hc7 (fun _ _ e => e))
    have HOWN7 := Hd (show OwnR w7 wr.heap.size 79 7 (.slice sa wrows.length sc) wrows from HOWN6.out.chg hc7 (fun k hk e => by have e1 : k = g := e; have := (HOWN6.out.elem hk).1; have := HCCE.out.hB; omega))
    have HB7 := Hd (show Blk w7 g (cells11 name ver k' b' i' f' t' kv' lv' iv (.slice sa wrows.length sc)) 30 from b7)
    have HRB7 := Hd (show Blk w7 (g + 1) zero11 30 from HCCE.out.res.1.chg ((HC6.out.mono (fun _ _ e => e.elim)).trans hc7 (fun _ _ e => e)) (fun e => by have e1 : g + 1 = g := e; omega))
    have k10 : w7.cell? ⟨g, 10, none⟩ = some (.slice sa wrows.length sc) := HB7.out.cell 10
    have hwl : (wrows.length : Int) < 9223372036854775808 := by omega
    clear hc7 hs7 b7 HC6 HOWN6 HROWW
    by_cases hnil : c.wants = []
    ·have hw0 : wrows.length = 0 := by rw [HM0.out, hnil]; rfl
     have HFIN := Hd (show ChJ (fun x => B ≤ x) w7 (cells11 name ver k' b' i' f' t' kv' lv' iv (.slice sa wrows.length sc)) c from
      ChJ.fin HCCE.out HNM.out HVR.out HC7.out (HOWN7.out.rowAt.mono (fun b _ hb => by have := (HOWN7.out.elem hb).1; have := HCCE.out.hB; omega) (by decide)) HM0.out (fun j r x h1 h2 => by rw [hnil] at h2; simp at h2))
     have ho1 := HFIN.out.one.2
     go_wp2_with fail
     go_loopw [36] (fun ct wr => ct = .int .i64 0 /\ wr = w7) (fun _ _ => 0)
     case atStart => exact ⟨rfl, rfl⟩
     case round =>
      obtain ⟨rfl, rfl⟩ := hrel
      have h65 : ¬ (0 : Int) < (wrows.length : Int) := by omega
      go_wp2_with (first | (with_reducible refine wpList_loadAgg rfl agg30 rfl rfl HB7.out.cells rfl ?_) | (with_reducible refine wpList_storeBlk rfl agg30 rfl rfl rfl HRB7.out rfl rfl ho1 ?_; intro w8 hb8 hc8 hs8))
      refine bodyPost_ret (results_blk rfl agg30 rfl hb8 rfl) rfl ⟨_, rfl, (HFIN.out.chg hc8 (fun x hx e => by have e1 : x = g + 1 := e; have := HBW.out; omega)).mono (fun x _ hx => by have := HBW.out; omega), ((HCCE.out.chg.trans HC7.out (fun x hx e => by have e1 : x = g := e; have := HBW.out; omega))).trans hc8 (fun x hx e => by have e1 : x = g + 1 := e; have := HBW.out; omega)⟩
    ·obtain ⟨x0, hx0⟩ := List.exists_mem_of_ne_nil _ hnil
     have hpos : 0 < wrows.length := by rw [HM0.out]; exact List.length_pos_of_mem hx0
     obtain ⟨b2, c2, cur, qe, hb2g, hb2, hn2, -, hcs2, htk⟩ : ∃ g0 cap cur, Value.slice sa wrows.length sc = .slice (some ⟨g0, 0, none⟩) wrows.length cap /\ wr.heap.size ≤ g0 /\ w7.heap[g0]? = some (.cells cur 79 (0, 0)) /\ wrows.length ≤ cap /\ cap ≤ maxLen /\ cur.size = cap * 7 /\ cur.toList.take (wrows.length * 7) = wrows.flatten := by
      rcases HOWN7.out.2.2 with ⟨h1, h2⟩ | h
      ·omega
      ·exact h
     cases qe
     have hbk : Blk w7 b2 (wrows.flatten ++ cur.toList.drop (wrows.length * 7)) 79 := by
      rw [← htk, List.take_append_drop]
      exact hb2
     have HB2L := Hd (show g < b2 /\ g + 1 < b2 /\ b2 < w7.heap.size /\ B ≤ b2 from ⟨by have := HCCE.out.hB; omega, by have := HCCE.out.hB; have := HCCE.out.res.2; omega, hbk.lt, by have := HCCE.out.hB; omega⟩)
     have HWK0 := Hd (WK.start (wants := c.wants) (B := w7.heap.size) hbk ⟨hbk.lt, Nat.le_refl _⟩)
     have HCPOS := Hd (show wrows.length ≤ sc /\ sc ≠ 0 by omega)
     have HMAX := Hd hcs2
     have HBW7 := Hd (show wr.heap.size ≤ b2 from hb2g)
     obtain ⟨BB, hBB⟩ : ∃ BB, BB = w7.heap.size := ⟨_, rfl⟩
     obtain ⟨pad, hpad⟩ : ∃ pad, pad = cur.toList.drop (wrows.length * 7) := ⟨_, rfl⟩
     rw [← hBB, ← hpad] at HWK0
     have HBBE := Hd hBB
     clear hbk hb2g hb2 hn2 hcs2 htk hx0 hBB hpad hnil HOWN7
     go_wp2_with fail
     clear k10
     go_loopw [36] (fun ct wr => ∃ (m : Nat) (A : List (List Value)), ct = .int .i64 m /\ WK w7 b2 BB c.wants wrows pad wr m A) (fun ct _ => wrows.length - (intOf ct).toNat)
     case atStart => exact ⟨0, _, rfl, HWK0.out⟩
     case round =>
      obtain ⟨m, A, rfl, hwk⟩ := hrel
      have HWK := Hd hwk
      clear hwk HWK0
      by_cases hlt : m < wrows.length
      ·obtain ⟨r, hr0⟩ : ∃ r, wrows[m]? = some r := ⟨_, List.getElem?_eq_getElem hlt⟩
       obtain ⟨x, hx2⟩ : ∃ x, c.wants[m]? = some x := ⟨_, List.getElem?_eq_getElem (by rw [← HM0.out]; exact hlt)⟩
       obtain ⟨tv, iv, rfl, htv, hiv⟩ := HWR0.out m r x hr0 hx2
       obtain ⟨hwb, hal, qd⟩ := HWK.out.cells hr0
       have hol : (cellsW x tv iv).all (·.oneCell') = true := (HWR0.out m _ x hr0 hx2).len.2
       have h64 : (m : Int) < (wrows.length : Int) := by omega
       obtain ⟨wy, hwy⟩ : ∃ wy, wy = wr.alloc (.cells (cellsW x tv iv).toArray 79) := ⟨_, rfl⟩
       have HC7Y := Hd (show Chg No wr wy from hwy ▸ (Chg.refl No wr).alloc _)
       go_upto_region 13 with (first | (with_reducible refine wpList_loadAgg rfl agg79 rfl rfl qd rfl ?_) | (with_reducible refine wpList_storeNew rfl agg79 rfl rfl rfl rfl rfl hol ?_))
       rw [← hwy]
       obtain ⟨g7, hg7⟩ : ∃ g7, g7 = wr.heap.size := ⟨_, rfl⟩
       rw [← hg7]
       have hall : Chg (· = b2) w7 wy := HWK.out.chg.trans' HC7Y.out
       have hsz7 := HWK.out.chg.size
       have HWB := Hd (show b2 < BB /\ BB ≤ wy.heap.size from ⟨HWK.out.hB.1, by have := HWK.out.hB.2; have := HC7Y.out.size; omega⟩)
       obtain ⟨R, hR⟩ : ∃ R, R = (wrows.drop (m + 1)).flatten ++ pad := ⟨_, rfl⟩
       rw [← hR] at hwb
       have HR := Hd hR
       have HX := Hd hx2
       have HAL := Hd hal
       have HWKB := Hd (hwb.chg HC7Y.out id)
       have HB7X := Hd (show Blk wy g7 (cellsW x tv iv) 79 by rw [hg7, hwy]; exact Blk.new wr _ 79)
       have HN7 := Hd (show ¬ g7 = b2 by have := HB2L.out; omega)
       have HBG := Hd (HB7.out.chg hall (fun e => by have e1 : g = b2 := e; have := HB2L.out; omega))
       have HNG := Hd (show ¬ g = b2 by have := HB2L.out; omega)
       have hcw : Chg No w wy := (HCCE.out.chg.trans HC7.out (fun x hx e => by have e1 : x = g := e; have := HBW.out; omega)).trans hall (fun x hx e => by have e1 : x = b2 := e; have := HBW.out; have := HB2L.out; omega)
       have HTV := Hd (htv.chg hcw (fun _ _ e => e))
       have HIV0 := Hd (hiv.chg hcw (fun _ _ e => e))
       have HOKW := Hd (show ∀ q, okB ok w q -> ¬ q = b2 from fun q hq e => by have := hq.2; have := HBW.out; have := HB2L.out; omega)
       have HWR := Hd (HCR.out.2.2.2.2.2.2.2.1 x (List.mem_of_getElem? hx2))
       have HM := Hd (show m < wrows.length /\ wrows.length ≤ sc /\ sc ≠ 0 from ⟨hlt, HCPOS.out⟩)
       have hm9 : sc ≠ 0 := HCPOS.out.2
       have HB7 := HB7X
       clear hwb hal qd hol hall htv hiv hcw hr0 hx2 hR hwy hg7 hsz7
       refine wp_region_inv (FI [.eq (.pointer (some ⟨g, 10, none⟩)), .eq (.slice (some ⟨b2, 0, none⟩) wrows.length sc), .eq (.int .i64 m), .eq (.pointer (some ⟨g, 10, none⟩)), .eq (.slice (some ⟨b2, 0, none⟩) wrows.length sc), .eq (.int .i64 m), .eq (.pointer (some ⟨g7, 4, none⟩)), .eq tv, .own BB 9 1 (kRows x.tags), .eq (.pointer (some ⟨g7, 6, none⟩)), .eq iv, .own BB 110 4 (impRows x.imports), .eq (.pointer (some ⟨b2, m * 7, none⟩)), .eq (.pointer (some ⟨b2, m * 7 + 4, none⟩)), .any, .eq (.pointer (some ⟨b2, m * 7, none⟩)), .eq (.pointer (some ⟨b2, m * 7 + 6, none⟩)), .any])
        (fun done w' => WC b2 m x A.flatten R tv iv BB wy w' (done 14) (done 17)) (by kernel_rfl) (by kernel_rfl) (WC.start HWB.out HWKB.out) ?_ ?_
       ·refine ⟨?_, ?_, ?_, ?_, ?_, ?_, ?_, ?_, ?_, ?_, ?_, ?_, ?_, ?_, ?_, ?_, ?_, ?_, trivial⟩
        ·intro done a w1 K hd qd qe qf qb hG hK
         have e1 : a.tmps[1]?.getD undef = .pointer (some ⟨g, 0, none⟩) := qf 1 rfl
         clear qd qe qf qb
         go_simp
         exact hK _ _ rfl (by simpa [dn] using hG) (fun _ _ _ _ h => h)
        ·intro done a w1 K hd qd qe qf qb hG hK
         have e41 : a.tmps[41]?.getD undef = .pointer (some ⟨g, 10, none⟩) := qe 0 41 rfl (qb 0 rfl)
         have c0 : w1.cell? ⟨g, 10, none⟩ = some (.slice (some ⟨b2, 0, none⟩) wrows.length sc) := (HBG.out.chg hG.chg HNG.out).cell 10
         clear qd qe qf qb
         go_simp
         exact hK _ _ rfl (by simpa [dn] using hG) (fun _ _ _ _ h => h)
        ·intro done a w1 K hd qd qe qf qb hG hK
         have e6 : a.tmps[6]?.getD undef = .int .i64 m := qf 6 rfl
         clear qd qe qf qb
         go_simp
         exact hK _ _ rfl (by simpa [dn] using hG) (fun _ _ _ _ h => h)
        ·intro done a w1 K hd qd qe qf qb hG hK
         have e1 : a.tmps[1]?.getD undef = .pointer (some ⟨g, 0, none⟩) := qf 1 rfl
         clear qd qe qf qb
         go_simp
         exact hK _ _ rfl (by simpa [dn] using hG) (fun _ _ _ _ h => h)
        ·intro done a w1 K hd qd qe qf qb hG hK
         have e44 : a.tmps[44]?.getD undef = .pointer (some ⟨g, 10, none⟩) := qe 3 44 rfl (qb 3 rfl)
         have c0 : w1.cell? ⟨g, 10, none⟩ = some (.slice (some ⟨b2, 0, none⟩) wrows.length sc) := (HBG.out.chg hG.chg HNG.out).cell 10
         clear qd qe qf qb
         go_simp
         exact hK _ _ rfl (by simpa [dn] using hG) (fun _ _ _ _ h => h)
        ·intro done a w1 K hd qd qe qf qb hG hK
         have e6 : a.tmps[6]?.getD undef = .int .i64 m := qf 6 rfl
         clear qd qe qf qb
         go_simp
         exact hK _ _ rfl (by simpa [dn] using hG) (fun _ _ _ _ h => h)
        ·intro done a w1 K hd qd qe qf qb hG hK
         have e7 : a.tmps[7]?.getD undef = .pointer (some ⟨g7, 0, none⟩) := qf 7 rfl
         clear qd qe qf qb
         go_simp
         exact hK _ _ rfl (by simpa [dn] using hG) (fun _ _ _ _ h => h)
        ·intro done a w1 K hd qd qe qf qb hG hK
         have e47 : a.tmps[47]?.getD undef = .pointer (some ⟨g7, 4, none⟩) := qe 6 47 rfl (qb 6 rfl)
         obtain ⟨ia, inn, ic, hiv⟩ : ∃ ia inn ic, tv = .slice ia inn ic := by obtain ⟨-, -, ia, ic, hiv, -, -⟩ := HTV.out; exact ⟨_, _, _, hiv⟩
         have c0 : w1.cell? ⟨g7, 4, none⟩ = some (.slice ia inn ic) := by rw [← hiv]; exact (HB7.out.chg hG.chg HN7.out).cell 4
         have HIV := Hd hiv
         clear hiv
         clear qd qe qf qb
         go_simp
         exact hK _ _ HIV.out.symm (by simpa [dn] using hG) (fun _ _ _ _ h => h)
        ·intro done a w1 K hd qd qe qf qb hG hK
         have e48 : a.tmps[48]?.getD undef = tv := qe 7 48 rfl (qb 7 rfl)
         refine if_wanted rfl ?_
         refine wp_appendRows elem23 rfl rfl (OwnR.nil w1 BB 9 1) (by simpa [Act.eval] using e48) (HTV.out.chg hG.chg HOKW.out) (by intro r hr; obtain ⟨q, -, rfl⟩ := List.mem_map.1 hr; rfl) (by have := HWR.out.sm.tags.1; simp [kRows]; omega) (by decide) hG.hB.2 ?_
         intro v' w2 hO hC hB hOld
         have hC' : Chg No w1 w2 := hC.mono (fun i _ e => by cases e)
         exact hK v' w2 (by simpa [FI, Fact.own] using hO) (by simpa [dn] using hG.chgNo hC') (fun _ _ _ _ h => h.keepNo hC')
        ·intro done a w1 K hd qd qe qf qb hG hK
         have e7 : a.tmps[7]?.getD undef = .pointer (some ⟨g7, 0, none⟩) := qf 7 rfl
         clear qd qe qf qb
         go_simp
         exact hK _ _ rfl (by simpa [dn] using hG) (fun _ _ _ _ h => h)
        ·intro done a w1 K hd qd qe qf qb hG hK
         have e50 : a.tmps[50]?.getD undef = .pointer (some ⟨g7, 6, none⟩) := qe 9 50 rfl (qb 9 rfl)
         obtain ⟨ia, inn, ic, hiv⟩ : ∃ ia inn ic, iv = .slice ia inn ic := by obtain ⟨-, -, ia, ic, hiv, -, -⟩ := HIV0.out; exact ⟨_, _, _, hiv⟩
         have c0 : w1.cell? ⟨g7, 6, none⟩ = some (.slice ia inn ic) := by rw [← hiv]; exact (HB7.out.chg hG.chg HN7.out).cell 6
         have HIV := Hd hiv
         clear hiv
         clear qd qe qf qb
         go_simp
         exact hK _ _ HIV.out.symm (by simpa [dn] using hG) (fun _ _ _ _ h => h)
        ·intro done a w1 K hd qd qe qf qb hG hK
         have e51 : a.tmps[51]?.getD undef = iv := qe 10 51 rfl (qb 10 rfl)
         refine if_wanted rfl ?_
         refine wp_appendRows elem77 rfl rfl (OwnR.nil w1 BB 110 4) (by simpa [Act.eval] using e51) (HIV0.out.chg hG.chg HOKW.out) (by intro r hr; obtain ⟨q, -, rfl⟩ := List.mem_map.1 hr; rfl) (by have := HWR.out.imps; simp only [List.length_nil, List.length_map]; omega) (by decide) hG.hB.2 ?_
         intro v' w2 hO hC hB hOld
         have hC' : Chg No w1 w2 := hC.mono (fun i _ e => by cases e)
         exact hK v' w2 (by simpa [FI, Fact.own] using hO) (by simpa [dn] using hG.chgNo hC') (fun _ _ _ _ h => h.keepNo hC')
        ·intro done a w1 K hd qd qe qf qb hG hK
         have e42 : a.tmps[42]?.getD undef = .slice (some ⟨b2, 0, none⟩) wrows.length sc := qe 1 42 rfl (qb 1 rfl)
         have e43 : a.tmps[43]?.getD undef = .int .i64 m := qe 2 43 rfl (qb 2 rfl)
         have hm1 := HM.out
         have hm2 : (m : Int) < (wrows.length : Int) := by omega
         clear qd qe qf qb
         go_simp
         exact hK _ _ rfl (by simpa [dn] using hG) (fun _ _ _ _ h => h)
        ·intro done a w1 K hd qd qe qf qb hG hK
         have e53 : a.tmps[53]?.getD undef = .pointer (some ⟨b2, m * 7, none⟩) := qe 12 53 rfl (qb 12 rfl)
         clear qd qe qf qb
         go_simp
         exact hK _ _ rfl (by simpa [dn] using hG) (fun _ _ _ _ h => h)
        ·intro done a w1 K hd qd qe qf qb hG hK
         have e54 : a.tmps[54]?.getD undef = .pointer (some ⟨b2, m * 7 + 4, none⟩) := qe 13 54 rfl (qb 13 rfl)
         have hO : OwnR w1 BB 9 1 (a.tmps[49]?.getD undef) (kRows x.tags) := qe 8 49 rfl (qb 8 rfl)
         have n17 : done 17 = false := by
          cases hh0 : done 17 with
          | false => rfl
          | true => have := qd 17 14 rfl hh0; rw [hd] at this; cases this
         rw [hd, n17] at hG
         obtain ⟨t', i', hb, -⟩ := hG.box
         refine if_wanted rfl ?_
         refine wp_setSlice rfl (by simpa [Act.eval] using e54) hO.slice Tryz.sizeOf23 hb (by simp only [List.length_append, HAL.out, cellsW, List.length_cons, List.length_nil]; omega) (by simp [Act.eval]) ?_
         intro w2 hb2 hc2 hs2
         refine hK undef _ trivial (by simpa [dn, n17] using hG.storeT hO hb (by rw [HAL.out]; exact hb2) hc2) ?_
         refine fun j hj _ u hu => hu.keep hc2 (safe_of (i := 14) (fun j hl hj => ?_) j hj)
         match j, hj with
         | 0, _ => exact trivial
         | 1, _ => exact trivial
         | 2, _ => exact trivial
         | 3, _ => exact trivial
         | 4, _ => exact trivial
         | 5, _ => exact trivial
         | 6, _ => exact trivial
         | 7, _ => exact trivial
         | 8, _ => exact fun q hq hb => by have e1 : q = b2 := hq; have := HWB.out; omega
         | 9, _ => exact trivial
         | 10, _ => exact trivial
         | 11, _ => exact fun q hq hb => by have e1 : q = b2 := hq; have := HWB.out; omega
         | 12, _ => exact trivial
         | 13, _ => exact trivial
         | 14, hj => exact absurd rfl hj
         | 15, _ => exact trivial
         | 16, _ => exact trivial
         | 17, _ => exact trivial
         | j + 18, _ => exact absurd hl (by simp)
        ·intro done a w1 K hd qd qe qf qb hG hK
         have e45 : a.tmps[45]?.getD undef = .slice (some ⟨b2, 0, none⟩) wrows.length sc := qe 4 45 rfl (qb 4 rfl)
         have e46 : a.tmps[46]?.getD undef = .int .i64 m := qe 5 46 rfl (qb 5 rfl)
         have hm1 := HM.out
         have hm2 : (m : Int) < (wrows.length : Int) := by omega
         clear qd qe qf qb
         go_simp
         exact hK _ _ rfl (by simpa [dn] using hG) (fun _ _ _ _ h => h)
        ·intro done a w1 K hd qd qe qf qb hG hK
         have e55 : a.tmps[55]?.getD undef = .pointer (some ⟨b2, m * 7, none⟩) := qe 15 55 rfl (qb 15 rfl)
         clear qd qe qf qb
         go_simp
         exact hK _ _ rfl (by simpa [dn] using hG) (fun _ _ _ _ h => h)
        ·intro done a w1 K hd qd qe qf qb hG hK
         have e56 : a.tmps[56]?.getD undef = .pointer (some ⟨b2, m * 7 + 6, none⟩) := qe 16 56 rfl (qb 16 rfl)
         have hO : OwnR w1 BB 110 4 (a.tmps[52]?.getD undef) (impRows x.imports) := qe 11 52 rfl (qb 11 rfl)
         have h14 : done 14 = true := qb 14 rfl
         rw [hd, h14] at hG
         obtain ⟨t', i', hb, -⟩ := hG.box
         refine if_wanted rfl ?_
         refine wp_setSlice rfl (by simpa [Act.eval] using e56) hO.slice Tryz.sizeOf77 hb (by simp only [List.length_append, HAL.out, cellsW, List.length_cons, List.length_nil]; omega) (by simp [Act.eval]) ?_
         intro w2 hb2 hc2 hs2
         refine hK undef _ trivial (by simpa [dn, h14] using hG.storeI hO hb (by rw [HAL.out]; exact hb2) hc2) ?_
         refine fun j hj _ u hu => hu.keep hc2 (safe_of (i := 17) (fun j hl hj => ?_) j hj)
         match j, hj with
         | 0, _ => exact trivial
         | 1, _ => exact trivial
         | 2, _ => exact trivial
         | 3, _ => exact trivial
         | 4, _ => exact trivial
         | 5, _ => exact trivial
         | 6, _ => exact trivial
         | 7, _ => exact trivial
         | 8, _ => exact fun q hq hb => by have e1 : q = b2 := hq; have := HWB.out; omega
         | 9, _ => exact trivial
         | 10, _ => exact trivial
         | 11, _ => exact fun q hq hb => by have e1 : q = b2 := hq; have := HWB.out; omega
         | 12, _ => exact trivial
         | 13, _ => exact trivial
         | 14, _ => exact trivial
         | 15, _ => exact trivial
         | 16, _ => exact trivial
         | 17, hj => exact absurd rfl hj
         | j + 18, _ => exact absurd hl (by simp)
       ·intro vs w2 hvs hvn hG
        have HWK2 := Hd (HWK.out.step HX.out HR.out HC7Y.out hG)
        have HC13 := Hd hG.chg
        clear hvs hvn hG
        obtain ⟨A2, hwk2⟩ := HWK2.out
        have HWK3 := Hd hwk2
        clear hwk2
        simp only [putAll, Act.put, List.setIfInBounds_toArray, List.set_cons_succ, List.set_cons_zero]
        go_wp2_with fail
        go_roundw
        case rel => first | exact ⟨m + 1, _, by go_num, HWK3.out⟩ | ((repeat apply Exists.intro); exact ⟨⟨m + 1, _, by go_num, HWK3.out⟩, rfl⟩)
        case measure => simp [intOf]; omega
      ·have hnl : m = wrows.length := by have := HWK.out.le; have := HM0.out; omega
       subst hnl
       have h64 : ¬ ((wrows.length : Nat) : Int) < (wrows.length : Int) := by omega
       have hwk := HWK.out
       rw [show wrows.length = c.wants.length from HM0.out] at hwk
       have hblk := hwk.blk
       rw [show wrows.drop c.wants.length = [] from List.drop_of_length_le (by have := HM0.out; omega), List.flatten_nil, List.nil_append] at hblk
       have hrow := RowAt.ofBlk (cap := sc) hblk hwk.seven (by have := hwk.len; have := HM0.out; unfold maxLen; omega)
       rw [hwk.len] at hrow
       rw [← HM0.out] at hrow
       have hcg := HC7.out.trans HWK.out.chg (fun x hx e => by have e1 : x = b2 := e; have := HB2L.out; have := HBW7.out; omega)
       have HFIN := Hd (ChJ.fin HCCE.out HNM.out HVR.out hcg (hrow.mono (fun b _ hb => by have := HB2L.out; omega) (by decide)) hwk.len (fun j r x h1 h2 => (hwk.val j r x h1 h2).mono (fun b _ hb => by have := HB2L.out; have := HBBE.out; omega)))
       have ho1 := HFIN.out.one.2
       have hcgl := HWK.out.chg
       have HBG := Hd (HB7.out.chg hcgl (fun e => by have e1 : g = b2 := e; have := HB2L.out; omega))
       have HRG := Hd (HRB7.out.chg hcgl (fun e => by have e1 : g + 1 = b2 := e; have := HB2L.out; omega))
       have HCALL := Hd (HCCE.out.chg.trans hcg (fun x hx e => by have e1 : x = g := e; have := HBW.out; omega))
       clear hwk hblk hrow hcg hcgl
       go_wp2_with (first | (with_reducible refine wpList_loadAgg rfl agg30 rfl rfl HBG.out.cells rfl ?_) | (with_reducible refine wpList_storeBlk rfl agg30 rfl rfl rfl HRG.out rfl rfl ho1 ?_; intro w8 hb8 hc8 hs8))
       refine bodyPost_ret (results_blk rfl agg30 rfl hb8 rfl) rfl ⟨_, rfl, (HFIN.out.chg hc8 (fun x hx e => by have e1 : x = g + 1 := e; have := HBW.out; omega)).mono (fun x _ hx => by have := HBW.out; omega), HCALL.out.trans hc8 (fun x hx e => by have e1 : x = g + 1 := e; have := HBW.out; omega)⟩
end Go.Proofs.YtljaoopfomcaoaaGreatDoor
