/-
  The walk of MergeMaps (the door).
-/
import Derived.Test.YtljaoopfomcaoaaGreatDoorVh
import Derived.Defers
import Derived.Recover
set_option linter.unusedVariables false
set_option linter.unusedSimpArgs false
namespace Go.Proofs.YtljaoopfomcaoaaGreatDoor
open Go.RowKit

theorem idle60 (p q : Value) (w : World) : CallsD Tryz.prog 60 #[p, q] .returning w fun e u' w' => e = .returned (.tuple #[]) ∧ u' = .returning ∧ w' = w := by
  refine callsD_of_wpS Tryz.func60 rfl fun c₀ cs hu => ?_
  apply wpS_seq
  apply wpS_region
  simp [wpOpsS, go_sem, recoverD, hu, Tryz.ntmps60, Exit.thenS]
  refine wpS_cond (t := false) (by simp [Act.eval, Array.replicate]) ?_
  simp only [Bool.false_eq_true, if_false]
  refine wpS_of_wp (wp_skip ?_)
  cases c₀
  simp_all [bodyPostS, results, Tryz.results60]

/-- The results are a struct in a block and a number in a block. -/
theorem results_blk_cell {P : Program} {fn : Func} {p q : Tmp} {ty ty' n : Nat} (h : fn.results = #[.cell p ty, .cell q ty']) (hT : AggTy P ty n) {tmps : Array Value} {w : World} {g : Nat} {cs : List Value} {t : TypeId}
    (hp : tmps.getD p undef = .pointer (some ⟨g, 0, none⟩)) (hb : Blk w g cs t) (hl : cs.length = n) (hna : ∀ w, (isAgg ty').run P w = .ok false w) {a : Addr} {v : Value} (hq : tmps.getD q undef = .pointer (some a)) (hc : w.cell? a = some v) :
    (results fn tmps).run P w = .ok (.tuple #[.agg cs.toArray, v]) w := by
  have h1 := run_loadAgg w hT (b := g) (o := 0) hb.cells hl
  have h2 : (loadVar ty' a).run P w = .ok v w := by simp [loadVar, Sem.run_bind, hna, go_sem, hc]
  have hp' : tmps[p]?.getD undef = .pointer (some ⟨g, 0, none⟩) := by simpa using hp
  have hq' : tmps[q]?.getD undef = .pointer (some a) := by simpa using hq
  simp only [results, h]
  simp [Sem.run_bind, hp', hq', asAddr, Result.andThen, h1, h2]

set_option maxRecDepth 100000 in
set_option maxHeartbeats 1000000 in
theorem mergeMapsTop_any (n m : Nat) (hnm : n + m < 1099511627776) {d : Nat} (hd : d ≤ 61) {ok : Nat → Prop} {a b : T} {ca cb : List Value} {w : World} (ha : ValJ ok w ca (.table a)) (hb : ValJ ok w cb (.table b))
    (wa : Wf n d (.table a)) (wb : Wf m d (.table b)) (sa : sz (.table a) ≤ 2000) (sb : sz (.table b) ≤ 2000) :
    Calls Tryz.prog 23 #[.agg ca.toArray, .agg cb.toArray] w fun e w' => ∃ cs : List Value, e = .returned (.tuple #[.agg cs.toArray, .int .i64 0]) ∧ ValJ (fun x => w.heap.size ≤ x) w' cs (.table (merged a b)) ∧ Chg No w w' := by
  obtain ⟨ab, ai, af, at_, akv, alv, rfl⟩ := ha.table7
  obtain ⟨bb, bi, bf, bt, bkv, blv, rfl⟩ := hb.table7
  have hmf : ∀ (fn : Fn) (first cap : Array Value) (w : World), (Instr.makeFunc fn first cap).run Tryz.prog w = .ok (.func fn first cap) w := fun _ _ _ _ => rfl
  have HA := Lib.hid ha
  have HB := Lib.hid hb
  have WA := Lib.hid wa
  have WB := Lib.hid wb
  have SA := Lib.hid sa
  have SB := Lib.hid sb
  clear ha hb wa wb sa sb
  have hfacts : ∀ W, (((w.alloc (.cells (cells7 7 ab ai af at_ akv alv).toArray 26)).alloc (.cells (cells7 7 bb bi bf bt bkv blv).toArray 26)).alloc (.cells zero7.toArray 26)).alloc (.cells [.int .i64 0].toArray 3) = W →
      Blk W w.heap.size (cells7 7 ab ai af at_ akv alv) 26 ∧ Blk W (w.heap.size + 1) (cells7 7 bb bi bf bt bkv blv) 26 ∧ Blk W (w.heap.size + 1 + 1) zero7 26 ∧ Blk W (w.heap.size + 1 + 1 + 1) [.int .i64 0] 3 ∧ Chg No w W := by
    rintro W rfl
    exact ⟨(((Blk.new _ _ _).alloc _).alloc _).alloc _, ((Blk.newAt (by simp) _ _).alloc _).alloc _, (Blk.newAt (by simp) _ _).alloc _, Blk.newAt (by simp) _ _, ((((Chg.refl No w).alloc _).alloc _).alloc _).alloc _⟩
  have HF := Lib.hid hfacts
  clear hfacts
  go_enter_defers Tryz.func23, Tryz.ntmps23
  unfold cells7
  go_upto_region 2 with fail
  generalize hgw : World.alloc _ _ = W
  obtain ⟨b0, b1, b2, b3, c4⟩ := HF.out W hgw
  clear hgw HF
  have HC4 := Lib.hid c4
  have hl3 := b3.lt
  clear c4
  obtain ⟨g0, hg0⟩ : ∃ g0, g0 = w.heap.size := ⟨_, rfl⟩
  obtain ⟨g1, hg1⟩ : ∃ g1, g1 = w.heap.size + 1 := ⟨_, rfl⟩
  obtain ⟨g2, hg2⟩ : ∃ g2, g2 = w.heap.size + 1 + 1 := ⟨_, rfl⟩
  obtain ⟨g3, hg3⟩ : ∃ g3, g3 = w.heap.size + 1 + 1 + 1 := ⟨_, rfl⟩
  rw [← hg3] at b3 hl3 ⊢
  rw [← hg2] at b2 ⊢
  rw [← hg1] at b1 ⊢
  rw [← hg0] at b0 ⊢
  have HG := Lib.hid (show g0 = w.heap.size ∧ g0 < g1 ∧ g1 < g2 ∧ g2 < g3 by omega)
  have HL3 := Lib.hid hl3
  clear hg0 hg1 hg2 hg3 hl3
  go_wp2_with (first | (with_reducible refine wpList_loadAgg rfl agg26 rfl rfl b0.cells rfl ?_))
  refine (table_table (by omega : n < 1099511627776) (HA.out.bel.chg HC4.out (fun _ _ e => e)) WA.out SA.out hd).mono ?_
  rintro e w5 ⟨ma, rfl, hma, hc5⟩
  replace b1 := b1.chg hc5 id
  replace b2 := b2.chg hc5 id
  replace b3 := b3.chg hc5 id
  have HMA := Lib.hid hma
  have HC5 := Lib.hid hc5
  clear hma hc5 b0
  go_wp2_with (first | (with_reducible refine wpList_loadAgg rfl agg26 rfl rfl b1.cells rfl ?_))
  refine (table_table (by omega : m < 1099511627776) (HB.out.bel.chg (HC4.out.trans' HC5.out) (fun _ _ e => e)) WB.out SB.out hd).mono ?_
  rintro e w6 ⟨mb, rfl, hmb, hc6⟩
  replace b2 := b2.chg hc6 id
  replace b3 := b3.chg hc6 id
  have HMB := Lib.hid hmb
  have HC6 := Lib.hid hc6
  clear hmb hc6 b1
  go_wp2_with fail
  refine (zzMergeMaps_any (mergeMaps_any n m hnm d (fun x => W.heap.size ≤ x) a b (.map (some ma)) (.map (some mb)) w6 (HMA.out.chg HC6.out (fun _ _ e => e)) (HMB.out.mono (fun x _ hx => Nat.le_trans HC5.out.size hx)) WA.out WB.out)).mono ?_
  rintro e w7 ⟨mr, rfl, hmr, hc7⟩
  replace b2 := b2.chg hc7 id
  replace b3 := b3.chg hc7 id
  have HMR := Lib.hid hmr
  have HC7 := Lib.hid hc7
  clear hmr hc7
  go_wp2_with fail
  refine (valueOf_any (n + m) hnm (by omega : d ≤ 4001) HMR.out (WA.out.merged WB.out)).mono ?_
  rintro e w8 ⟨cs, rfl, hcs, hc8⟩
  replace b2 := b2.chg hc8 id
  replace b3 := b3.chg hc8 id
  have hl := hcs.length
  have ho := hcs.one
  have HCS := Lib.hid hcs
  have HC8 := Lib.hid hc8
  clear hcs hc8
  have HB3 := Lib.hid b3
  clear b3
  have hne : ¬ g3 = g2 := by have := HG.out; omega
  have HNE := Lib.hid hne
  clear hne
  go_wp2_with (first | (with_reducible refine wpList_storeBlk rfl agg26 rfl rfl rfl b2 rfl hl ho ?_; intro w9 hb9 hc9 hs9; (have b39 := HB3.out.chg hc9 HNE.out); (have k3 := b39.cell 0); (have f3 := b39.frozen 0); (simp only [List.getElem?_cons_zero] at k3)))
  obtain ⟨hb3y, hcy, -⟩ := b39.setCell 0 (.int .i64 0)
  have hb2y := hb9.chg hcy (by have := HNE.out; omega)
  refine leaves_cons (f := 60) (args := #[.pointer (some ⟨g2, 0, none⟩), .pointer (some ⟨g3, 0, none⟩)]) (by simp) (by simp [go_sem]) ?_
  refine (idle60 _ _ _).mono ?_
  rintro e u' w'' ⟨rfl, rfl, rfl⟩
  refine ⟨_, results_blk_cell (p := 4) (q := 5) rfl agg26 rfl hb2y hl Tryz.isAgg3 rfl (hb3y.cell 0), _, rfl, ?_, ?_⟩
  · have h1 := (HCS.out.chg hc9 (fun b hb e => by have := HL3.out; have := HG.out; have := HC5.out.size; have := HC6.out.size; have := HC7.out.size; omega)).chg hcy (fun b hb e => by have := HL3.out; have := HG.out; have := HC5.out.size; have := HC6.out.size; have := HC7.out.size; omega)
    exact h1.mono (fun b _ hb => by have := HL3.out; have := HG.out; have := HC5.out.size; have := HC6.out.size; have := HC7.out.size; omega)
  · exact ((((((HC4.out.trans' HC5.out).trans' HC6.out).trans' HC7.out).trans' HC8.out).trans hc9 (fun i hi e => absurd e (by have := HG.out; omega))).trans hcy (fun i hi e => absurd e (by have := HG.out; omega)))

end Go.Proofs.YtljaoopfomcaoaaGreatDoor
