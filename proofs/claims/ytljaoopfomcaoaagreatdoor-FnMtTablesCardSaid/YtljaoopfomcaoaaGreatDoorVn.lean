/-
  The walk of MergedValues (the door).
-/
import Derived.Test.YtljaoopfomcaoaaGreatDoorVm
set_option linter.unusedVariables false
set_option linter.unusedSimpArgs false
namespace Go.Proofs.YtljaoopfomcaoaaGreatDoor
open Go.RowKit

theorem idle62 (p q : Value) (w : World) : CallsD Tryz.prog 62 #[p, q] .returning w fun e u' w' => e = .returned (.tuple #[]) ∧ u' = .returning ∧ w' = w := by
  refine callsD_of_wpS Tryz.func62 rfl fun c₀ cs hu => ?_
  apply wpS_seq
  apply wpS_region
  simp [wpOpsS, go_sem, recoverD, hu, Tryz.ntmps62, Exit.thenS]
  refine wpS_cond (t := false) (by simp [Act.eval, Array.replicate]) ?_
  simp only [Bool.false_eq_true, if_false]
  refine wpS_of_wp (wp_skip ?_)
  cases c₀
  simp_all [bodyPostS, results, Tryz.results62]

set_option maxRecDepth 100000 in
set_option maxHeartbeats 1000000 in
theorem mergedValuesTop_any (N : Nat) (hN : N < 1099511627776) (d : Nat) (hd : d ≤ 61) (hd1 : 1 ≤ d) (ok : Nat → Prop) (xs : List J) (lv : Value) (rows0 : List (List Value)) (w : World) (hl : RowAt ok w lv 7 rows0) (hn : rows0.length = xs.length) (hr : ∀ (n : Nat) (r : List Value) (x : J), rows0[n]? = some r → xs[n]? = some x → ValJ ok w r x)
    (hw : ∀ x ∈ xs, Wf N d x ∧ (x = .null ∨ isT x = true) ∧ sz x ≤ 2000) (hx : xs.length ≤ 40) (hNN : N * xs.length + N < 1099511627776) :
    Calls Tryz.prog 24 #[lv, .slice none 0 0, .slice none 0 0] w fun e w' => ∃ cs : List Value, e = .returned (.tuple #[.agg cs.toArray, .int .i64 0]) ∧ ValJ (fun x => w.heap.size ≤ x) w' cs (.table (mergeAll xs)) ∧ Chg No w w' := by
  have hmf : ∀ (fn : Fn) (first cap : Array Value) (w : World), (Instr.makeFunc fn first cap).run Tryz.prog w = .ok (.func fn first cap) w := fun _ _ _ _ => rfl
  have hfacts : ∀ W, (w.alloc (.cells zero7.toArray 26)).alloc (.cells [.int .i64 0].toArray 3) = W → Blk W w.heap.size zero7 26 ∧ Blk W (w.heap.size + 1) [.int .i64 0] 3 ∧ Chg No w W := by
    rintro W rfl
    exact ⟨(Blk.new _ _ _).alloc _, Blk.newAt (by simp) _ _, ((Chg.refl No w).alloc _).alloc _⟩
  have HF := Lib.hid hfacts
  have HL := Lib.hid hl
  have HN := Lib.hid hn
  have HR := Lib.hid hr
  have WX := Lib.hid hw
  have HNN := Lib.hid hNN
  have HX := Lib.hid hx
  clear hfacts hl hn hr hw hNN hx
  go_enter_defers Tryz.func24, Tryz.ntmps24
  go_upto_region 2 with fail
  generalize hgw : World.alloc _ _ = W
  obtain ⟨b2, b3, c4⟩ := HF.out W hgw
  clear hgw HF
  have HC4 := Lib.hid c4
  have hl3 := b3.lt
  clear c4
  obtain ⟨g2, hg2⟩ : ∃ g2, g2 = w.heap.size := ⟨_, rfl⟩
  obtain ⟨g3, hg3⟩ : ∃ g3, g3 = w.heap.size + 1 := ⟨_, rfl⟩
  rw [← hg3] at b3 hl3 ⊢
  rw [← hg2] at b2 ⊢
  have HG := Lib.hid (show g2 = w.heap.size ∧ g2 < g3 by omega)
  have HL3 := Lib.hid hl3
  clear hg2 hg3 hl3
  go_wp2_with fail
  refine (options_any N hN d hd (okB ok w) xs lv rows0 W ((HL.out.mono (ok' := okB ok w) (fun x hx h => ⟨h, hx⟩) (by decide)).chg HC4.out (fun _ _ e => e)) HN.out (fun n r x h1 h2 => (HR.out n r x h1 h2).bel.chg HC4.out (fun _ _ e => e)) WX.out HX.out).mono ?_
  rintro e w5 ⟨g, fn, vf, ms, rfl, hop⟩
  have HC5 := Lib.hid hop.chg
  have HOP := Lib.hid hop
  replace b2 := b2.chg hop.chg id
  replace b3 := b3.chg hop.chg id
  clear hop
  go_wp2_with fail
  refine (mergeValues_any N d hd1 xs HNN.out W g fn vf ms w5 HOP.out (fun x hx => ⟨(WX.out x hx).1, (WX.out x hx).2.1⟩) HX.out).mono ?_
  rintro e w7 ⟨mr, rfl, hmr, hc7⟩
  replace b2 := b2.chg hc7 id
  replace b3 := b3.chg hc7 id
  have HMR := Lib.hid hmr
  have HC7 := Lib.hid hc7
  clear hmr hc7
  go_wp2_with fail
  have hwm : Wf (N * xs.length) d (.table (mergeAll xs)) := by
    have h := Wf.mergeAll hd1 (fun x hx => (WX.out x hx).1) xs.length (Nat.le_refl _)
    rwa [List.take_length] at h
  refine (valueOf_any (N * xs.length) (by have := HNN.out; omega) (by omega : d ≤ 4001) HMR.out hwm).mono ?_
  rintro e w8 ⟨cs, rfl, hcs, hc8⟩
  replace b2 := b2.chg hc8 id
  replace b3 := b3.chg hc8 id
  have hl := hcs.length
  have ho := hcs.one
  have HCS := Lib.hid hcs
  have HC8 := Lib.hid hc8
  clear hcs hc8 hwm
  have HB3 := Lib.hid b3
  clear b3
  have hne : ¬ g3 = g2 := by have := HG.out; omega
  have HNE := Lib.hid hne
  clear hne
  go_wp2_with (first | (with_reducible refine wpList_storeBlk rfl agg26 rfl rfl rfl b2 rfl hl ho ?_; intro w9 hb9 hc9 hs9; (have b39 := HB3.out.chg hc9 HNE.out); (have k3 := b39.cell 0); (have f3 := b39.frozen 0); (simp only [List.getElem?_cons_zero] at k3)))
  obtain ⟨hb3y, hcy, -⟩ := b39.setCell 0 (.int .i64 0)
  have hb2y := hb9.chg hcy (by have := HNE.out; omega)
  refine leaves_cons (f := 62) (args := #[.pointer (some ⟨g2, 0, none⟩), .pointer (some ⟨g3, 0, none⟩)]) (by simp) (by simp [go_sem]) ?_
  refine (idle62 _ _ _).mono ?_
  rintro e u' w'' ⟨rfl, rfl, rfl⟩
  have hgs := HG.out
  have hl3 := HL3.out
  have hs5 := HC5.out.size
  have hs7 := HC7.out.size
  refine ⟨_, results_blk_cell (p := 6) (q := 7) rfl agg26 rfl hb2y hl Tryz.isAgg3 rfl (hb3y.cell 0), _, rfl, ?_, ?_⟩
  · have h1 := (HCS.out.chg hc9 (fun b hb e => by omega)).chg hcy (fun b hb e => by omega)
    exact h1.mono (fun b _ hb => by omega)
  · exact ((((HC4.out.trans' HC5.out).trans' HC7.out).trans' HC8.out).trans hc9 (fun i hi e => absurd e (by omega))).trans hcy (fun i hi e => absurd e (by omega))

end Go.Proofs.YtljaoopfomcaoaaGreatDoor
