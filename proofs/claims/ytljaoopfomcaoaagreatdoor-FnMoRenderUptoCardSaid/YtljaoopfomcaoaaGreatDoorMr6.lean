/- A part of the proof. -/
import Derived.Test.YtljaoopfomcaoaaGreatDoorMr5
import Derived.Handy
import Derived.Laws.Cover4
import Derived.Laws.IdiomStrings
import Derived.WalkMore
import Derived.ReadAgain
import Derived.Deep.Slices
import Derived.Deep.Strs
import Derived.ChangeBears
import Derived.RowKit
import Derived.SizedLaws
import Derived.Test.YtljaoopfomcaoaaGreatDoorRows
set_option linter.unusedVariables false
set_option linter.unusedSimpArgs false
set_option maxRecDepth 100000
set_option maxHeartbeats 4000000
namespace Go.Proofs.YtljaoopfomcaoaaGreatDoor
open Go.RowKit
theorem agg55 : AggTy Tryz.prog 55 5 := ⟨⟨_, Tryz.underlying55⟩, by kernel_rfl⟩
def codeOf (r : Option T) : Int := if r = none then 1 else 0
def resT (r : Option T) (c : Ch) (nm ns : K) (rev : Int) (up ins : Bool) : J := match r with
 | none => .null
 | some t => .table (topT c.name c.version nm ns rev up ins t)
theorem rend_res {r : Option T} {c : Ch} {nm ns : K} {rev : Int} {up ins : Bool} {w w' : World} {e : Ending} (h : RendRet w c.name c.version nm ns rev up ins r e w') :
  ∃ cs : List Value, e = .returned (.tuple #[.agg cs.toArray, .int .i64 (codeOf r)]) /\ Chg No w w' /\ ValJ (fun x => w.heap.size ≤ x) w' cs (resT r c nm ns rev up ins) := by
 obtain ⟨cs, code, he, hc, h1, h2⟩ := h
 cases r with
 | none => obtain ⟨rfl, hv⟩ := h1 rfl; exact ⟨cs, he, hc, hv⟩
 | some t => obtain ⟨rfl, hv⟩ := h2 t rfl; exact ⟨cs, he, hc, hv⟩
def Fact.chj (ok : Nat -> Prop) (c : Ch) : Fact :=
 ⟨fun v w => ∃ cs : List Value, v = .agg cs.toArray /\ ChJ ok w cs c, fun S _ => ∀ b, ok b -> ¬ S b,
  fun S v w w' h hc hs => by obtain ⟨cs, hv, h⟩ := h; exact ⟨cs, hv, h.chg hc hs⟩, fun _ _ _ e => e⟩
def Fact.tupI (ok : Nat -> Prop) (j : J) (n : Int) : Fact :=
 ⟨fun v w => ∃ cs : List Value, v = .tuple #[.agg cs.toArray, .int .i64 n] /\ ValJ ok w cs j, fun S _ => ∀ b, ok b -> ¬ S b,
  fun S v w w' h hc hs => by obtain ⟨cs, hv, h⟩ := h; exact ⟨cs, hv, h.chg hc hs⟩, fun _ _ _ e => e⟩
theorem topT_wf {N E : Nat} (hN : 400 ≤ N) {name ver nm ns : K} {rev : Int} {up ins : Bool} {t : T} (h1 : kOk name) (h2 : kOk ver) (h : Wf N E (.table t)) : Wf N (E + 4) (.table (topT name ver nm ns rev up ins t)) := by
 obtain ⟨a, b, c⟩ := topT_in N hN name ver nm ns rev up ins t
 obtain ⟨a', b', c'⟩ := relT_in N hN nm ns rev up ins
 refine ⟨a, b, fun p hp => ⟨(c p hp).1, ?_⟩⟩
 simp only [topT, List.mem_cons, List.not_mem_nil, or_false] at hp
 rcases hp with rfl | rfl | rfl
 ·exact (jT_wf h1 h2).mono hN (by omega)
 ·refine ⟨a', b', fun q hq => ⟨(c' q hq).1, ?_⟩⟩
  simp only [relT, List.mem_cons, List.not_mem_nil, or_false] at hq
  rcases hq with rfl | rfl | rfl | rfl | rfl | rfl <;> trivial
 ·exact h.mono (Nat.le_refl _) (by omega)
theorem topT_part {N d : Nat} {name ver nm ns : K} {rev : Int} {up ins : Bool} {t : T} (h : Wf N (d + 1) (.table (topT name ver nm ns rev up ins t))) : Wf N d (.table t) :=
 (h.2.2 (valsK, .table t) (by simp [topT])).2
theorem fnMoRender_of (hAw : ∀ w, Calls Tryz.prog 28 #[] w (BoolPost w fun r _ => r = true)) (ok : Nat -> Prop) (cs vs : List Value) (nm ns : K) (rev : Int) (up ins : Bool) (w : World) (hc : RawC ok w cs) (hv : RawV ok w vs) (hn : kSm nm) (hs : kSm ns) :
  Calls Tryz.prog 5 #[.agg cs.toArray, .agg vs.toArray, .agg (cellsR nm ns rev up ins).toArray] w (BoolPost w fun r _ => r = true) := by
 have HC := Hd (hc.mono (ok' := okB ok w) (fun b hb h => ⟨h, hb⟩))
 have HV := Hd (hv.mono (ok' := okB ok w) (fun b hb h => ⟨h, hb⟩))
 have HAW := Hd hAw
 obtain ⟨cn, cv, ck, cb, ci, cf, ct, ckv, clv, cdv, cwv, eqc, -⟩ := hc.cells
 obtain ⟨vk, vb, vi, vf, vt, vkv, vlv, eqv⟩ := hv.cells
 subst eqc; subst eqv
 have hfacts : ∀ W, (((w.alloc (.cells (cells11 cn cv ck cb ci cf ct ckv clv cdv cwv).toArray 30)).alloc (.cells (cells7 vk vb vi vf vt vkv vlv).toArray 26)).alloc (.cells (cellsR nm ns rev up ins).toArray 55)) = W ->
   Blk W w.heap.size (cells11 cn cv ck cb ci cf ct ckv clv cdv cwv) 30 /\ Blk W (w.heap.size + 1) (cells7 vk vb vi vf vt vkv vlv) 26 /\ Blk W (w.heap.size + 1 + 1) (cellsR nm ns rev up ins) 55 /\ Chg No w W := by
  rintro W rfl
  exact ⟨((Blk.new _ _ _).alloc _).alloc _, (Blk.newAt (by simp) _ _).alloc _, Blk.newAt (by simp) _ _, (((Chg.refl No w).alloc _).alloc _).alloc _⟩
 have HF := Hd hfacts
 have HN := Hd hn
 have HS := Hd hs
 clear hfacts hc hv hAw hn hs
 go_enter Tryz.func5, Tryz.ntmps5
 unfold cells11 cells7 cellsR
 go_upto_region 1 with fail
 generalize hgw : World.alloc _ _ = W
 obtain ⟨b3, b4, b5, c1⟩ := HF.out W hgw
 clear hgw HF
 obtain ⟨g, hg⟩ : ∃ g, g = w.heap.size := ⟨_, rfl⟩
 rw [← hg] at b3 b4 b5 ⊢
 have HB3 := Hd b3
 have HB4 := Hd b4
 have HB5 := Hd b5
 have HC1 := Hd c1
 clear b5 b4 c1 hg
 go_wp2_with (first | (with_reducible refine wpList_loadAgg rfl agg30 rfl rfl b3.cells rfl ?_))
 refine (zzFits7_any (HC.out.chg HC1.out (fun _ _ e => e))).mono ?_
 rintro e w1 ⟨r1, rfl, hc1, -⟩
 have b4 := (HB4.out.chg hc1 id).cells
 have HC2 := Hd (HC1.out.trans' hc1)
 have HC12 := Hd hc1
 clear hc1 b3
 cases r1 with
 | false =>
  go_wp2
  go_ret
  exact ⟨true, rfl, HC2.out, rfl⟩
 | true =>
 go_wp2_with (first | (with_reducible refine wpList_loadAggG rfl agg26 rfl rfl b4 rfl ?_))
 refine (zzFits2_any (HV.out.chg HC2.out (fun _ _ e => e))).mono ?_
 rintro e w2 ⟨r2, rfl, hc2, -⟩
 have b5 := (HB5.out.chg (HC12.out.trans' hc2) id).cells
 have HC3 := Hd (HC2.out.trans' hc2)
 have HC13 := Hd (HC12.out.trans' hc2)
 clear hc2 b4
 cases r2 with
 | false =>
  go_wp2
  go_ret
  exact ⟨true, rfl, HC3.out, rfl⟩
 | true =>
 go_wp2_with (first | (with_reducible refine wpList_loadAggG rfl agg55 rfl rfl b5 rfl ?_))
 refine (zzFits12_any nm ns rev up ins HN.out HS.out w2).mono ?_
 rintro e w3 ⟨rfl, hc3⟩
 have HC4 := Hd (HC3.out.trans' hc3)
 have HC14 := Hd (HC13.out.trans' hc3)
 clear hc3 b5
 have b3 := (HB3.out.chg HC14.out id).cells
 have b4 := (HB4.out.chg HC14.out id).cells
 go_wp2_with (first | (with_reducible refine wpList_loadAgg rfl agg30 rfl rfl b3 rfl ?_) | (with_reducible refine wpList_loadAgg rfl agg26 rfl rfl b4 rfl ?_))
 refine (mtGiven_any (HC.out.chg HC4.out (fun _ _ e => e)) (HV.out.chg HC4.out (fun _ _ e => e))).mono ?_
 rintro e w4 ⟨r4, rfl, hc4, hgiven⟩
 have b5 := (HB5.out.chg (HC14.out.trans' hc4) id).cells
 have HC5 := Hd (HC4.out.trans' hc4)
 have HC15 := Hd (HC14.out.trans' hc4)
 clear hc4 b3 b4
 cases r4 with
 | false =>
  clear hgiven b5
  go_wp2_with fail
  refine (HAW.out w4).mono ?_
  rintro e w5 ⟨r5, rfl, hc5, rfl⟩
  have HC6 := Hd (HC5.out.trans' hc5)
  clear hc5
  go_wp2
  go_ret
  exact ⟨true, rfl, HC6.out, rfl⟩
 | true =>
 obtain ⟨c, t, hgv⟩ := hgiven rfl
 have HG4 := Hd hgv
 clear hgiven hgv
 go_wp2_with (first | (with_reducible refine wpList_loadAggG rfl agg55 rfl rfl b5 rfl ?_))
 refine (moRelease_any nm ns rev up ins HN.out HS.out w4).mono ?_
 rintro e w5 ⟨r5, rfl, hc5, -⟩
 have HC6 := Hd (HC5.out.trans' hc5)
 have HC16 := Hd (HC15.out.trans' hc5)
 have HC45 := Hd hc5
 clear hc5 b5
 cases r5 with
 | false =>
  go_wp2_with fail
  refine (HAW.out w5).mono ?_
  rintro e w6 ⟨r6, rfl, hc6, rfl⟩
  have HC7 := Hd (HC6.out.trans' hc6)
  clear hc6
  go_wp2
  go_ret
  exact ⟨true, rfl, HC7.out, rfl⟩
 | true =>
 have HG := HG4
 have HCJ5 := Hd (HG4.out.chj.chg HC45.out (fun _ _ e => e))
 have HVJ5 := Hd (HG4.out.valj.chg HC45.out (fun _ _ e => e))
 have b3 := (HB3.out.chg HC16.out id).cells
 have b4 := (HB4.out.chg HC16.out id).cells
 have b5 := (HB5.out.chg HC16.out id).cells
 go_wp2_with (first | (with_reducible refine wpList_loadAgg rfl agg30 rfl rfl b3 rfl ?_) | (with_reducible refine wpList_loadAgg rfl agg26 rfl rfl b4 rfl ?_) | (with_reducible refine wpList_loadAgg rfl agg55 rfl rfl b5 rfl ?_))
 refine (moRendered_any HG.out (okB ok w) _ _ nm ns rev up ins w5 HCJ5.out HVJ5.out).mono ?_
 rintro e w6 ⟨csw, rfl, hc6, hjw⟩
 obtain ⟨r, hr⟩ : ∃ r, r = allV false c t := ⟨_, rfl⟩
 rw [← hr] at hjw ⊢
 have HR := Hd hr
 have HJW := Hd (show ValJ (fun b => okB (okB ok w) w5 b ∨ w5.heap.size ≤ b) w6 csw (resT r c nm ns rev up ins) from hjw)
 have HC7 := Hd (HC6.out.trans' hc6)
 have HC17 := Hd (HC16.out.trans' hc6)
 have HC57 := Hd (HC45.out.trans' hc6)
 have hlw := hjw.length
 have how := hjw.one
 clear hjw hc6 b3 b4 b5 hr
 have hfacts : ∀ wx, w6.alloc (.cells csw.toArray 26) = wx -> Blk wx w6.heap.size csw 26 /\ Chg No w6 wx := by
  rintro wx rfl
  exact ⟨Blk.new _ _ _, (Chg.refl No w6).alloc _⟩
 have HF6 := Hd hfacts
 clear hfacts
 go_upto_region 6 with (first | (with_reducible refine wpList_storeNew rfl agg26 rfl rfl rfl rfl hlw how ?_))
 generalize hgw : World.alloc _ _ = wx0
 obtain ⟨b7, hcx⟩ := HF6.out wx0 hgw
 clear hgw HF6
 obtain ⟨g7, hg7⟩ : ∃ g7, g7 = w6.heap.size := ⟨_, rfl⟩
 rw [← hg7] at b7 ⊢
 have HB70 := Hd b7
 have HC0 := Hd (HC7.out.trans' hcx)
 have HC10 := Hd (HC17.out.trans' hcx)
 have HC50 := Hd (HC57.out.trans' hcx)
 have HJ0 := Hd (HJW.out.chg hcx (fun _ _ e => e))
 have b7c := b7.cells
 clear hcx b7 hg7 HJW HC7 HC17 HC57
 cases hrb : r.isSome with
 | false =>
  have hrn : r = none := by cases r <;> simp_all
  have HWF := Hd (show ∀ t', allV false c t = some t' -> Wf 99999999999 60 (.table t') from fun t' h => by rw [← HR.out, hrn] at h; cases h)
  have HRN := Hd hrn
  clear hrn b7c
  go_upto_region 8 with fail
  obtain ⟨wx, hwx⟩ : ∃ wx, wx = wx0 := ⟨_, rfl⟩
  rw [← hwx]
  have HB3 := Hd (show Blk wx g (cells11 cn cv ck cb ci cf ct ckv clv cdv cwv) 30 from hwx ▸ HB3.out.chg HC10.out id)
  have HB4 := Hd (show Blk wx (g + 1) (cells7 vk vb vi vf vt vkv vlv) 26 from hwx ▸ HB4.out.chg HC10.out id)
  have HB5 := Hd (show Blk wx (g + 1 + 1) (cellsR nm ns rev up ins) 55 from hwx ▸ HB5.out.chg HC10.out id)
  have HCJ := Hd (show ChJ (okB ok w) wx (cells11 cn cv ck cb ci cf ct ckv clv cdv cwv) c from hwx ▸ HG.out.chj.chg HC50.out (fun _ _ e => e))
  have HVJ := Hd (show ValJ (okB ok w) wx (cells7 vk vb vi vf vt vkv vlv) (.table t) from hwx ▸ HG.out.valj.chg HC50.out (fun _ _ e => e))
  have HCX := Hd (show Chg No w wx from hwx ▸ HC0.out)
  have HB7X := Hd (show Blk wx g7 csw 26 from hwx ▸ HB70.out)
  have HJX := Hd (show ValJ _ wx csw (resT r c nm ns rev up ins) from hwx ▸ HJ0.out)
  clear hwx HB70 HC0 HC10 HC50 HJ0
  refine wp_region_ghost (fun γ => FI [.eq (.agg (cells11 cn cv ck cb ci cf ct ckv clv cdv cwv).toArray), .chj (okBox (fun _ => False) wx.heap.size γ) c, .eq (.agg (cells7 vk vb vi vf vt vkv vlv).toArray), .val (okBox (fun _ => False) wx.heap.size γ) (.table t), .eq (.agg (cellsR nm ns rev up ins).toArray), .tupI (okBox (fun _ => False) wx.heap.size γ) (resT r c nm ns rev up ins) (codeOf r), .tupI (okBox (fun _ => False) wx.heap.size γ) (resT r c nm ns rev up ins) (codeOf r), .val (okBox (fun _ => False) wx.heap.size γ) (resT r c nm ns rev up ins), .eq (.int .i64 (codeOf r)), .box γ, .any, .eq (.int .i64 (codeOf r))])
   (fun γ done w' => GH (fun _ => False) wx 9 10 (resT r c nm ns rev up ins) γ done w') (by kernel_rfl) (by kernel_rfl) none (GH.start _ _ _ _ _) ?_ ?_
  ·refine ⟨?_, ?_, ?_, ?_, ?_, ?_, ?_, ?_, ?_, ?_, ?_, ?_, trivial⟩
   ·intro γ done a w1 K hd qd qe qf qb hG hK
    have e3 : a.tmps[3]?.getD undef = .pointer (some ⟨g, 0, none⟩) := qf 3 rfl
    refine if_wanted rfl ?_
    refine wp_loadAgg agg30 rfl (by simpa [Act.eval] using e3) (HB3.out.chg hG.chg id).cells rfl ?_
    exact hK _ _ _ rfl (hG.other (by decide) (by decide) (Chg.refl _ _)) (fun _ _ _ _ h => h)
   ·intro γ done a w1 K hd qd qe qf qb hG hK
    have e49 : a.tmps[49]?.getD undef = .agg (cells11 cn cv ck cb ci cf ct ckv clv cdv cwv).toArray := qe 0 49 rfl (qb 0 rfl)
    refine if_wanted rfl ?_
    refine wp_callV1 Tryz.call14 rfl (by simpa [Act.eval] using e49) (moChart_any 6 c (okB ok w) (cells11 cn cv ck cb ci cf ct ckv clv cdv cwv) w1 (HCJ.out.chg hG.chg (fun _ _ e => e)) HG.out.chr) ?_
    rintro e w2 ⟨cs', rfl, hj, hc⟩
    exact ⟨_, rfl, hK γ _ _ ⟨cs', rfl, hj.mono (fun b _ hb => hG.fresh hb)⟩ (hG.other (by decide) (by decide) hc) (fun _ _ _ _ h => h.keepNo hc)⟩
   ·intro γ done a w1 K hd qd qe qf qb hG hK
    have e4 : a.tmps[4]?.getD undef = .pointer (some ⟨g + 1, 0, none⟩) := qf 4 rfl
    refine if_wanted rfl ?_
    refine wp_loadAgg agg26 rfl (by simpa [Act.eval] using e4) (HB4.out.chg hG.chg id).cells rfl ?_
    exact hK _ _ _ rfl (hG.other (by decide) (by decide) (Chg.refl _ _)) (fun _ _ _ _ h => h)
   ·intro γ done a w1 K hd qd qe qf qb hG hK
    have e51 : a.tmps[51]?.getD undef = .agg (cells7 vk vb vi vf vt vkv vlv).toArray := qe 2 51 rfl (qb 2 rfl)
    refine if_wanted rfl ?_
    refine wp_callV1 Tryz.call15 rfl (by simpa [Act.eval] using e51) (moCopy_any 300 (by decide) 50 (okB ok w) (.table t) (cells7 vk vb vi vf vt vkv vlv) w1 (HVJ.out.chg hG.chg (fun _ _ e => e)) HG.out.wf) ?_
    rintro e w2 ⟨cs', rfl, hj, hc⟩
    exact ⟨_, rfl, hK γ _ _ ⟨cs', rfl, hj.mono (fun b _ hb => hG.fresh hb)⟩ (hG.other (by decide) (by decide) hc) (fun _ _ _ _ h => h.keepNo hc)⟩
   ·intro γ done a w1 K hd qd qe qf qb hG hK
    have e5 : a.tmps[5]?.getD undef = .pointer (some ⟨g + 1 + 1, 0, none⟩) := qf 5 rfl
    refine if_wanted rfl ?_
    refine wp_loadAgg agg55 rfl (by simpa [Act.eval] using e5) (HB5.out.chg hG.chg id).cells rfl ?_
    exact hK _ _ _ rfl (hG.other (by decide) (by decide) (Chg.refl _ _)) (fun _ _ _ _ h => h)
   ·intro γ done a w1 K hd qd qe qf qb hG hK
    obtain ⟨cs1, e50, hj1⟩ : ∃ cs' : List Value, a.tmps[50]?.getD undef = .agg cs'.toArray /\ ChJ (okBox (fun _ => False) wx.heap.size γ) w1 cs' c := qe 1 50 rfl (qb 1 rfl)
    obtain ⟨cs2, e52, hj2⟩ := qe 3 52 rfl (qb 3 rfl)
    have e53 : a.tmps[53]?.getD undef = .agg (cellsR nm ns rev up ins).toArray := qe 4 53 rfl (qb 4 rfl)
    refine if_wanted rfl ?_
    refine wp_callV3 Tryz.call30 rfl (by simpa [Act.eval] using e50) (by simpa [Act.eval] using e52) (by simpa [Act.eval] using e53) (renderValues_any HG.out (okBox (fun _ => False) wx.heap.size γ) cs1 cs2 nm ns rev up ins w1 hj1 hj2 HWF.out) ?_
    intro e w2 hret
    rw [← HR.out] at hret
    obtain ⟨cs3, rfl, hc, hj3⟩ := rend_res hret
    exact ⟨_, rfl, hK γ _ _ ⟨cs3, rfl, hj3.mono (fun b _ hb => hG.fresh hb)⟩ (hG.other (by decide) (by decide) hc) (fun _ _ _ _ h => h.keepNo hc)⟩
   ·intro γ done a w1 K hd qd qe qf qb hG hK
    obtain ⟨c1, e54, hv1⟩ : ∃ c1 : List Value, a.tmps[54]?.getD undef = .tuple #[.agg c1.toArray, .int .i64 (codeOf r)] /\ ValJ (okBox (fun _ => False) wx.heap.size γ) w1 c1 (resT r c nm ns rev up ins) := qe 5 54 rfl (qb 5 rfl)
    have HV1 := Hd hv1
    clear hv1
    clear qd qe qf qb
    go_simp
    exact hK _ _ _ ⟨c1, rfl, HV1.out⟩ (hG.other (by decide) (by decide) (Chg.refl _ _)) (fun _ _ _ _ h => h)
   ·intro γ done a w1 K hd qd qe qf qb hG hK
    obtain ⟨c1, e48, hv1⟩ : ∃ c1 : List Value, a.tmps[48]?.getD undef = .tuple #[.agg c1.toArray, .int .i64 (codeOf r)] /\ ValJ (okBox (fun _ => False) wx.heap.size γ) w1 c1 (resT r c nm ns rev up ins) := qe 6 48 rfl (qb 6 rfl)
    have HV1 := Hd hv1
    clear hv1
    clear qd qe qf qb
    go_simp
    exact hK _ _ _ ⟨c1, rfl, HV1.out⟩ (hG.other (by decide) (by decide) (Chg.refl _ _)) (fun _ _ _ _ h => h)
   ·intro γ done a w1 K hd qd qe qf qb hG hK
    obtain ⟨c1, e48, hv1⟩ : ∃ c1 : List Value, a.tmps[48]?.getD undef = .tuple #[.agg c1.toArray, .int .i64 (codeOf r)] /\ ValJ (okBox (fun _ => False) wx.heap.size γ) w1 c1 (resT r c nm ns rev up ins) := qe 6 48 rfl (qb 6 rfl)
    clear hv1
    clear qd qe qf qb
    go_simp
    exact hK _ _ _ rfl (hG.other (by decide) (by decide) (Chg.refl _ _)) (fun _ _ _ _ h => h)
   ·intro γ done a w1 K hd qd qe qf qb hG hK
    have n10 : done 10 = false := by
     cases hh0 : done 10 with
     | false => rfl
     | true => have := qd 10 9 rfl hh0; rw [hd] at this; cases this
    have hγ := hG.noBox hd
    subst hγ
    have HLAY := Hd (hG.lay (by decide) n10)
    clear qd qe qf qb
    clear n10
    go_simp
    refine hK (some w1.heap.size) _ _ ⟨_, rfl, rfl⟩ HLAY.out ?_
    refine fun j hj hdj u hu => ?_
    match j, hj with
    | 0, _ => exact hu
    | 1, _ => obtain ⟨c, h1, h2⟩ := hu; exact ⟨c, h1, (h2.mono (fun b hb h => okBox_lay hb h)).chg ((Chg.refl No w1).alloc _) (fun _ _ e => e)⟩
    | 2, _ => exact hu
    | 3, _ => obtain ⟨c, h1, h2⟩ := hu; exact ⟨c, h1, (h2.mono (fun b hb h => okBox_lay hb h)).chg ((Chg.refl No w1).alloc _) (fun _ _ e => e)⟩
    | 4, _ => exact hu
    | 5, _ => obtain ⟨c, h1, h2⟩ := hu; exact ⟨c, h1, (h2.mono (fun b hb h => okBox_lay hb h)).chg ((Chg.refl No w1).alloc _) (fun _ _ e => e)⟩
    | 6, _ => obtain ⟨c, h1, h2⟩ := hu; exact ⟨c, h1, (h2.mono (fun b hb h => okBox_lay hb h)).chg ((Chg.refl No w1).alloc _) (fun _ _ e => e)⟩
    | 7, _ => obtain ⟨c, h1, h2⟩ := hu; exact ⟨c, h1, (h2.mono (fun b hb h => okBox_lay hb h)).chg ((Chg.refl No w1).alloc _) (fun _ _ e => e)⟩
    | 8, _ => exact hu
    | 9, hj => exact absurd rfl hj
    | 10, _ => exact hu
    | 11, _ => exact hu
    | j + 12, _ => exact hu
   ·intro γ done a w1 K hd qd qe qf qb hG hK
    obtain ⟨t9, rfl, e9⟩ := qe 9 9 rfl (qb 9 rfl)
    obtain ⟨c2, e55, hv2⟩ := qe 7 55 rfl (qb 7 rfl)
    obtain ⟨htB, c', hb, hcl', -⟩ := hG.box t9 rfl
    refine if_wanted rfl ?_
    refine wp_storeBlk agg26 rfl (by simpa [Act.eval] using e9) (by simpa [Act.eval] using e55) hb hcl' hv2.length hv2.one ?_
    intro w2 hb2 hC hs2
    refine hK (some t9) undef _ trivial (hG.put (by decide) hC hb2 hv2) ?_
    refine fun j hj _ u hu => hu.keep hC (safe_of (i := 10) (fun j hl hj => ?_) j hj)
    match j, hj with
    | 0, _ => exact trivial
    | 1, _ => exact fun b hb e => okBox_not htB hb e
    | 2, _ => exact trivial
    | 3, _ => exact fun b hb e => okBox_not htB hb e
    | 4, _ => exact trivial
    | 5, _ => exact fun b hb e => okBox_not htB hb e
    | 6, _ => exact fun b hb e => okBox_not htB hb e
    | 7, _ => exact fun b hb e => okBox_not htB hb e
    | 8, _ => exact trivial
    | 9, _ => exact trivial
    | 10, hj => exact absurd rfl hj
    | 11, _ => exact trivial
    | j + 12, _ => exact absurd hl (by simp)
   ·intro γ done a w1 K hd qd qe qf qb hG hK
    have e56 : a.tmps[56]?.getD undef = .int .i64 (codeOf r) := qe 8 56 rfl (qb 8 rfl)
    clear qd qe qf qb
    go_simp
    exact hK _ _ _ rfl (hG.other (by decide) (by decide) (Chg.refl _ _)) (fun _ _ _ _ h => h)
  ·intro γ vs wy hvs hvn hG
   obtain ⟨g9, hγ, e9⟩ : ∃ t, γ = some t /\ vs 9 = .pointer (some ⟨t, 0, none⟩) := hvs 9 _ rfl (by decide)
   have e11 : vs 11 = .int .i64 (codeOf r) := hvs 11 _ rfl (by decide)
   subst hγ
   obtain ⟨htB, c9, hb9, hl9, hv9⟩ := hG.box g9 rfl
   have HB9 := Hd hb9
   have HV9 := Hd (hv9 rfl)
   have HCG := Hd hG.chg
   clear hb9 hv9 hG hvs hvn htB
   simp only [putAll, Act.put, List.setIfInBounds_toArray, List.set_cons_succ, List.set_cons_zero, e9, e11]
   clear e9 e11
   have b9 := HB9.out.cells
   have b7 := (HB7X.out.chg HCG.out id).cells
   have HCY := Hd (HCX.out.trans' HCG.out)
   have hl9c := HV9.out.length
   have hc1 : codeOf r = 1 := by rw [HRN.out]; rfl
   rw [hc1]
   go_wp2_with (first | (with_reducible refine wpList_loadAgg rfl agg26 rfl rfl b9 hl9c ?_) | (with_reducible refine wpList_loadAgg rfl agg26 rfl rfl b7 hlw ?_))
   refine (moGot_no c9 csw hl9c hlw HV9.out.one how wy).mono ?_
   rintro e w8 ⟨r8, rfl, hc8, rfl⟩
   have HC8 := Hd (HCY.out.trans' hc8)
   clear hc8 b9 b7
   go_wp2_with fail
   refine (HAW.out w8).mono ?_
   rintro e w9 ⟨r9, rfl, hc9, rfl⟩
   have HC9 := Hd (HC8.out.trans' hc9)
   clear hc9
   go_wp2
   go_ret
   exact ⟨true, rfl, HC9.out, rfl⟩
 | true =>
  obtain ⟨tt, hrn⟩ : ∃ tt, r = some tt := by cases r with
   | none => cases hrb
   | some tt => exact ⟨tt, rfl⟩
  have HRN := Hd hrn
  have hraw : ∃ ok', RawV ok' wx0 csw := by
   obtain ⟨hUN, hUk, hgU, hchw, hwu, -⟩ := given_in HG.out
   obtain ⟨E', hE⟩ := allV_wu hgU false 6 c 50 t tt hchw hwu (by rw [← HR.out, hrn])
   have hwf := topT_wf (N := 99999999999) (by decide) (name := c.name) (ver := c.version) (nm := nm) (ns := ns) (rev := rev) (up := up) (ins := ins) (by have := HG.out.chr.2.1.le; unfold kOk; omega) HG.out.chr.2.2.1.2.ok (hE.wf hUk hUN)
   have hj := HJ0.out
   rw [hrn] at hj
   exact ⟨_, ValJ.raw hj hwf⟩
  obtain ⟨ok', hraw⟩ := hraw
  have HRAW := Hd hraw
  clear hrn hraw
  go_wp2_with (first | (with_reducible refine wpList_loadAggG rfl agg26 rfl rfl b7c hlw ?_))
  refine (right_any HRAW.out 1900 (by decide)).mono ?_
  rintro e w7 ⟨r7, rfl, hc7, hj7⟩
  clear b7c
  cases r7 with
  | false =>
   clear hj7
   have HC7 := Hd (HC0.out.trans' hc7)
   clear hc7
   go_wp2_with fail
   refine (HAW.out w7).mono ?_
   rintro e w8 ⟨r8, rfl, hc8, rfl⟩
   have HC8 := Hd (HC7.out.trans' hc8)
   clear hc8
   go_wp2
   go_ret
   exact ⟨true, rfl, HC8.out, rfl⟩
  | true =>
  have HWT := Hd (show Wf 1900 50 (resT r c nm ns rev up ins) from by
   obtain ⟨j, h1, h2, h3⟩ := hj7 rfl
   have h4 := (HJ0.out.chg hc7 (fun _ _ e => e)).same h1
   rw [h4]
   exact h2.mono h3 (Nat.le_refl _))
  have HWF := Hd (show ∀ t', allV false c t = some t' -> Wf 99999999999 60 (.table t') from fun t' h => by
   rw [← HR.out] at h
   have h1 := HWT.out
   rw [h] at h1
   exact (topT_part h1).mono (by decide) (by decide))
  clear hj7
  go_upto_region 8 with fail
  obtain ⟨wx, hwx⟩ : ∃ wx, wx = w7 := ⟨_, rfl⟩
  rw [← hwx]
  rw [← hwx] at hc7
  have HB3 := Hd (show Blk wx g (cells11 cn cv ck cb ci cf ct ckv clv cdv cwv) 30 from HB3.out.chg (HC10.out.trans' hc7) id)
  have HB4 := Hd (show Blk wx (g + 1) (cells7 vk vb vi vf vt vkv vlv) 26 from HB4.out.chg (HC10.out.trans' hc7) id)
  have HB5 := Hd (show Blk wx (g + 1 + 1) (cellsR nm ns rev up ins) 55 from HB5.out.chg (HC10.out.trans' hc7) id)
  have HCJ := Hd (show ChJ (okB ok w) wx (cells11 cn cv ck cb ci cf ct ckv clv cdv cwv) c from HG.out.chj.chg (HC50.out.trans' hc7) (fun _ _ e => e))
  have HVJ := Hd (show ValJ (okB ok w) wx (cells7 vk vb vi vf vt vkv vlv) (.table t) from HG.out.valj.chg (HC50.out.trans' hc7) (fun _ _ e => e))
  have HCX := Hd (show Chg No w wx from HC0.out.trans' hc7)
  have HB7X := Hd (show Blk wx g7 csw 26 from HB70.out.chg hc7 id)
  have HJX := Hd (show ValJ _ wx csw (resT r c nm ns rev up ins) from HJ0.out.chg hc7 (fun _ _ e => e))
  clear hwx HB70 HC0 HC10 HC50 HJ0 hc7
  refine wp_region_ghost (fun γ => FI [.eq (.agg (cells11 cn cv ck cb ci cf ct ckv clv cdv cwv).toArray), .chj (okBox (fun _ => False) wx.heap.size γ) c, .eq (.agg (cells7 vk vb vi vf vt vkv vlv).toArray), .val (okBox (fun _ => False) wx.heap.size γ) (.table t), .eq (.agg (cellsR nm ns rev up ins).toArray), .tupI (okBox (fun _ => False) wx.heap.size γ) (resT r c nm ns rev up ins) (codeOf r), .tupI (okBox (fun _ => False) wx.heap.size γ) (resT r c nm ns rev up ins) (codeOf r), .val (okBox (fun _ => False) wx.heap.size γ) (resT r c nm ns rev up ins), .eq (.int .i64 (codeOf r)), .box γ, .any, .eq (.int .i64 (codeOf r))])
   (fun γ done w' => GH (fun _ => False) wx 9 10 (resT r c nm ns rev up ins) γ done w') (by kernel_rfl) (by kernel_rfl) none (GH.start _ _ _ _ _) ?_ ?_
  ·refine ⟨?_, ?_, ?_, ?_, ?_, ?_, ?_, ?_, ?_, ?_, ?_, ?_, trivial⟩
   ·intro γ done a w1 K hd qd qe qf qb hG hK
    have e3 : a.tmps[3]?.getD undef = .pointer (some ⟨g, 0, none⟩) := qf 3 rfl
    refine if_wanted rfl ?_
    refine wp_loadAgg agg30 rfl (by simpa [Act.eval] using e3) (HB3.out.chg hG.chg id).cells rfl ?_
    exact hK _ _ _ rfl (hG.other (by decide) (by decide) (Chg.refl _ _)) (fun _ _ _ _ h => h)
   ·intro γ done a w1 K hd qd qe qf qb hG hK
    have e49 : a.tmps[49]?.getD undef = .agg (cells11 cn cv ck cb ci cf ct ckv clv cdv cwv).toArray := qe 0 49 rfl (qb 0 rfl)
    refine if_wanted rfl ?_
    refine wp_callV1 Tryz.call14 rfl (by simpa [Act.eval] using e49) (moChart_any 6 c (okB ok w) (cells11 cn cv ck cb ci cf ct ckv clv cdv cwv) w1 (HCJ.out.chg hG.chg (fun _ _ e => e)) HG.out.chr) ?_
    rintro e w2 ⟨cs', rfl, hj, hc⟩
    exact ⟨_, rfl, hK γ _ _ ⟨cs', rfl, hj.mono (fun b _ hb => hG.fresh hb)⟩ (hG.other (by decide) (by decide) hc) (fun _ _ _ _ h => h.keepNo hc)⟩
   ·intro γ done a w1 K hd qd qe qf qb hG hK
    have e4 : a.tmps[4]?.getD undef = .pointer (some ⟨g + 1, 0, none⟩) := qf 4 rfl
    refine if_wanted rfl ?_
    refine wp_loadAgg agg26 rfl (by simpa [Act.eval] using e4) (HB4.out.chg hG.chg id).cells rfl ?_
    exact hK _ _ _ rfl (hG.other (by decide) (by decide) (Chg.refl _ _)) (fun _ _ _ _ h => h)
   ·intro γ done a w1 K hd qd qe qf qb hG hK
    have e51 : a.tmps[51]?.getD undef = .agg (cells7 vk vb vi vf vt vkv vlv).toArray := qe 2 51 rfl (qb 2 rfl)
    refine if_wanted rfl ?_
    refine wp_callV1 Tryz.call15 rfl (by simpa [Act.eval] using e51) (moCopy_any 300 (by decide) 50 (okB ok w) (.table t) (cells7 vk vb vi vf vt vkv vlv) w1 (HVJ.out.chg hG.chg (fun _ _ e => e)) HG.out.wf) ?_
    rintro e w2 ⟨cs', rfl, hj, hc⟩
    exact ⟨_, rfl, hK γ _ _ ⟨cs', rfl, hj.mono (fun b _ hb => hG.fresh hb)⟩ (hG.other (by decide) (by decide) hc) (fun _ _ _ _ h => h.keepNo hc)⟩
   ·intro γ done a w1 K hd qd qe qf qb hG hK
    have e5 : a.tmps[5]?.getD undef = .pointer (some ⟨g + 1 + 1, 0, none⟩) := qf 5 rfl
    refine if_wanted rfl ?_
    refine wp_loadAgg agg55 rfl (by simpa [Act.eval] using e5) (HB5.out.chg hG.chg id).cells rfl ?_
    exact hK _ _ _ rfl (hG.other (by decide) (by decide) (Chg.refl _ _)) (fun _ _ _ _ h => h)
   ·intro γ done a w1 K hd qd qe qf qb hG hK
    obtain ⟨cs1, e50, hj1⟩ : ∃ cs' : List Value, a.tmps[50]?.getD undef = .agg cs'.toArray /\ ChJ (okBox (fun _ => False) wx.heap.size γ) w1 cs' c := qe 1 50 rfl (qb 1 rfl)
    obtain ⟨cs2, e52, hj2⟩ := qe 3 52 rfl (qb 3 rfl)
    have e53 : a.tmps[53]?.getD undef = .agg (cellsR nm ns rev up ins).toArray := qe 4 53 rfl (qb 4 rfl)
    refine if_wanted rfl ?_
    refine wp_callV3 Tryz.call30 rfl (by simpa [Act.eval] using e50) (by simpa [Act.eval] using e52) (by simpa [Act.eval] using e53) (renderValues_any HG.out (okBox (fun _ => False) wx.heap.size γ) cs1 cs2 nm ns rev up ins w1 hj1 hj2 HWF.out) ?_
    intro e w2 hret
    rw [← HR.out] at hret
    obtain ⟨cs3, rfl, hc, hj3⟩ := rend_res hret
    exact ⟨_, rfl, hK γ _ _ ⟨cs3, rfl, hj3.mono (fun b _ hb => hG.fresh hb)⟩ (hG.other (by decide) (by decide) hc) (fun _ _ _ _ h => h.keepNo hc)⟩
   ·intro γ done a w1 K hd qd qe qf qb hG hK
    obtain ⟨c1, e54, hv1⟩ : ∃ c1 : List Value, a.tmps[54]?.getD undef = .tuple #[.agg c1.toArray, .int .i64 (codeOf r)] /\ ValJ (okBox (fun _ => False) wx.heap.size γ) w1 c1 (resT r c nm ns rev up ins) := qe 5 54 rfl (qb 5 rfl)
    have HV1 := Hd hv1
    clear hv1
    clear qd qe qf qb
    go_simp
    exact hK _ _ _ ⟨c1, rfl, HV1.out⟩ (hG.other (by decide) (by decide) (Chg.refl _ _)) (fun _ _ _ _ h => h)
   ·intro γ done a w1 K hd qd qe qf qb hG hK
    obtain ⟨c1, e48, hv1⟩ : ∃ c1 : List Value, a.tmps[48]?.getD undef = .tuple #[.agg c1.toArray, .int .i64 (codeOf r)] /\ ValJ (okBox (fun _ => False) wx.heap.size γ) w1 c1 (resT r c nm ns rev up ins) := qe 6 48 rfl (qb 6 rfl)
    have HV1 := Hd hv1
    clear hv1
    clear qd qe qf qb
    go_simp
    exact hK _ _ _ ⟨c1, rfl, HV1.out⟩ (hG.other (by decide) (by decide) (Chg.refl _ _)) (fun _ _ _ _ h => h)
   ·intro γ done a w1 K hd qd qe qf qb hG hK
    obtain ⟨c1, e48, hv1⟩ : ∃ c1 : List Value, a.tmps[48]?.getD undef = .tuple #[.agg c1.toArray, .int .i64 (codeOf r)] /\ ValJ (okBox (fun _ => False) wx.heap.size γ) w1 c1 (resT r c nm ns rev up ins) := qe 6 48 rfl (qb 6 rfl)
    clear hv1
    clear qd qe qf qb
    go_simp
    exact hK _ _ _ rfl (hG.other (by decide) (by decide) (Chg.refl _ _)) (fun _ _ _ _ h => h)
   ·intro γ done a w1 K hd qd qe qf qb hG hK
    have n10 : done 10 = false := by
     cases hh0 : done 10 with
     | false => rfl
     | true => have := qd 10 9 rfl hh0; rw [hd] at this; cases this
    have hγ := hG.noBox hd
    subst hγ
    have HLAY := Hd (hG.lay (by decide) n10)
    clear qd qe qf qb
    clear n10
    go_simp
    refine hK (some w1.heap.size) _ _ ⟨_, rfl, rfl⟩ HLAY.out ?_
    refine fun j hj hdj u hu => ?_
    match j, hj with
    | 0, _ => exact hu
    | 1, _ => obtain ⟨c, h1, h2⟩ := hu; exact ⟨c, h1, (h2.mono (fun b hb h => okBox_lay hb h)).chg ((Chg.refl No w1).alloc _) (fun _ _ e => e)⟩
    | 2, _ => exact hu
    | 3, _ => obtain ⟨c, h1, h2⟩ := hu; exact ⟨c, h1, (h2.mono (fun b hb h => okBox_lay hb h)).chg ((Chg.refl No w1).alloc _) (fun _ _ e => e)⟩
    | 4, _ => exact hu
    | 5, _ => obtain ⟨c, h1, h2⟩ := hu; exact ⟨c, h1, (h2.mono (fun b hb h => okBox_lay hb h)).chg ((Chg.refl No w1).alloc _) (fun _ _ e => e)⟩
    | 6, _ => obtain ⟨c, h1, h2⟩ := hu; exact ⟨c, h1, (h2.mono (fun b hb h => okBox_lay hb h)).chg ((Chg.refl No w1).alloc _) (fun _ _ e => e)⟩
    | 7, _ => obtain ⟨c, h1, h2⟩ := hu; exact ⟨c, h1, (h2.mono (fun b hb h => okBox_lay hb h)).chg ((Chg.refl No w1).alloc _) (fun _ _ e => e)⟩
    | 8, _ => exact hu
    | 9, hj => exact absurd rfl hj
    | 10, _ => exact hu
    | 11, _ => exact hu
    | j + 12, _ => exact hu
   ·intro γ done a w1 K hd qd qe qf qb hG hK
    obtain ⟨t9, rfl, e9⟩ := qe 9 9 rfl (qb 9 rfl)
    obtain ⟨c2, e55, hv2⟩ := qe 7 55 rfl (qb 7 rfl)
    obtain ⟨htB, c', hb, hcl', -⟩ := hG.box t9 rfl
    refine if_wanted rfl ?_
    refine wp_storeBlk agg26 rfl (by simpa [Act.eval] using e9) (by simpa [Act.eval] using e55) hb hcl' hv2.length hv2.one ?_
    intro w2 hb2 hC hs2
    refine hK (some t9) undef _ trivial (hG.put (by decide) hC hb2 hv2) ?_
    refine fun j hj _ u hu => hu.keep hC (safe_of (i := 10) (fun j hl hj => ?_) j hj)
    match j, hj with
    | 0, _ => exact trivial
    | 1, _ => exact fun b hb e => okBox_not htB hb e
    | 2, _ => exact trivial
    | 3, _ => exact fun b hb e => okBox_not htB hb e
    | 4, _ => exact trivial
    | 5, _ => exact fun b hb e => okBox_not htB hb e
    | 6, _ => exact fun b hb e => okBox_not htB hb e
    | 7, _ => exact fun b hb e => okBox_not htB hb e
    | 8, _ => exact trivial
    | 9, _ => exact trivial
    | 10, hj => exact absurd rfl hj
    | 11, _ => exact trivial
    | j + 12, _ => exact absurd hl (by simp)
   ·intro γ done a w1 K hd qd qe qf qb hG hK
    have e56 : a.tmps[56]?.getD undef = .int .i64 (codeOf r) := qe 8 56 rfl (qb 8 rfl)
    clear qd qe qf qb
    go_simp
    exact hK _ _ _ rfl (hG.other (by decide) (by decide) (Chg.refl _ _)) (fun _ _ _ _ h => h)
  ·intro γ vs wy hvs hvn hG
   obtain ⟨g9, hγ, e9⟩ : ∃ t, γ = some t /\ vs 9 = .pointer (some ⟨t, 0, none⟩) := hvs 9 _ rfl (by decide)
   have e11 : vs 11 = .int .i64 (codeOf r) := hvs 11 _ rfl (by decide)
   subst hγ
   obtain ⟨htB, c9, hb9, hl9, hv9⟩ := hG.box g9 rfl
   have HB9 := Hd hb9
   have HV9 := Hd (hv9 rfl)
   have HCG := Hd hG.chg
   clear hb9 hv9 hG hvs hvn htB
   simp only [putAll, Act.put, List.setIfInBounds_toArray, List.set_cons_succ, List.set_cons_zero, e9, e11]
   clear e9 e11
   have b9 := HB9.out.cells
   have b7 := (HB7X.out.chg HCG.out id).cells
   have HCY := Hd (HCX.out.trans' HCG.out)
   have hl9c := HV9.out.length
   have hc0 : codeOf r = 0 := by rw [HRN.out]; rfl
   rw [hc0]
   go_wp2_with (first | (with_reducible refine wpList_loadAgg rfl agg26 rfl rfl b9 hl9c ?_) | (with_reducible refine wpList_loadAgg rfl agg26 rfl rfl b7 hlw ?_))
   refine (moGot_yes (N := 1900) (d := 50) (by decide) (ok := fun _ => True) (HV9.out.mono (fun _ _ _ => trivial)) ((HJX.out.chg HCG.out (fun _ _ e => e)).mono (fun _ _ _ => trivial)) HWT.out).mono ?_
   rintro e w8 ⟨r8, rfl, hc8, rfl⟩
   have HC8 := Hd (HCY.out.trans' hc8)
   clear hc8 b9 b7
   go_wp2_with fail
   refine (HAW.out w8).mono ?_
   rintro e w9 ⟨r9, rfl, hc9, rfl⟩
   have HC9 := Hd (HC8.out.trans' hc9)
   clear hc9
   go_wp2
   go_ret
   exact ⟨true, rfl, HC9.out, rfl⟩
def lineK : K := ⟨#[97, 61, 50]⟩
def line1 : K := ⟨#[61, 50]⟩
def line2 : K := ⟨#[50]⟩
theorem slice0 (w : World) : (Instr.slice 9 (.string lineK) (some (.int .i64 0)) none none).run Tryz.prog w = .ok (.string lineK) w := by kernel_rfl
theorem slice1 (w : World) : (Instr.slice 9 (.string lineK) (some (.int .i64 1)) none none).run Tryz.prog w = .ok (.string line1) w := by kernel_rfl
theorem slice2 (w : World) : (Instr.slice 9 (.string lineK) (some (.int .i64 2)) none none).run Tryz.prog w = .ok (.string line2) w := by kernel_rfl
theorem decode0 (w : World) : Calls Tryz.prog 157 #[.string lineK] w fun e w' => e = .returned (.tuple #[.int .i32 97, .int .i64 1]) /\ ∃ n, w' = w.drewN n := by
 unfold lineK
 go_enter Tryz.func157, Tryz.ntmps157
 go_wp2
 go_ret2
 exact ⟨rfl, 0, rfl⟩
theorem decode1 (w : World) : Calls Tryz.prog 157 #[.string line1] w fun e w' => e = .returned (.tuple #[.int .i32 61, .int .i64 1]) /\ ∃ n, w' = w.drewN n := by
 unfold line1
 go_enter Tryz.func157, Tryz.ntmps157
 go_wp2
 go_ret2
 exact ⟨rfl, 0, rfl⟩
theorem decode2 (w : World) : Calls Tryz.prog 157 #[.string line2] w fun e w' => e = .returned (.tuple #[.int .i32 50, .int .i64 1]) /\ ∃ n, w' = w.drewN n := by
 unfold line2
 go_enter Tryz.func157, Tryz.ntmps157
 go_wp2
 go_ret2
 exact ⟨rfl, 0, rfl⟩
def RdB (w : World) (g : Nat) (pos last : Int) : Prop := Blk w g [.string lineK, .int .i64 pos, .int .i64 last] 203
theorem readRune0 (g : Nat) (last : Int) (w : World) (hb : RdB w g 0 last) : Calls Tryz.prog 203 #[ptr g] w fun e w' => e = .returned (.tuple #[.int .i32 97, .int .i64 1, .nilIface]) /\ RdB w' g 1 1 /\ Chg (· = g) w w' := by
 have hl : lineK.size = 3 := rfl
 have k0 : w.cell? ⟨g, 0, none⟩ = some (.string lineK) := hb.cell 0
 have k1 : w.cell? ⟨g, 1, none⟩ = some (.int .i64 0) := hb.cell 1
 have HB := Hd hb
 clear hb
 go_enter Tryz.func203, Tryz.ntmps203
 go_upto_region 1 with fail
 go_quiet (fail)
 generalize hw1 : w.drewN nq = w1
 have hb1 : RdB w1 g 0 last := hw1 ▸ HB.out.chg (Chg.drewN w nq) id
 have HC1 := Hd (show Chg No w w1 from hw1 ▸ Chg.drewN w nq)
 have k0 : w1.cell? ⟨g, 0, none⟩ = some (.string lineK) := hb1.cell 0
 have k1 : w1.cell? ⟨g, 1, none⟩ = some (.int .i64 0) := hb1.cell 1
 have HB1 := Hd hb1
 clear hw1 hb1
 go_upto_region 4 with fail
 have hs0 := slice0
 go_quiet (first | (refine Calls.quiet_of (decode0 _)))
 generalize hw2 : w1.drewN nq = w2
 have hb2 : RdB w2 g 0 last := hw2 ▸ HB1.out.chg (Chg.drewN w1 nq) id
 have HC2 := Hd (show Chg No w w2 from HC1.out.trans' (hw2 ▸ Chg.drewN w1 nq))
 have k12 : w2.cell? ⟨g, 1, none⟩ = some (.int .i64 0) := hb2.cell 1
 have k22 : w2.cell? ⟨g, 2, none⟩ = some (.int .i64 last) := hb2.cell 2
 have f12 : w2.frozen? ⟨g, 1, none⟩ = false := hb2.frozen 1
 have f22 : w2.frozen? ⟨g, 2, none⟩ = false := hb2.frozen 2
 have HB2 := Hd hb2
 clear hw2 hb2
 go_wp2
 obtain ⟨h1, h2, h3⟩ := HB2.out.setCell 1 (.int .i64 1)
 obtain ⟨h4, h5, h6⟩ := h1.setCell 2 (.int .i64 1)
 refine bodyPost_ret (v := .tuple #[.int .i32 97, .int .i64 1, .nilIface]) (by kernel_rfl) rfl ⟨rfl, h4, ((HC2.out.mono (fun _ _ e => e.elim)).trans h2 (fun _ _ e => e)).trans h5 (fun _ _ e => e)⟩
theorem readRune1 (g : Nat) (last : Int) (w : World) (hb : RdB w g 1 last) : Calls Tryz.prog 203 #[ptr g] w fun e w' => e = .returned (.tuple #[.int .i32 61, .int .i64 1, .nilIface]) /\ RdB w' g 2 1 /\ Chg (· = g) w w' := by
 have hl : lineK.size = 3 := rfl
 have k0 : w.cell? ⟨g, 0, none⟩ = some (.string lineK) := hb.cell 0
 have k1 : w.cell? ⟨g, 1, none⟩ = some (.int .i64 1) := hb.cell 1
 have HB := Hd hb
 clear hb
 go_enter Tryz.func203, Tryz.ntmps203
 go_upto_region 1 with fail
 go_quiet (fail)
 generalize hw1 : w.drewN nq = w1
 have hb1 : RdB w1 g 1 last := hw1 ▸ HB.out.chg (Chg.drewN w nq) id
 have HC1 := Hd (show Chg No w w1 from hw1 ▸ Chg.drewN w nq)
 have k0 : w1.cell? ⟨g, 0, none⟩ = some (.string lineK) := hb1.cell 0
 have k1 : w1.cell? ⟨g, 1, none⟩ = some (.int .i64 1) := hb1.cell 1
 have HB1 := Hd hb1
 clear hw1 hb1
 go_upto_region 4 with fail
 have hs0 := slice1
 go_quiet (first | (refine Calls.quiet_of (decode1 _)))
 generalize hw2 : w1.drewN nq = w2
 have hb2 : RdB w2 g 1 last := hw2 ▸ HB1.out.chg (Chg.drewN w1 nq) id
 have HC2 := Hd (show Chg No w w2 from HC1.out.trans' (hw2 ▸ Chg.drewN w1 nq))
 have k12 : w2.cell? ⟨g, 1, none⟩ = some (.int .i64 1) := hb2.cell 1
 have k22 : w2.cell? ⟨g, 2, none⟩ = some (.int .i64 last) := hb2.cell 2
 have f12 : w2.frozen? ⟨g, 1, none⟩ = false := hb2.frozen 1
 have f22 : w2.frozen? ⟨g, 2, none⟩ = false := hb2.frozen 2
 have HB2 := Hd hb2
 clear hw2 hb2
 go_wp2
 obtain ⟨h1, h2, h3⟩ := HB2.out.setCell 1 (.int .i64 2)
 obtain ⟨h4, h5, h6⟩ := h1.setCell 2 (.int .i64 1)
 refine bodyPost_ret (v := .tuple #[.int .i32 61, .int .i64 1, .nilIface]) (by kernel_rfl) rfl ⟨rfl, h4, ((HC2.out.mono (fun _ _ e => e.elim)).trans h2 (fun _ _ e => e)).trans h5 (fun _ _ e => e)⟩
theorem readRune2 (g : Nat) (last : Int) (w : World) (hb : RdB w g 2 last) : Calls Tryz.prog 203 #[ptr g] w fun e w' => e = .returned (.tuple #[.int .i32 50, .int .i64 1, .nilIface]) /\ RdB w' g 3 1 /\ Chg (· = g) w w' := by
 have hl : lineK.size = 3 := rfl
 have k0 : w.cell? ⟨g, 0, none⟩ = some (.string lineK) := hb.cell 0
 have k1 : w.cell? ⟨g, 1, none⟩ = some (.int .i64 2) := hb.cell 1
 have HB := Hd hb
 clear hb
 go_enter Tryz.func203, Tryz.ntmps203
 go_upto_region 1 with fail
 go_quiet (fail)
 generalize hw1 : w.drewN nq = w1
 have hb1 : RdB w1 g 2 last := hw1 ▸ HB.out.chg (Chg.drewN w nq) id
 have HC1 := Hd (show Chg No w w1 from hw1 ▸ Chg.drewN w nq)
 have k0 : w1.cell? ⟨g, 0, none⟩ = some (.string lineK) := hb1.cell 0
 have k1 : w1.cell? ⟨g, 1, none⟩ = some (.int .i64 2) := hb1.cell 1
 have HB1 := Hd hb1
 clear hw1 hb1
 go_upto_region 4 with fail
 have hs0 := slice2
 go_quiet (first | (refine Calls.quiet_of (decode2 _)))
 generalize hw2 : w1.drewN nq = w2
 have hb2 : RdB w2 g 2 last := hw2 ▸ HB1.out.chg (Chg.drewN w1 nq) id
 have HC2 := Hd (show Chg No w w2 from HC1.out.trans' (hw2 ▸ Chg.drewN w1 nq))
 have k12 : w2.cell? ⟨g, 1, none⟩ = some (.int .i64 2) := hb2.cell 1
 have k22 : w2.cell? ⟨g, 2, none⟩ = some (.int .i64 last) := hb2.cell 2
 have f12 : w2.frozen? ⟨g, 1, none⟩ = false := hb2.frozen 1
 have f22 : w2.frozen? ⟨g, 2, none⟩ = false := hb2.frozen 2
 have HB2 := Hd hb2
 clear hw2 hb2
 go_wp2
 obtain ⟨h1, h2, h3⟩ := HB2.out.setCell 1 (.int .i64 3)
 obtain ⟨h4, h5, h6⟩ := h1.setCell 2 (.int .i64 1)
 refine bodyPost_ret (v := .tuple #[.int .i32 50, .int .i64 1, .nilIface]) (by kernel_rfl) rfl ⟨rfl, h4, ((HC2.out.mono (fun _ _ e => e.elim)).trans h2 (fun _ _ e => e)).trans h5 (fun _ _ e => e)⟩
theorem readEnd (g : Nat) (last : Int) (w : World) (hb : RdB w g 3 last) : Calls Tryz.prog 203 #[ptr g] w fun e w' => e = .returned (.tuple #[.int .i32 0, .int .i64 0, .iface 248 (.agg #[])]) /\ RdB w' g 3 0 /\ Chg (· = g) w w' := by
 have hl : lineK.size = 3 := rfl
 have k0 : w.cell? ⟨g, 0, none⟩ = some (.string lineK) := hb.cell 0
 have k1 : w.cell? ⟨g, 1, none⟩ = some (.int .i64 3) := hb.cell 1
 have HB := Hd hb
 clear hb
 go_enter Tryz.func203, Tryz.ntmps203
 go_upto_region 1 with fail
 go_quiet (fail)
 generalize hw2 : w.drewN nq = w2
 have hb2 : RdB w2 g 3 last := hw2 ▸ HB.out.chg (Chg.drewN w nq) id
 have HC2 := Hd (show Chg No w w2 from (hw2 ▸ Chg.drewN w nq))
 have k22 : w2.cell? ⟨g, 2, none⟩ = some (.int .i64 last) := hb2.cell 2
 have f22 : w2.frozen? ⟨g, 2, none⟩ = false := hb2.frozen 2
 have HB2 := Hd hb2
 clear hw2 hb2
 go_wp2
 obtain ⟨h4, h5, h6⟩ := HB2.out.setCell 2 (.int .i64 0)
 refine bodyPost_ret (v := .tuple #[.int .i32 0, .int .i64 0, .iface 248 (.agg #[])]) (by kernel_rfl) rfl ⟨rfl, h4, (HC2.out.mono (fun _ _ e => e.elim)).trans h5 (fun _ _ e => e)⟩
theorem unread3 (g : Nat) (w : World) (hb : RdB w g 3 1) : Calls Tryz.prog 208 #[ptr g] w fun e w' => e = .returned .nilIface /\ RdB w' g 2 0 /\ Chg (· = g) w w' := by
 have k1 : w.cell? ⟨g, 1, none⟩ = some (.int .i64 3) := hb.cell 1
 have k2 : w.cell? ⟨g, 2, none⟩ = some (.int .i64 1) := hb.cell 2
 have f1 : w.frozen? ⟨g, 1, none⟩ = false := hb.frozen 1
 have HB := Hd hb
 clear hb
 go_enter Tryz.func208, Tryz.ntmps208
 go_upto_region 1 with fail
 go_region
 generalize hw1 : (World.setCell _ _ _).drew = w1
 obtain ⟨h1, h2, h3⟩ := HB.out.setCell 1 (.int .i64 2)
 have hb1 : RdB w1 g 2 1 := hw1 ▸ h1.drew
 have HC1 := Hd (show Chg (· = g) w w1 from hw1 ▸ h2.drew)
 have k2 : w1.cell? ⟨g, 2, none⟩ = some (.int .i64 1) := hb1.cell 2
 have f2 : w1.frozen? ⟨g, 2, none⟩ = false := hb1.frozen 2
 have HB1 := Hd hb1
 clear h1 h2 h3 hb1 hw1 k1 f1
 go_wp2
 obtain ⟨h4, h5, h6⟩ := HB1.out.setCell 2 (.int .i64 0)
 go_ret
 exact ⟨rfl, h4, HC1.out.trans h5 (fun _ _ e => e)⟩
theorem isEnd_yes (w : World) : Calls Tryz.prog 150 #[.iface 248 (.agg #[])] w (BoolPost w fun r _ => r = true) := by
 have has : ∀ w, (Instr.typeAssert (.iface 248 (.agg #[])) 75 248 true).run Tryz.prog w = .ok (.tuple #[.agg #[], .bool true]) w := fun w => by kernel_rfl
 have HC := Hd ((Chg.refl No w).alloc (.cells #[] 248))
 go_enter Tryz.func150, Tryz.ntmps150
 go_wp2
 go_ret
 exact ⟨true, rfl, HC.out, rfl⟩
abbrev rl (i : Int) : Lit := .int .i32 i
theorem keyed21 : Maps.Keyed Tryz.prog 21 := Maps.int_keyed Tryz.underlying21
theorem rl_key (i : Int) : WideAt.IsKeyLit (rl i) := trivial
theorem rl_inj {a b : Int} (h : rl a = rl b) : a = b := by cases h; rfl
def rv (D : DataW Value) (i : Int) : Option Value :=
 match D.atKey (rl i) .nil with
 | .held v => some v
 | _ => none
theorem rv_put {D : DataW Value} (hD : Maps.IsMap D) (k : Int) (v : Value) (k' : Int) : rv (D.put (rl k) (.held v)) k' = if k' = k then some v else rv D k' := by
 unfold rv
 by_cases e : k' = k
 ·subst e; rw [Maps.atKey_put_same hD (rl_key _), if_pos rfl]
 ·rw [Maps.atKey_put_other (fun h => e (rl_inj h)), if_neg e]
def RuneB (w : World) (b n : Nat) (f : Int -> Option Value) : Prop :=
 ∃ D : DataW Value, w.ownsMap Tryz.prog 21 RV b n D /\ ∀ k, f k = rv D k
theorem RuneB.made (w : World) : RuneB (w.alloc (.map #[] 0)) w.heap.size 0 (fun _ => none) := ⟨_, World.ownsMap_made w _ _ _, fun _ => rfl⟩
theorem RuneB.chg {S : Nat -> Prop} {w w' : World} {b n : Nat} {f : Int -> Option Value} (h : RuneB w b n f) (hc : Chg S w w') (hn : ¬ S b) : RuneB w' b n f := by
 obtain ⟨D, ⟨es, c, hb, r⟩, h2⟩ := h
 exact ⟨D, ⟨es, c, (hc.block b (Array.getElem?_eq_some_iff.1 hb).1 hn).trans hb, r⟩, h2⟩
theorem RuneB.lt {w : World} {b n : Nat} {f : Int -> Option Value} (h : RuneB w b n f) : b < w.heap.size := h.choose_spec.1.lt
theorem rune_look {w : World} {b n : Nat} {f : Int -> Option Value} (h : RuneB w b n f) {i : Int} (hw : (Lit.int .i32 i).wf = true) :
  (Instr.lookup 231 (.map (some b)) (.int .i32 i) true).run Tryz.prog w = .ok (.tuple #[(f i).getD (.bool false), .bool (f i).isSome]) w := by
 obtain ⟨D, ⟨es, clock, hb, F, _, rfl⟩, hf⟩ := h
 rw [hf i]
 have hz := Tryz.zeroValue4 w
 rcases Maps.fit_look true keyed21 Tryz.underlying231 hz hb F (Maps.keyOf_int_mk Tryz.underlying21 hw) with ⟨hrun, _, hat⟩ | ⟨e0, y, _, _, hrun, hRv, hat, _⟩
 ·have hm : rv (DataW.map ((es.toList.map (WideElems.rg Tryz.prog 21 RV)).foldr DataW.insert [])) i = none := by unfold rv; rw [hat]
  rw [hm, hrun]; rfl
 ·have hy : y.1 = .held e0.val := by cases hRv; rfl
  rw [hy] at hat
  have hm : rv (DataW.map ((es.toList.map (WideElems.rg Tryz.prog 21 RV)).foldr DataW.insert [])) i = some e0.val := by unfold rv; rw [hat]
  rw [hm, hrun]; rfl
section
variable {w : World} {ops : Array Oper} {rest : List Oper} {o : Oper} {a : Act} {Q : Exit -> Act -> World -> Prop}
theorem wpList_putR (hg : o.guard = none) {m x v : Operand} (hop : o.op = Op.mapUpdate 231 m x v) {b n : Nat} {f : Int -> Option Value} (hm : a.eval m = .map (some b)) (hb : RuneB w b n f) (hn : n < maxLen)
  {i : Int} {u : Value} (hx : a.eval x = .int .i32 i) (hw : (Lit.int .i32 i).wf = true) (hv : a.eval v = u)
  (hK : ∀ w', RuneB w' b (n + 1) (fun z => if z = i then some u else f z) -> Chg (· = b) w w' -> w'.heap.size = w.heap.size -> wpList Tryz.prog ops Q rest (a.put o.dst undef) w') :
  wpList Tryz.prog ops Q (o :: rest) a w := by
 obtain ⟨D, h1, h2⟩ := hb
 refine wpList_mapUpdate_in w hg m x v 231 hop 21 4 keyed21 Tryz.underlying231 RV b n D hm h1 hn _ u (rl i) hx hv (Maps.keyOf_int_mk Tryz.underlying21 hw) (.held u) [] rfl ?_
 intro w' h3 h4
 refine hK w' ⟨_, h3, fun z => ?_⟩ ((Chg.grown h4.grown).mono (fun i _ e => (Option.some.inj e).symm)) ?_
 ·simp only [rv_put h1.isMap, h2]
 ·obtain ⟨es, c, es', c', e1, rfl⟩ := h4
  simp [ChangeMaps.setBlock]
end
theorem run_makeMap231 (n : Nat) (w : World) : (Instr.makeMap 231 (some (.int .i64 n))).run Tryz.prog w = .ok (.map (some w.heap.size)) (w.alloc (.map #[] 0)) := by
 kernel_rfl
abbrev rRows (rs : List Int) : List (List Value) := rs.map fun i => [.int .i32 i]
def RuneRet (rs : List Int) (w : World) (e : Ending) (w' : World) : Prop := ∃ b n f, e = .returned (.map (some b)) /\ RuneB w' b n f /\ (∀ i, (f i).isSome = decide (i ∈ rs)) /\ w.heap.size ≤ b /\ Chg No w w'
theorem runeSet_any (ok : Nat -> Prop) (rs : List Int) (sv : Value) (w : World) (h : RowAt ok w sv 1 (rRows rs)) (hwf : ∀ i ∈ rs, (Lit.int .i32 i).wf = true) (hl : rs.length ≤ 100) :
  Calls Tryz.prog 175 #[sv] w (RuneRet rs w) := by
 have HR := Hd h
 have HWF := Hd hwf
 have hmk := run_makeMap231
 obtain ⟨-, -, sa, sc, rfl, -, -⟩ := h
 simp only [rRows, List.length_map] at HR ⊢
 have hll : (rs.length : Int) ≤ 100 := by omega
 have HL := Hd hl
 have HC0 := Hd ((Chg.refl No w).alloc (.map #[] 0))
 have HM0 := Hd (RuneB.made w)
 clear hwf hl
 go_enter Tryz.func175, Tryz.ntmps175
 go_wp2_with fail
 generalize hgw : World.alloc _ _ = W
 have hm0 := HM0.out
 have hc0 := HC0.out
 rw [hgw] at hm0 hc0
 obtain ⟨b, hb⟩ : ∃ b, b = w.heap.size := ⟨_, rfl⟩
 rw [← hb] at hm0 ⊢
 have HB := Hd hb
 have HM := Hd hm0
 have HC := Hd hc0
 clear hgw HC0 HM0 hm0 hc0 hb
 go_loopw [11] (fun ct wr => ∃ (n m : Nat) (f : Int -> Option Value), ct = .int .i64 n /\ n ≤ rs.length /\ m ≤ n /\ RuneB wr b m f /\ (∀ i, (f i).isSome = decide (i ∈ rs.take n)) /\ Chg (· = b) W wr) (fun ct _ => rs.length - (intOf ct).toNat)
 case atStart => exact ⟨0, 0, _, rfl, Nat.zero_le _, Nat.le_refl _, HM.out, fun i => by simp, Chg.refl _ _⟩
 case round =>
  obtain ⟨n, m, f, rfl, hn, hmn, hrb, hf, hcb⟩ := hrel
  have HRB := Hd hrb
  have HF := Hd hf
  have HCB := Hd hcb
  have HN := Hd (And.intro hn hmn)
  clear hrb hf hcb hn hmn
  have HALL := Hd (HC.out.trans HCB.out (fun x hx e => by have e1 : x = b := e; have := HB.out; omega))
  by_cases hlt : n < rs.length
  ·obtain ⟨r, hr⟩ : ∃ r, rs[n]? = some r := ⟨_, List.getElem?_eq_getElem hlt⟩
   obtain ⟨lb, lo, rfl, -, hlc⟩ := HR.out.at (i := n) (r := [.int .i32 r]) (by simp [hr])
   have hlc := (hlc.chg HALL.out id).one
   simp only [Nat.mul_one] at hlc
   have h64 : (n : Int) < (rs.length : Int) := by omega
   have HRR := Hd hr
   clear hr
   go_wp2_with (first | (refine wpList_putR rfl rfl rfl HRB.out (by have := HN.out; have := HL.out; unfold maxLen; omega) rfl (HWF.out r (List.mem_of_getElem? HRR.out)) rfl ?_; intro w2 hb2 hc2 hs2; go_frame))
   have HB2 := Hd hb2
   have HC2 := Hd (HCB.out.trans hc2 (fun _ _ e => e))
   clear hb2 hc2 hs2
   go_roundw
   case rel => exact ⟨n + 1, m + 1, _, by go_num, hlt, by have := HN.out; omega, HB2.out, fun i => by
    have h1 : rs.take (n + 1) = rs.take n ++ [r] := by rw [List.take_add_one, HRR.out]; rfl
    rw [h1]
    by_cases e : i = r
    ·subst e; simp
    ·simp [e, HF.out], HC2.out⟩
   case measure => simp [intOf]; omega
  ·have hnl : n = rs.length := by have := HN.out; omega
   subst hnl
   have h64 : ¬ ((rs.length : Nat) : Int) < (rs.length : Int) := by omega
   go_wp2
   go_ret
   exact ⟨b, m, f, rfl, HRB.out, fun i => by rw [HF.out, List.take_length], by have := HB.out; omega, HALL.out⟩
theorem inMap_any {b n : Nat} {f : Int -> Option Value} (i : Int) (hw : (Lit.int .i32 i).wf = true) (w : World) (hb : RuneB w b n f) : Calls Tryz.prog 204 #[.int .i32 i, .map (some b)] w fun e w' => e = .returned (.bool (f i).isSome) /\ w' = w := by
 have hlk := rune_look hb hw
 clear hb
 go_enter Tryz.func204, Tryz.ntmps204
 go_wp2
 go_ret
 exact ⟨rfl, rfl⟩
theorem isNotList_yes (w : World) : Calls Tryz.prog 185 #[.iface 272 (.agg #[])] w (BoolPost w fun r _ => r = true) := by
 have has : ∀ w, (Instr.typeAssert (.iface 272 (.agg #[])) 75 272 true).run Tryz.prog w = .ok (.tuple #[.agg #[], .bool true]) w := fun w => by kernel_rfl
 have HC := Hd ((Chg.refl No w).alloc (.cells #[] 272))
 go_enter Tryz.func185, Tryz.ntmps185
 go_wp2
 go_ret
 exact ⟨true, rfl, HC.out, rfl⟩
theorem isEnd_no (w : World) : Calls Tryz.prog 150 #[.iface 272 (.agg #[])] w (BoolPost w fun r _ => r = false) := by
 have has : ∀ w, (Instr.typeAssert (.iface 272 (.agg #[])) 75 248 true).run Tryz.prog w = .ok (.tuple #[.agg #[], .bool false]) w := fun w => by kernel_rfl
 have HC := Hd ((Chg.refl No w).alloc (.cells #[] 248))
 go_enter Tryz.func150, Tryz.ntmps150
 go_wp2
 go_ret
 exact ⟨false, rfl, HC.out, rfl⟩
theorem elem144 : ElemTy Tryz.prog 144 21 1 4 := by
 refine ⟨Tryz.underlying144, ?_, by decide⟩
 have h : (Tryz.prog.info? 21).map (fun i => (i.zero, i.size, i.bytes)) = some (some (.int .i32 0), 1, 4) := by kernel_rfl
 obtain ⟨i, h1, h2, h3, h4⟩ := info_parts h
 exact ⟨i, _, h1, h2, h3, h4, rfl⟩
def lineR : List Int := [97, 61, 50]
def ReadRet (g pos : Nat) (w : World) (e : Ending) (w' : World) : Prop :=
 Chg (· = g) w w' /\ ((∃ c, lineR[pos]? = some c /\ e = .returned (.tuple #[.int .i32 c, .int .i64 1, .nilIface]) /\ RdB w' g ((pos + 1 : Nat) : Int) 1) ∨ (lineR[pos]? = none /\ pos = 3 /\ e = .returned (.tuple #[.int .i32 0, .int .i64 0, .iface 248 (.agg #[])]) /\ RdB w' g 3 0))
theorem readRune_any (g pos : Nat) (last : Int) (w : World) (hp : pos ≤ 3) (hb : RdB w g (pos : Int) last) : Calls Tryz.prog 203 #[ptr g] w (ReadRet g pos w) := by
 match pos, hp with
 | 0, _ => exact (readRune0 g last w hb).mono fun e w' ⟨h1, h2, h3⟩ => ⟨h3, .inl ⟨97, rfl, h1, h2⟩⟩
 | 1, _ => exact (readRune1 g last w hb).mono fun e w' ⟨h1, h2, h3⟩ => ⟨h3, .inl ⟨61, rfl, h1, h2⟩⟩
 | 2, _ => exact (readRune2 g last w hb).mono fun e w' ⟨h1, h2, h3⟩ => ⟨h3, .inl ⟨50, rfl, h1, h2⟩⟩
 | 3, _ => exact (readEnd g last w hb).mono fun e w' ⟨h1, h2, h3⟩ => ⟨h3, .inr ⟨rfl, rfl, h1, h2⟩⟩
def UntilRet (g p0 : Nat) (f : Int -> Option Value) (w : World) (e : Ending) (w' : World) : Prop :=
 ∃ n v, OwnR w' w.heap.size 21 1 v (rRows ((lineR.drop p0).take n)) /\ (∀ i ∈ (lineR.drop p0).take n, (f i).isSome = false) /\ Chg (· = g) w w' /\
  ((∃ c, lineR[p0 + n]? = some c /\ (f c).isSome = true /\ e = .returned (.tuple #[v, .int .i32 c, .nilIface]) /\ RdB w' g ((p0 + n + 1 : Nat) : Int) 1) ∨ (p0 + n = 3 /\ e = .returned (.tuple #[v, .int .i32 0, .iface 248 (.agg #[])]) /\ RdB w' g 3 0))
theorem lineR_wf {c : Int} {n : Nat} (h : lineR[n]? = some c) : (Lit.int .i32 c).wf = true /\ c ≠ 92 /\ 0 ≤ c /\ c ≤ 97 := by
 match n with
 | 0 => cases h; decide
 | 1 => cases h; decide
 | 2 => cases h; decide
 | n + 3 => simp [lineR] at h
theorem run_build144_0 (w : World) : (Instr.buildSlice 144 0 #[]).run Tryz.prog w = .ok (.slice (some ⟨w.heap.size, 0, none⟩) 0 0) (w.alloc (.cells #[] 21)) := by kernel_rfl
theorem run_build144_1 (c : Int) (w : World) : (Instr.buildSlice 144 1 #[(0, .int .i32 c)]).run Tryz.prog w = .ok (.slice (some ⟨w.heap.size, 0, none⟩) 1 1) (w.alloc (.cells #[.int .i32 c] 21)) := by kernel_rfl
theorem runesUntil_any (g p0 b m : Nat) (f : Int -> Option Value) (last : Int) (w : World) (hp : p0 ≤ 3) (hb : RdB w g (p0 : Int) last) (hr : RuneB w b m f) (hbg : b ≠ g) : Calls Tryz.prog 176 #[ptr g, .map (some b)] w (UntilRet g p0 f w) := by
 have HB := Hd hb
 have HR := Hd hr
 have HP := Hd hp
 have HBG := Hd hbg
 have hb0 := run_build144_0
 have hb1 := run_build144_1
 have HC0 := Hd ((Chg.refl No w).alloc (.cells #[] 21))
 have HO0 := Hd (show OwnR (w.alloc (.cells #[] 21)) w.heap.size 21 1 (.slice (some ⟨w.heap.size, 0, none⟩) 0 0) [] from OwnR.made (Nat.le_refl _))
 clear hb hr hp hbg
 go_enter Tryz.func176, Tryz.ntmps176
 go_wp2_with fail
 generalize hgw : World.alloc _ _ = W
 have ho0 := HO0.out
 have hc0 := HC0.out
 rw [hgw] at ho0 hc0
 have HO := Hd ho0
 have HC := Hd hc0
 clear hgw HC0 HO0 ho0 hc0
 go_loopw [7] (fun v wr => ∃ (n : Nat) (l : Int), p0 + n ≤ 3 /\ RdB wr g ((p0 + n : Nat) : Int) l /\ OwnR wr w.heap.size 21 1 v (rRows ((lineR.drop p0).take n)) /\ (∀ i ∈ (lineR.drop p0).take n, (f i).isSome = false) /\ Chg (· = g) w wr) (fun _ wr => match wr.cell? ⟨g, 1, none⟩ with | some (.int _ p) => (3 - p).toNat | _ => 0)
 case atStart => exact ⟨0, last, by have := HP.out; omega, HB.out.chg HC.out id, by simpa using HO.out, fun i h => by simp at h, HC.out.mono (fun _ _ e => e.elim)⟩
 case round =>
  obtain ⟨n, l, hn, hrd, hown, hnot, hch⟩ := hrel
  have HN := Hd hn
  have HRD := Hd hrd
  have HOWN := Hd hown
  have HNOT := Hd hnot
  have HCH := Hd hch
  obtain ⟨sa, sn, sc, rfl⟩ := hown.slice
  clear hn hrd hown hnot hch
  go_wp2_with fail
  refine (readRune_any g (p0 + n) l _ HN.out HRD.out).mono ?_
  rintro e w2 ⟨hc2, hcase⟩
  have hne := run_neErr0
  have hgu := run_guardErr0
  have hsep : ∀ k, (Value.slice sa sn sc).ownBlock = some k -> ¬ k = g := fun k hk e => by
   have h1 := (HOWN.out.elem hk).1
   have h2 := HB.out.lt
   omega
  have HOWN2 := Hd (HOWN.out.chg hc2 hsep)
  have HCH2 := Hd (HCH.out.trans hc2 (fun _ _ e => e))
  have HR2 := Hd (HR.out.chg HCH2.out HBG.out)
  have HSEP := Hd hsep
  clear hc2 hsep
  rcases hcase with ⟨c, hcc, rfl, hrd2⟩ | ⟨-, hp3, rfl, hrd2⟩
  ·have HCC := Hd hcc
   have HRD2 := Hd hrd2
   obtain ⟨hwf, h92, hlo, hhi⟩ := lineR_wf hcc
   have HWF := Hd hwf
   clear hcc hrd2 hwf
   go_wp2_with fail
   refine (inMap_any c HWF.out w2 HR2.out).mono ?_
   rintro e w3 ⟨rfl, rfl⟩
   cases hfc : (f c).isSome with
   | true =>
    have HFC := Hd hfc
    clear hfc
    go_wp2
    refine bodyPost_ret (v := .tuple #[.slice sa sn sc, .int .i32 c, .nilIface]) (by kernel_rfl) rfl ⟨n, _, HOWN2.out, HNOT.out, HCH2.out, .inl ⟨c, HCC.out, HFC.out, rfl, HRD2.out⟩⟩
   | false =>
    have HFC := Hd hfc
    have HTK := Hd (show (lineR.drop p0).take (n + 1) = (lineR.drop p0).take n ++ [c] by rw [List.take_add_one, List.getElem?_drop, HCC.out]; rfl)
    have HLEN := Hd (show (rRows ((lineR.drop p0).take n)).length + [[Value.int IntKind.i32 c]].length ≤ 1099511627776 by
     have h1 : ((lineR.drop p0).take n).length ≤ 3 := Nat.le_trans (by rw [List.length_take]; exact Nat.min_le_right _ _) (by rw [List.length_drop]; exact Nat.sub_le _ _)
     simp only [rRows, List.length_map, List.length_cons, List.length_nil]; omega)
    have HWS := Hd (show w.heap.size ≤ (w3.alloc (.cells #[.int .i32 c] 21)).heap.size by have := HCH2.out.size; simp; omega)
    have HPOS := Hd (show p0 + n < 3 from (List.getElem?_eq_some_iff.1 HCC.out).1)
    clear hfc
    go_wp2_with (first | (at_builtin; refine wpList_appendRows rfl elem144 rfl rfl (HOWN2.out.alloc _) rfl (RowAt.one1 w3 [.int .i32 c] 21 1 rfl) (by intro r hr; obtain rfl := List.mem_singleton.1 hr; rfl) HLEN.out (by decide) HWS.out ?_; intro v' w6 hown' hc6 hv' hold; go_frame))
    have HOWN6 := Hd hown'
    have HC6 := Hd (((Chg.refl (fun k => (Value.slice sa sn sc).ownBlock = some k) w3).alloc (.cells #[.int .i32 c] 21)).trans hc6 (fun _ _ e => e))
    clear hown' hc6 hv' hold
    have HRD6 := Hd (HRD2.out.chg HC6.out (fun e => HSEP.out g e rfl))
    have HALL := Hd (HCH2.out.trans HC6.out (fun x hx e => by have := (HOWN2.out.elem e).1; omega))
    have kk : w6.cell? ⟨g, 1, none⟩ = some (.int .i64 ((p0 + n + 1 : Nat) : Int)) := HRD6.out.cell 1
    have kk0 : wr.cell? ⟨g, 1, none⟩ = some (.int .i64 ((p0 + n : Nat) : Int)) := HRD.out.cell 1
    have KK := Hd (And.intro kk kk0)
    clear kk kk0
    go_roundw
    case rel => exact ⟨n + 1, 1, by have := HPOS.out; omega, HRD6.out, by rw [HTK.out]; simpa [rRows] using HOWN6.out, fun i hi => by
     rw [HTK.out] at hi
     rcases List.mem_append.1 hi with h | h
     ·exact HNOT.out i h
     ·obtain rfl := List.mem_singleton.1 h; exact HFC.out, HALL.out⟩
    case measure =>
     rw [KK.out.1, KK.out.2]
     have := HPOS.out
     simp only
     omega
  ·have HRD2 := Hd hrd2
   have HP3 := Hd hp3
   clear hrd2 hp3
   go_wp2
   refine bodyPost_ret (v := .tuple #[.slice sa sn sc, .int .i32 0, .iface 248 (.agg #[])]) (by kernel_rfl) rfl ⟨n, _, HOWN2.out, HNOT.out, HCH2.out, .inr ⟨HP3.out, rfl, HRD2.out⟩⟩
def trueK : K := ⟨#[116, 114, 117, 101]⟩
def falseK : K := ⟨#[102, 97, 108, 115, 101]⟩
def nullK : K := ⟨#[110, 117, 108, 108]⟩
def zeroK : K := ⟨#[48]⟩
theorem next2 (ty : TypeId) (w : World) : (Instr.next (.pointer (some ⟨w.heap.size, 0, none⟩)) true ty).run Tryz.prog (w.iter line2 0) = .ok (.tuple #[.bool true, .int .i64 0, .int .i32 50]) (w.iter line2 1) := by
 have h := run_next_ascii (P := Tryz.prog) w line2 0 ty (by decide) (by decide)
 exact h
theorem fold_true (w : World) : Calls Tryz.prog 187 #[.string line2, .string trueK] w fun e w' => e = .returned (.bool false) /\ Chg No w w' := by
 have hnx := next2
 have HC := Hd (show Chg No w (w.iter line2 1) from (Chg.refl No w).alloc _)
 have hs : trueK.size = 4 := rfl
 have hb : trueK[0]'(by decide) = 116 := rfl
 go_enter Tryz.func187, Tryz.ntmps187
 go_wp2_with fail
 go_rounds 1
 go_ret
 exact ⟨rfl, HC.out⟩
theorem fold_false (w : World) : Calls Tryz.prog 187 #[.string line2, .string falseK] w fun e w' => e = .returned (.bool false) /\ Chg No w w' := by
 have hnx := next2
 have HC := Hd (show Chg No w (w.iter line2 1) from (Chg.refl No w).alloc _)
 have hs : falseK.size = 5 := rfl
 have hb : falseK[0]'(by decide) = 102 := rfl
 go_enter Tryz.func187, Tryz.ntmps187
 go_wp2_with fail
 go_rounds 1
 go_ret
 exact ⟨rfl, HC.out⟩
theorem fold_null (w : World) : Calls Tryz.prog 187 #[.string line2, .string nullK] w fun e w' => e = .returned (.bool false) /\ Chg No w w' := by
 have hnx := next2
 have HC := Hd (show Chg No w (w.iter line2 1) from (Chg.refl No w).alloc _)
 have hs : nullK.size = 4 := rfl
 have hb : nullK[0]'(by decide) = 110 := rfl
 go_enter Tryz.func187, Tryz.ntmps187
 go_wp2_with fail
 go_rounds 1
 go_ret
 exact ⟨rfl, HC.out⟩
theorem fold_zero (w : World) : Calls Tryz.prog 187 #[.string line2, .string zeroK] w fun e w' => e = .returned (.bool false) /\ Chg No w w' := by
 have hnx := next2
 have HC := Hd (show Chg No w (w.iter line2 1) from (Chg.refl No w).alloc _)
 have hs : zeroK.size = 1 := rfl
 have hb : zeroK[0]'(by decide) = 48 := rfl
 go_enter Tryz.func187, Tryz.ntmps187
 go_wp2_with fail
 go_rounds 1
 go_ret
 exact ⟨rfl, HC.out⟩
theorem places_line (w : World) : Calls Tryz.prog 97 #[.string lineK] w fun e w' => e = .returned (.int .i64 0) /\ w' = w := by
 unfold lineK
 go_enter Tryz.func97, Tryz.ntmps97
 go_wp2_with fail
 go_rounds 4
 go_ret
 exact ⟨rfl, rfl⟩
theorem bytes2 (w : World) : ∃ cap W, (convert 9 302 (.string line2)).run Tryz.prog w = .ok (.slice (some ⟨w.heap.size, 0, none⟩) 1 cap) W /\ W.cell? ⟨w.heap.size, 0, none⟩ = some (.int .u8 50) /\ Chg No w W := by
 have h := run_bytes_of_string (P := Tryz.prog) w 9 302 5 line2 Tryz.underlying9 Tryz.underlying302 Tryz.underlying5
 refine ⟨_, _, h, ?_, ?_⟩
 ·have h2 : (w.drew.alloc (.cells (bytesRow line2 (grownCap w line2.size 0 5)) 5 ((bytesRow line2 (grownCap w line2.size 0 5)).size, (bytesRow line2 (grownCap w line2.size 0 5)).size + 1))).heap[w.heap.size]? = some (.cells (bytesRow line2 (grownCap w line2.size 0 5)) 5 ((bytesRow line2 (grownCap w line2.size 0 5)).size, (bytesRow line2 (grownCap w line2.size 0 5)).size + 1)) := heap_alloc_new w.drew _
  have h3 : (bytesRow line2 (grownCap w line2.size 0 5))[0]? = some (.int .u8 50) := by
   unfold bytesRow
   rw [Array.getElem?_append_left (by simp [line2])]
   simp [line2]
  simp only [World.cell?]
  rw [h2]
  simpa using h3
 ·exact ((Chg.refl No w).drew).alloc _
theorem parseUint2 (w : World) : Calls Tryz.prog 225 #[.string line2, .int .i64 10, .int .i64 64] w fun e w' => e = .returned (.tuple #[.int .u64 2, .nilIface]) /\ Chg No w w' := by
 have hne : ¬ line2 = ByteArray.empty := by decide
 have hem : line2.toList.isEmpty = false := by rw [← decide_eq_emptyBytes]; exact decide_eq_false hne
 have hwr : IntKind.u64.wrap (IntKind.u64.wrap 18446744073709551616 - 1) = 18446744073709551615 := by decide
 have hs : line2.size = 1 := rfl
 obtain ⟨cap, W, hcv, hcell, hc⟩ := bytes2 w
 have HC := Hd hc
 clear hc
 go_enter Tryz.func225, Tryz.ntmps225
 go_upto_region 36 with fail
 go_rounds 2
 all_goals go_ret2
 all_goals exact ⟨rfl, HC.out⟩
theorem parseInt2 (w : World) : Calls Tryz.prog 211 #[.string line2, .int .i64 10, .int .i64 64] w fun e w' => e = .returned (.tuple #[.int .i64 2, .nilIface]) /\ Chg No w w' := by
 have hne : ¬ line2 = ByteArray.empty := by decide
 have hem : line2.toList.isEmpty = false := by rw [← decide_eq_emptyBytes]; exact decide_eq_false hne
 have hs : line2.size = 1 := rfl
 have hb : line2[0]'(by decide) = 50 := rfl
 have hn := run_neErr0
 have hg := run_guardErr0
 go_enter Tryz.func211, Tryz.ntmps211
 go_wp2_with fail
 refine (parseUint2 w).mono ?_
 rintro e w1 ⟨rfl, hc⟩
 have HC := Hd hc
 clear hc
 go_wp2
 go_ret2
 exact ⟨rfl, HC.out⟩
theorem parseIntPub2 (w : World) : Calls Tryz.prog 188 #[.string line2, .int .i64 10, .int .i64 64] w fun e w' => e = .returned (.tuple #[.int .i64 2, .nilIface]) /\ Chg No w w' := by
 have hn := run_neErr0
 have hg := run_guardErr0
 go_enter Tryz.func188, Tryz.ntmps188
 go_wp2_with fail
 refine (parseInt2 w).mono ?_
 rintro e w1 ⟨rfl, hc⟩
 have HC := Hd hc
 clear hc
 go_wp2
 go_ret2
 exact ⟨rfl, HC.out⟩
theorem typedVal2 (ok : Nat -> Prop) (sv : Value) (w : World) (h : RowAt ok w sv 1 (rRows [50])) : Calls Tryz.prog 152 #[sv, .bool false] w fun e w' => e = .returned (.iface 2 (.int .i64 2)) /\ Chg No w w' := by
 obtain ⟨-, -, sa, sc, rfl, -, hc⟩ := h
 obtain ⟨b, off, rfl, -, hcell⟩ := hc (by simp)
 have hcv : ∀ W, Chg No w W -> (convert 144 9 (.slice (some ⟨b, off, none⟩) 1 sc)).run Tryz.prog W = .ok (.string line2) W := fun W hW => by
  have h := run_convert_runes (P := Tryz.prog) W 144 9 21 ⟨b, off, none⟩ 1 sc [50] (by simp) Tryz.underlying144 Tryz.underlying21 Tryz.underlying9 (fun j hj => by
   have hj0 : j = 0 := by simpa using hj
   subst hj0
   have h1 := hW.cell (hcell 0 [.int .i32 50] rfl 0 _ rfl) id
   simpa [Addr.add] using h1)
  rw [h]
  rfl
 have hcv0 := hcv w (Chg.refl _ _)
 have hs : line2.size = 1 := rfl
 have hb : line2[0]'(by decide) = 50 := rfl
 have hn := run_neErr0
 have hg := run_guardErr0
 clear hcv hc hcell
 simp only [rRows, List.map_cons, List.map_nil, List.length_cons, List.length_nil]
 go_enter Tryz.func152, Tryz.ntmps152
 go_wp2_with fail
 refine (fold_true w).mono ?_
 rintro e w1 ⟨rfl, hc1⟩
 have HC1 := Hd hc1
 clear hc1
 go_wp2_with fail
 refine (fold_false w1).mono ?_
 rintro e w2 ⟨rfl, hc2⟩
 have HC2 := Hd (HC1.out.trans' hc2)
 clear hc2
 go_wp2_with fail
 refine (fold_null w2).mono ?_
 rintro e w3 ⟨rfl, hc3⟩
 have HC3 := Hd (HC2.out.trans' hc3)
 clear hc3
 go_wp2_with fail
 refine (fold_zero w3).mono ?_
 rintro e w4 ⟨rfl, hc4⟩
 have HC4 := Hd (HC3.out.trans' hc4)
 clear hc4
 go_wp2_with fail
 refine (parseIntPub2 w4).mono ?_
 rintro e w5 ⟨rfl, hc5⟩
 have HC5 := Hd (HC4.out.trans' hc5)
 clear hc5
 go_wp2
 go_ret
 exact ⟨rfl, HC5.out⟩
theorem newBuffer_line (w : World) : Calls Tryz.prog 121 #[.string lineK] w fun e w' => e = .returned (ptr w.heap.size) /\ RdB w' w.heap.size 0 0 /\ Chg No w w' := by
 have hb : RdB (w.alloc (.cells #[.string lineK, .int .i64 0, .int .i64 0] 203)) w.heap.size 0 0 := Blk.new w _ 203
 have HB := Hd hb
 have HC := Hd ((Chg.refl No w).alloc (.cells #[.string lineK, .int .i64 0, .int .i64 0] 203))
 clear hb
 go_enter Tryz.func121, Tryz.ntmps121
 go_wp2
 go_ret
 exact ⟨rfl, HB.out, HC.out⟩
def ParB (w : World) (q g m t : Nat) : Prop := Blk w q [ptr g, .map (some m), .func (.func 151) #[] #[ptr t], .bool false] 205 /\ Blk w t [.bool false] 4
theorem newParser_line (g m : Nat) (w : World) : Calls Tryz.prog 124 #[ptr g, .map (some m), .bool false] w fun e w' => e = .returned (ptr (w.heap.size + 1)) /\ ParB w' (w.heap.size + 1) g m w.heap.size /\ Chg No w w' := by
 have hb : Blk (w.alloc (.cells #[.bool false] 4)) w.heap.size [.bool false] 4 := Blk.new w _ 4
 have HP := Hd (show ParB ((w.alloc (.cells #[.bool false] 4)).alloc (.cells #[ptr g, .map (some m), .func (.func 151) #[] #[ptr w.heap.size], .bool false] 205)) (w.heap.size + 1) g m w.heap.size from ⟨Blk.newAt (by simp) _ _, hb.alloc _⟩)
 have HC := Hd (((Chg.refl No w).alloc (.cells #[.bool false] 4)).alloc (.cells #[ptr g, .map (some m), .func (.func 151) #[] #[ptr w.heap.size], .bool false] 205))
 clear hb
 have hmf : ∀ (fn : Fn) (first cap : Array Value) (w : World), (Instr.makeFunc fn first cap).run Tryz.prog w = .ok (.func fn first cap) w := fun _ _ _ _ => rfl
 go_enter Tryz.func124, Tryz.ntmps124
 go_wp2
 go_ret
 exact ⟨rfl, HP.out, HC.out⟩
theorem valList_line (q g m t : Nat) (last : Int) (w : World) (hp : ParB w q g m t) (hr : RdB w g 2 last) (hqg : q ≠ g) : Calls Tryz.prog 184 #[ptr q] w fun e w' => (∃ sv, e = .returned (.tuple #[sv, .iface 272 (.agg #[])])) /\ RdB w' g 2 0 /\ Chg (· = g) w w' := by
 have k0 : w.cell? ⟨q, 0, none⟩ = some (ptr g) := hp.1.cell 0
 have HP := Hd hp
 have HR := Hd hr
 clear hp hr
 go_enter Tryz.func184, Tryz.ntmps184
 go_wp2_with fail
 refine (readRune2 g last w HR.out).mono ?_
 rintro e w1 ⟨rfl, hr1, hc1⟩
 have hn := run_neErr0
 have hg := run_guardErr0
 have k01 : w1.cell? ⟨q, 0, none⟩ = some (ptr g) := (HP.out.1.chg hc1 hqg).cell 0
 have HR1 := Hd hr1
 have HC1 := Hd hc1
 clear hr1 hc1
 go_wp2_with fail
 refine (unread3 g w1 HR1.out).mono ?_
 rintro e w2 ⟨rfl, hr2, hc2⟩
 have HR2 := Hd hr2
 have HC2 := Hd (HC1.out.trans hc2 (fun _ _ e => e))
 clear hr2 hc2 k01
 have HC3 := Hd (HC2.out.alloc (.cells #[] 20))
 have HR3 := Hd (show RdB (w2.alloc (.cells #[] 20)) g 2 0 from HR2.out.alloc _)
 go_wp2
 refine bodyPost_ret (v := .tuple #[.slice (some ⟨w2.heap.size, 0, none⟩) 0 0, .iface 272 (.agg #[])]) (by kernel_rfl) rfl ⟨⟨_, rfl⟩, HR3.out, HC3.out⟩
theorem val_line (q g m t : Nat) (last : Int) (w : World) (hp : ParB w q g m t) (hr : RdB w g 2 last) (hqg : q ≠ g) (hgl : g < w.heap.size) : Calls Tryz.prog 186 #[ptr q] w fun e w' => (∃ sv B, e = .returned (.tuple #[sv, .iface 248 (.agg #[])]) /\ OwnR w' B 21 1 sv (rRows [50]) /\ w.heap.size ≤ B) /\ RdB w' g 3 0 /\ Chg (· = g) w w' := by
 have k0 : w.cell? ⟨q, 0, none⟩ = some (ptr g) := hp.1.cell 0
 have hb1 := run_build144_1
 have HP := Hd hp
 have HR := Hd hr
 clear hp hr
 go_enter Tryz.func186, Tryz.ntmps186
 go_wp2_with fail
 have hrow := RowAt.one1 w [.int .i32 44] 21 1 rfl
 refine (runeSet_any _ [44] _ _ hrow (by decide) (by decide)).mono ?_
 rintro e w1 ⟨b, n, f, rfl, hrb, hf, hbl, hc1⟩
 have HC1 := Hd (((Chg.refl No w).alloc (.cells #[.int .i32 44] 21)).trans' hc1)
 have k01 : w1.cell? ⟨q, 0, none⟩ = some (ptr g) := (HP.out.1.chg HC1.out id).cell 0
 have HRB := Hd hrb
 have HF := Hd hf
 have HR1 := Hd (show RdB w1 g 2 last from HR.out.chg HC1.out id)
 have HBL := Hd (show b ≠ g by simp at hbl; omega)
 clear hrb hf hbl hc1 hrow k0
 go_wp2_with fail
 refine (runesUntil_any g 2 b n f last w1 (by decide) HR1.out HRB.out HBL.out).mono ?_
 rintro e w2 ⟨k, v, hown, hnot, hc2, hcase⟩
 have HC2 := Hd ((HC1.out.mono (fun _ _ e => e.elim)).trans hc2 (fun _ _ e => e))
 have HS := Hd HC1.out.size
 rcases hcase with ⟨c, hc, hfc, rfl, -⟩ | ⟨hk, rfl, hr2⟩
 ·exfalso
  rw [HF.out c] at hfc
  have h44 : c = 44 := by simpa using hfc
  subst h44
  match k with
  | 0 => cases hc
  | k + 1 =>
   have h3 := (List.getElem?_eq_some_iff.1 hc).1
   have h4 : lineR.length = 3 := rfl
   omega
 ·obtain rfl : k = 1 := by omega
  obtain ⟨sa, sn, sc, rfl⟩ := hown.slice
  have HOWN := Hd (show OwnR w2 w1.heap.size 21 1 (.slice sa sn sc) (rRows [50]) from hown)
  have HR2 := Hd hr2
  clear hown hnot hc2 hk hr2 k01
  go_wp2
  refine bodyPost_ret (v := .tuple #[.slice sa sn sc, .iface 248 (.agg #[])]) (by kernel_rfl) rfl ⟨⟨_, _, rfl, HOWN.out, HS.out⟩, HR2.out, HC2.out⟩
def aK : K := ⟨#[97]⟩
theorem results_cell1 {P : Program} {fn : Func} {q : Tmp} {ty' : TypeId} (h : fn.results = #[.cell q ty']) {tmps : Array Value} {w : World} (hna : ∀ w, (isAgg ty').run P w = .ok false w) {a : Addr} {v : Value} (hq : tmps.getD q undef = .pointer (some a)) (hc : w.cell? a = some v) :
  (results fn tmps).run P w = .ok v w := by
 have h2 : (loadVar ty' a).run P w = .ok v w := by simp [loadVar, Sem.run_bind, hna, go_sem, hc]
 have hq' : tmps[q]?.getD undef = .pointer (some a) := by simpa using hq
 simp only [results, h]
 simp [Sem.run_bind, hq', asAddr, Result.andThen, h2]
theorem idle174 (p : Value) (w : World) : CallsD Tryz.prog 174 #[p] .returning w fun e u' w' => e = .returned (.tuple #[]) /\ u' = .returning /\ w' = w := by
 refine callsD_of_wpS Tryz.func174 rfl fun c₀ cs hu => ?_
 apply wpS_seq
 apply wpS_region
 simp [wpOpsS, go_sem, recoverD, hu, Tryz.ntmps174, Exit.thenS]
 apply wpS_seq
 apply wpS_region
 simp [wpOpsS, go_sem, recoverD, hu, Exit.thenS]
 refine wpS_cond (t := false) (by simp [Act.eval, Array.replicate]) ?_
 simp only [Bool.false_eq_true, if_false]
 refine wpS_of_wp (wp_skip ?_)
 cases c₀
 simp_all [bodyPostS, results, Tryz.results174]
theorem set_line {m n : Nat} {f : K -> Option Value} (u : Value) (w : World) (hm : MapB w m n f) (hn : n < maxLen) : Calls Tryz.prog 179 #[.map (some m), .string aK, u] w fun e w' => e = .returned (.tuple #[]) /\ MapB w' m (n + 1) (fun z => if z = aK then some u else f z) /\ Chg (· = m) w w' := by
 have hs : aK.size = 1 := rfl
 have HM := Hd hm
 have HN := Hd hn
 clear hm hn
 go_enter Tryz.func179, Tryz.ntmps179
 go_wp2_with (first | (refine wpList_putB rfl rfl rfl HM.out HN.out (k := aK) rfl (by unfold aK maxLen; decide) rfl ?_; intro w4 hm4 hc4 hs4))
 go_end0
 exact ⟨rfl, hm4, hc4⟩
theorem closure151 (ok : Nat -> Prop) (sv : Value) (t : Nat) (w : World) (h : RowAt ok w sv 1 (rRows [50])) (hb : Blk w t [.bool false] 4) : Calls Tryz.prog 151 #[sv, ptr t] w fun e w' => e = .returned (.tuple #[.iface 2 (.int .i64 2), .nilIface]) /\ Chg No w w' := by
 have hcall := typedVal2 ok sv w h
 have HC := Hd hcall
 obtain ⟨-, -, sa, sc, rfl, -, -⟩ := h
 have k0 : w.cell? ⟨t, 0, none⟩ = some (.bool false) := hb.cell 0
 clear hcall hb
 simp only [rRows, List.map_cons, List.map_nil, List.length_cons, List.length_nil] at HC ⊢
 go_enter Tryz.func151, Tryz.ntmps151
 go_wp2_with fail
 refine HC.out.mono ?_
 rintro e w1 ⟨rfl, hc⟩
 have HC1 := Hd hc
 clear hc
 go_wp2
 go_ret2
 exact ⟨rfl, HC1.out⟩
theorem conv_a {ok : Nat -> Prop} {w : World} {sa : Option Addr} {sn sc : Nat} (h : RowAt ok w (.slice sa sn sc) 1 (rRows [97])) : (convert 144 9 (.slice sa sn sc)).run Tryz.prog w = .ok (.string aK) w := by
 obtain ⟨-, -, a, cap, e, -, hc⟩ := h
 cases e
 obtain ⟨b, off, rfl, -, hcell⟩ := hc (by simp)
 have h := run_convert_runes (P := Tryz.prog) w 144 9 21 ⟨b, off, none⟩ 1 sc [97] (by simp) Tryz.underlying144 Tryz.underlying21 Tryz.underlying9 (fun j hj => by
  have hj0 : j = 0 := by simpa using hj
  subst hj0
  have h1 := hcell 0 [.int .i32 97] rfl 0 _ rfl
  simpa [Addr.add] using h1)
 simp only [rRows, List.map_cons, List.map_nil, List.length_cons, List.length_nil]
 rw [h]
 rfl
theorem run_build144_4 (w : World) : (Instr.buildSlice 144 4 #[(0, .int .i32 61), (1, .int .i32 91), (2, .int .i32 44), (3, .int .i32 46)]).run Tryz.prog w = .ok (.slice (some ⟨w.heap.size, 0, none⟩) 4 4) (w.alloc (.cells #[.int .i32 61, .int .i32 91, .int .i32 44, .int .i32 46] 21)) := by kernel_rfl
theorem key_first (q g m t n : Nat) (fm : K -> Option Value) (last : Int) (w : World) (hp : ParB w q g m t) (hr : RdB w g 0 last) (hm : MapB w m n fm) (hn : n < maxLen) (hqg : q ≠ g /\ q ≠ m /\ m ≠ g /\ t ≠ g) : Calls Tryz.prog 149 #[ptr q, .map (some m), .int .i64 0] w fun e w' => e = .returned .nilIface /\ MapB w' m (n + 1) (fun z => if z = aK then some (.iface 2 (.int .i64 2)) else fm z) /\ RdB w' g 3 0 /\ Chg (fun x => x = g ∨ x = m) w w' := by
 have hmf : ∀ (fn : Fn) (first cap : Array Value) (w : World), (Instr.makeFunc fn first cap).run Tryz.prog w = .ok (.func fn first cap) w := fun _ _ _ _ => rfl
 have hb4 := run_build144_4
 have HP := Hd hp
 have HR := Hd hr
 have HM := Hd hm
 have HN := Hd hn
 have HQ := Hd hqg
 have HG := Hd hr.lt
 clear hp hr hm hn hqg
 go_enter_defers Tryz.func149, Tryz.ntmps149
 have hfacts : ∀ W, (w.alloc (.cells #[.nilIface] 75)).alloc (.cells #[.int .i32 61, .int .i32 91, .int .i32 44, .int .i32 46] 21) = W -> Blk W w.heap.size [.nilIface] 75 /\ RowAt (fun b => b = w.heap.size + 1) W (.slice (some ⟨w.heap.size + 1, 0, none⟩) 4 4) 1 (rRows [61, 91, 44, 46]) /\ Chg No w W := by
  rintro W rfl
  refine ⟨(Blk.new _ _ _).alloc _, ?_, ((Chg.refl No w).alloc _).alloc _⟩
  exact RowAt.ofBlk (rows := rRows [61, 91, 44, 46]) (pad := []) (Blk.newAt (by simp) [.int .i32 61, .int .i32 91, .int .i32 44, .int .i32 46] 21) (by simp [rRows]) (by simp [rRows, maxLen])
 have HF := Hd hfacts
 clear hfacts
 go_wp2_with fail
 generalize hgw : World.alloc _ _ = W
 obtain ⟨h6, hrow, hc⟩ := HF.out W hgw
 clear hgw HF
 obtain ⟨g6, hg6⟩ : ∃ g6, g6 = w.heap.size := ⟨_, rfl⟩
 rw [← hg6] at h6 hrow ⊢
 have HG6 := Hd hg6
 have HC0 := Hd hc
 have H6 := Hd h6
 clear hc h6 hg6
 refine (runeSet_any _ [61, 91, 44, 46] _ _ hrow (by decide) (by decide)).mono ?_
 rintro e w1 ⟨b, nb, f, rfl, hrb, hf, hbl, hc1⟩
 have HC1 := Hd (HC0.out.trans' hc1)
 have H61 := Hd (H6.out.chg hc1 id)
 have HRB := Hd hrb
 have HFF := Hd hf
 have HBL := Hd (show b ≠ g by have := HG.out; have := HC0.out.size; omega)
 clear hrb hf hbl hc1 hrow
 have hrun := run_neErr0
 have hgrd := run_guardErr0
 have k0 : w1.cell? ⟨q, 0, none⟩ = some (ptr g) := (HP.out.1.chg HC1.out id).cell 0
 go_wp2_with fail
 refine wp_loop_rounds 1 ?_
 rw [rounds_succ]
 go_wp2_with fail
 refine (runesUntil_any g 0 b nb f last w1 (by decide) (HR.out.chg HC1.out id) HRB.out HBL.out).mono ?_
 rintro e w2 ⟨k, v, hown, hnot, hc2, hcase⟩
 have hk : k = 1 /\ e = .returned (.tuple #[v, .int .i32 61, .nilIface]) /\ RdB w2 g 2 1 := by
  rcases hcase with ⟨c, hcc, hfc, he, hr2⟩ | ⟨h3, -, -⟩
  ·rw [HFF.out c] at hfc
   match k with
   | 0 => cases hcc; simp at hfc
   | 1 => cases hcc; exact ⟨rfl, he, hr2⟩
   | 2 =>
    have := hnot 61 (by simp [lineR])
    rw [HFF.out 61] at this
    simp at this
   | k + 3 =>
    have h3 := (List.getElem?_eq_some_iff.1 hcc).1
    have h4 : lineR.length = 3 := rfl
    omega
  ·obtain rfl : k = 3 := by omega
   have := hnot 61 (by simp [lineR])
   rw [HFF.out 61] at this
   simp at this
 obtain ⟨rfl, rfl, hr2⟩ := hk
 obtain ⟨sa, sn, sc, rfl⟩ := hown.slice
 have HOWN := Hd (show OwnR w2 w1.heap.size 21 1 (.slice sa sn sc) (rRows [97]) from hown)
 have HR2 := Hd hr2
 have HC2 := Hd ((HC1.out.mono (fun _ _ e => e.elim)).trans hc2 (fun _ _ e => e))
 have HP2 := Hd (show ParB w2 q g m t from ⟨(HP.out.1.chg HC1.out id).chg hc2 HQ.out.1, (HP.out.2.chg HC1.out id).chg hc2 HQ.out.2.2.2⟩)
 have HC2X := Hd hc2
 have HN6 := Hd (show ¬ g6 = g /\ ¬ g6 = m from ⟨by have := HG6.out; have := HG.out; omega, by have := HG6.out; have := HM.out.lt; omega⟩)
 clear hown hnot hc2 hcase hr2 k0
 have k3 : w2.cell? ⟨q, 3, none⟩ = some (.bool false) := HP2.out.1.cell 3
 go_wp2_with fail
 refine (valList_line q g m t 1 w2 HP2.out HR2.out HQ.out.1).mono ?_
 rintro e w3 ⟨⟨sv3, rfl⟩, hr3, hc3⟩
 have HC3 := Hd (HC2.out.trans hc3 (fun _ _ e => e))
 have HC23 := Hd hc3
 have HR3 := Hd hr3
 have HP3 := Hd (show ParB w3 q g m t from ⟨HP2.out.1.chg hc3 HQ.out.1, HP2.out.2.chg hc3 HQ.out.2.2.2⟩)
 clear hr3 hc3 k3
 go_wp2_with fail
 refine (isEnd_no w3).mono ?_
 rintro e w4 ⟨r4, rfl, hc4, rfl⟩
 have HC34 := Hd hc4
 clear hc4
 go_wp2_with fail
 refine (isNotList_yes w4).mono ?_
 rintro e w5 ⟨r5, rfl, hc5, rfl⟩
 have HC35 := Hd (HC34.out.trans' hc5)
 have HP5 := Hd (show ParB w5 q g m t from ⟨HP3.out.1.chg HC35.out id, HP3.out.2.chg HC35.out id⟩)
 have HR5 := Hd (show RdB w5 g 2 0 from HR3.out.chg HC35.out id)
 clear hc5
 go_wp2_with fail
 refine (val_line q g m t 0 w5 HP5.out HR5.out HQ.out.1 HR5.out.lt).mono ?_
 rintro e w6 ⟨⟨sv6, B6, rfl, hown6, hB6⟩, hr6, hc6⟩
 have HOWN6 := Hd hown6
 have HR6 := Hd hr6
 have HC56 := Hd hc6
 have HP6 := Hd (show ParB w6 q g m t from ⟨HP5.out.1.chg hc6 HQ.out.1, HP5.out.2.chg hc6 HQ.out.2.2.2⟩)
 clear hown6 hr6 hc6 hB6
 go_wp2_with fail
 refine (isEnd_yes w6).mono ?_
 rintro e w7 ⟨r7, rfl, hc7, rfl⟩
 have HC67 := Hd hc7
 have HP7 := Hd (show ParB w7 q g m t from ⟨HP6.out.1.chg hc7 id, HP6.out.2.chg hc7 id⟩)
 have k2 : w7.cell? ⟨q, 2, none⟩ = some (.func (.func 151) #[] #[ptr t]) := HP7.out.1.cell 2
 clear hc7
 go_wp2_with fail
 refine (closure151 _ _ t w7 (HOWN6.out.rowAt.chg HC67.out (fun _ _ e => e)) HP7.out.2).mono ?_
 rintro e w8 ⟨rfl, hc8⟩
 have HC78 := Hd hc8
 have HC28 := Hd (show Chg (· = g) w2 w8 from (((HC23.out.trans' HC35.out).trans HC56.out (fun _ _ e => e)).trans' HC67.out).trans' hc8)
 have hcv := conv_a (HOWN.out.rowAt.chg HC28.out (fun x hx e => by have e1 : x = g := e; have := (HOWN.out.elem hx).1; have := HG.out; have := HC1.out.size; omega))
 have HC8 := Hd (show Chg (· = g) w w8 from HC2.out.trans HC28.out (fun _ _ e => e))
 have HR8 := Hd (show RdB w8 g 3 0 from (HR6.out.chg HC67.out id).chg hc8 id)
 have HM8 := Hd (show MapB w8 m n fm from HM.out.chg HC8.out HQ.out.2.2.1)
 clear hc8 k2
 go_wp2_with fail
 refine (set_line (.iface 2 (.int .i64 2)) w8 HM8.out HN.out).mono ?_
 rintro e w9 ⟨rfl, hm9, hc9⟩
 have HC9 := Hd (show Chg (fun x => x = g ∨ x = m) w w9 from (HC8.out.mono (fun _ _ e => .inl e)).trans hc9 (fun _ _ e => .inr e))
 have HM9 := Hd hm9
 have HR9 := Hd (show RdB w9 g 3 0 from HR8.out.chg hc9 (fun e => HQ.out.2.2.1 e.symm))
 have h69 : Blk w9 g6 [.nilIface] 75 := ((H61.out.chg HC2X.out HN6.out.1).chg HC28.out HN6.out.1).chg hc9 HN6.out.2
 have k6 : w9.cell? ⟨g6, 0, none⟩ = some .nilIface := h69.cell 0
 have f6 : w9.frozen? ⟨g6, 0, none⟩ = false := h69.frozen 0
 have H69 := Hd h69
 clear hm9 hc9 h69 hcv
 go_wp2
 obtain ⟨h6z, hcz, -⟩ := H69.out.setCell 0 .nilIface
 refine leaves_cons (f := 174) (args := #[.pointer (some ⟨g6, 0, none⟩)]) (by simp) (by simp [go_sem]) ?_
 refine (idle174 _ _).mono ?_
 rintro e u' w'' ⟨rfl, rfl, rfl⟩
 refine ⟨_, results_cell1 (q := 6) rfl Tryz.isAgg75 rfl (h6z.cell 0), rfl, HM9.out.chg hcz (fun e => HN6.out.2 e.symm), HR9.out.chg hcz (fun e => HN6.out.1 e.symm), HC9.out.trans hcz (fun x hx e => by have e1 : x = g6 := e; have := HG6.out; omega)⟩
theorem key_end (q g m t : Nat) (last : Int) (w : World) (hp : ParB w q g m t) (hr : RdB w g 3 last) (hqg : q ≠ g) : Calls Tryz.prog 149 #[ptr q, .map (some m), .int .i64 0] w fun e w' => e = .returned (.iface 248 (.agg #[])) /\ RdB w' g 3 0 /\ Chg (· = g) w w' := by
 have hmf : ∀ (fn : Fn) (first cap : Array Value) (w : World), (Instr.makeFunc fn first cap).run Tryz.prog w = .ok (.func fn first cap) w := fun _ _ _ _ => rfl
 have hb4 := run_build144_4
 have HP := Hd hp
 have HR := Hd hr
 have HQ := Hd hqg
 have HG := Hd hr.lt
 clear hp hr hqg
 go_enter_defers Tryz.func149, Tryz.ntmps149
 have hfacts : ∀ W, (w.alloc (.cells #[.nilIface] 75)).alloc (.cells #[.int .i32 61, .int .i32 91, .int .i32 44, .int .i32 46] 21) = W -> Blk W w.heap.size [.nilIface] 75 /\ RowAt (fun b => b = w.heap.size + 1) W (.slice (some ⟨w.heap.size + 1, 0, none⟩) 4 4) 1 (rRows [61, 91, 44, 46]) /\ Chg No w W := by
  rintro W rfl
  refine ⟨(Blk.new _ _ _).alloc _, ?_, ((Chg.refl No w).alloc _).alloc _⟩
  exact RowAt.ofBlk (rows := rRows [61, 91, 44, 46]) (pad := []) (Blk.newAt (by simp) [.int .i32 61, .int .i32 91, .int .i32 44, .int .i32 46] 21) (by simp [rRows]) (by simp [rRows, maxLen])
 have HF := Hd hfacts
 clear hfacts
 go_wp2_with fail
 generalize hgw : World.alloc _ _ = W
 obtain ⟨h6, hrow, hc⟩ := HF.out W hgw
 clear hgw HF
 obtain ⟨g6, hg6⟩ : ∃ g6, g6 = w.heap.size := ⟨_, rfl⟩
 rw [← hg6] at h6 hrow ⊢
 have HG6 := Hd hg6
 have HC0 := Hd hc
 have H6 := Hd h6
 clear hc h6 hg6
 refine (runeSet_any _ [61, 91, 44, 46] _ _ hrow (by decide) (by decide)).mono ?_
 rintro e w1 ⟨b, nb, f, rfl, hrb, hf, hbl, hc1⟩
 have HC1 := Hd (HC0.out.trans' hc1)
 have H61 := Hd (H6.out.chg hc1 id)
 have HRB := Hd hrb
 have HFF := Hd hf
 have HBL := Hd (show b ≠ g by have := HG.out; have := HC0.out.size; omega)
 clear hrb hf hbl hc1 hrow
 have hrun := run_neErr0
 have hgrd := run_guardErr0
 have k0 : w1.cell? ⟨q, 0, none⟩ = some (ptr g) := (HP.out.1.chg HC1.out id).cell 0
 go_wp2_with fail
 refine wp_loop_rounds 1 ?_
 rw [rounds_succ]
 go_wp2_with fail
 refine (runesUntil_any g 3 b nb f last w1 (by decide) (HR.out.chg HC1.out id) HRB.out HBL.out).mono ?_
 rintro e w2 ⟨k, v, hown, hnot, hc2, hcase⟩
 have hk : k = 0 /\ e = .returned (.tuple #[v, .int .i32 0, .iface 248 (.agg #[])]) /\ RdB w2 g 3 0 := by
  rcases hcase with ⟨c, hcc, -, -, -⟩ | ⟨h3, he, hr2⟩
  ·have h3 := (List.getElem?_eq_some_iff.1 hcc).1
   have h4 : lineR.length = 3 := rfl
   omega
  ·exact ⟨by omega, he, hr2⟩
 obtain ⟨rfl, rfl, hr2⟩ := hk
 have qe : ∃ sa sc, v = .slice sa 0 sc := by
  have h := hown.rowAt
  obtain ⟨-, -, a, c, e, -⟩ := h
  exact ⟨a, c, by simpa [rRows] using e⟩
 obtain ⟨sa, sc, rfl⟩ := qe
 have HR2 := Hd hr2
 have HC2 := Hd ((HC1.out.mono (fun _ _ e => e.elim)).trans hc2 (fun _ _ e => e))
 have HN6 := Hd (show ¬ g6 = g by have := HG6.out; have := HG.out; omega)
 have h69 : Blk w2 g6 [.nilIface] 75 := H61.out.chg hc2 HN6.out
 have k6 : w2.cell? ⟨g6, 0, none⟩ = some .nilIface := h69.cell 0
 have f6 : w2.frozen? ⟨g6, 0, none⟩ = false := h69.frozen 0
 have H69 := Hd h69
 clear hown hnot hc2 hcase hr2 k0 h69
 go_wp2
 obtain ⟨h6z, hcz, -⟩ := H69.out.setCell 0 (.iface 248 (.agg #[]))
 refine leaves_cons (f := 174) (args := #[.pointer (some ⟨g6, 0, none⟩)]) (by simp) (by simp [go_sem]) ?_
 refine (idle174 _ _).mono ?_
 rintro e u' w'' ⟨rfl, rfl, rfl⟩
 refine ⟨_, results_cell1 (q := 6) rfl Tryz.isAgg75 rfl (h6z.cell 0), rfl, HR2.out.chg hcz (fun e => HN6.out e.symm), HC2.out.trans hcz (fun x hx e => by have e1 : x = g6 := e; have := HG6.out; omega)⟩
theorem parse_line (q g m t n : Nat) (fm : K -> Option Value) (w : World) (hp : ParB w q g m t) (hr : RdB w g 0 0) (hm : MapB w m n fm) (hn : n < maxLen) (hqg : q ≠ g /\ q ≠ m /\ m ≠ g /\ t ≠ g /\ t ≠ m) : Calls Tryz.prog 123 #[ptr q] w fun e w' => e = .returned .nilIface /\ MapB w' m (n + 1) (fun z => if z = aK then some (.iface 2 (.int .i64 2)) else fm z) /\ Chg (fun x => x = g ∨ x = m) w w' := by
 have HP := Hd hp
 have HR := Hd hr
 have HM := Hd hm
 have HN := Hd hn
 have HQ := Hd hqg
 have k1 : w.cell? ⟨q, 1, none⟩ = some (.map (some m)) := hp.1.cell 1
 have hrun := run_neErr0
 have hgrd := run_guardErr0
 clear hp hr hm hn hqg
 go_enter Tryz.func123, Tryz.ntmps123
 go_wp2_with fail
 refine wp_loop_rounds 2 ?_
 rw [rounds_succ]
 go_wp2_with fail
 refine (key_first q g m t n fm 0 w HP.out HR.out HM.out HN.out ⟨HQ.out.1, HQ.out.2.1, HQ.out.2.2.1, HQ.out.2.2.2.1⟩).mono ?_
 rintro e w1 ⟨rfl, hm1, hr1, hc1⟩
 have HM1 := Hd hm1
 have HR1 := Hd hr1
 have HC1 := Hd hc1
 have HP1 := Hd (show ParB w1 q g m t from ⟨HP.out.1.chg hc1 (fun e => by rcases e with e | e; exact HQ.out.1 e; exact HQ.out.2.1 e), HP.out.2.chg hc1 (fun e => by rcases e with e | e; exact HQ.out.2.2.2.1 e; exact HQ.out.2.2.2.2 e)⟩)
 have k11 : w1.cell? ⟨q, 1, none⟩ = some (.map (some m)) := HP1.out.1.cell 1
 clear hm1 hr1 hc1 k1
 go_wp2_with fail
 rw [rounds_succ]
 go_wp2_with fail
 refine (key_end q g m t 0 w1 HP1.out HR1.out HQ.out.1).mono ?_
 rintro e w2 ⟨rfl, hr2, hc2⟩
 have HM2 := Hd (HM1.out.chg hc2 HQ.out.2.2.1)
 have HC2 := Hd (HC1.out.trans hc2 (fun _ _ e => .inl e))
 clear hr2 hc2 k11
 go_wp2_with fail
 refine (isEnd_yes w2).mono ?_
 rintro e w3 ⟨r3, rfl, hc3, rfl⟩
 have HM3 := Hd (HM2.out.chg hc3 id)
 have HC3 := Hd (HC2.out.trans' hc3)
 clear hc3
 go_wp2
 go_ret
 exact ⟨rfl, HM3.out, HC3.out⟩
theorem parseInto_line (m n : Nat) (fm : K -> Option Value) (w : World) (hm : MapB w m n fm) (hn : n < maxLen) : Calls Tryz.prog 100 #[.string lineK, .map (some m)] w fun e w' => e = .returned .nilIface /\ MapB w' m (n + 1) (fun z => if z = aK then some (.iface 2 (.int .i64 2)) else fm z) /\ Chg (fun x => x = m) w w' := by
 have HM := Hd hm
 have HN := Hd hn
 have HL := Hd hm.lt
 clear hm hn
 go_enter Tryz.func100, Tryz.ntmps100
 go_wp2_with fail
 refine (newBuffer_line w).mono ?_
 rintro e w1 ⟨rfl, hr1, hc1⟩
 have HR1 := Hd hr1
 have HC1 := Hd hc1
 clear hr1 hc1
 go_wp2_with fail
 refine (newParser_line w.heap.size m w1).mono ?_
 rintro e w2 ⟨rfl, hp2, hc2⟩
 have HP2 := Hd hp2
 have HR2 := Hd (show RdB w2 w.heap.size 0 0 from HR1.out.chg hc2 id)
 have HC2 := Hd (HC1.out.trans' hc2)
 have HM2 := Hd (HM.out.chg HC2.out id)
 clear hp2 hc2
 go_wp2_with fail
 refine (parse_line (w1.heap.size + 1) w.heap.size m w1.heap.size n fm w2 HP2.out HR2.out HM2.out HN.out (by have := HL.out; have := HR1.out.lt; omega)).mono ?_
 rintro e w3 ⟨rfl, hm3, hc3⟩
 have HM3 := Hd hm3
 have HC3 := Hd (show Chg (fun x => x = m) w w3 from (HC2.out.mono (fun _ _ e => e.elim)).trans hc3 (fun x hx e => by rcases e with e | e; omega; exact e))
 clear hm3 hc3
 go_wp2
 go_ret
 exact ⟨rfl, HM3.out, HC3.out⟩
theorem procEnabled_nil (p pm m : Nat) (mv par dv : Value) (name ver s : K) (w : World) (hp : Blk w p [ptr pm, mv, par, dv] 125) (hm : Blk w pm [.string name, .string ver, .slice none 0 0] 122) : Calls Tryz.prog 86 #[ptr p, .map (some m), .string s] w fun e w' => e = .returned .nilIface /\ w' = w := by
 have k0 : w.cell? ⟨p, 0, none⟩ = some (ptr pm) := hp.cell 0
 have k2 : w.cell? ⟨pm, 2, none⟩ = some (.slice none 0 0) := hm.cell 2
 have hE : ∀ w, (Go.binOp BinOp.eql 117 (.slice none 0 0) (.slice none 0 0)).run Tryz.prog w = .ok (.bool true) w := fun w => by kernel_rfl
 clear hp hm
 go_enter Tryz.func86, Tryz.ntmps86
 go_wp2_with fail
 go_step3
 go_wp2
 simp only [Exit.noGoto]
 go_ret
 exact ⟨rfl, rfl⟩
theorem importValues_nil (p pm : Nat) (mv par dv : Value) (name ver : K) (w : World) (hp : Blk w p [ptr pm, mv, par, dv] 125) (hm : Blk w pm [.string name, .string ver, .slice none 0 0] 122) : Calls Tryz.prog 115 #[ptr p, .bool true] w fun e w' => e = .returned .nilIface /\ w' = w := by
 have k0 : w.cell? ⟨p, 0, none⟩ = some (ptr pm) := hp.cell 0
 have k2 : w.cell? ⟨pm, 2, none⟩ = some (.slice none 0 0) := hm.cell 2
 have hE : ∀ w, (Go.binOp BinOp.eql 117 (.slice none 0 0) (.slice none 0 0)).run Tryz.prog w = .ok (.bool true) w := fun w => by kernel_rfl
 clear hp hm
 go_enter Tryz.func115, Tryz.ntmps115
 go_wp2
 go_ret
 exact ⟨rfl, rfl⟩
theorem importAll_nil (p pm : Nat) (mv par : Value) (da : Option Addr) (dc : Nat) (name ver : K) (w : World) (hp : Blk w p [ptr pm, mv, par, .slice da 0 dc] 125) (hm : Blk w pm [.string name, .string ver, .slice none 0 0] 122) : Calls Tryz.prog 87 #[ptr p, .bool true] w fun e w' => e = .returned .nilIface /\ w' = w := by
 have HP := Hd hp
 have HM := Hd hm
 clear hp hm
 go_enter Tryz.func87, Tryz.ntmps87
 go_wp2_with fail
 refine (deps_any HP.out).mono ?_
 rintro e w1 ⟨rfl, rfl⟩
 go_wp2_with fail
 refine wp_loop_rounds 1 ?_
 rw [rounds_succ]
 go_wp2_with fail
 refine (importValues_nil p pm mv par _ name ver w1 HP.out HM.out).mono ?_
 rintro e w2 ⟨rfl, rfl⟩
 go_wp2
 go_ret
 exact ⟨rfl, rfl⟩
theorem process_nil (p pm m : Nat) (mv par : Value) (da : Option Addr) (dc : Nat) (name ver : K) (w : World) (hp : Blk w p [ptr pm, mv, par, .slice da 0 dc] 125) (hm : Blk w pm [.string name, .string ver, .slice none 0 0] 122) : Calls Tryz.prog 48 #[ptr p, .map (some m)] w fun e w' => e = .returned .nilIface /\ w' = w := by
 have HP := Hd hp
 have HM := Hd hm
 have hrun := run_neErr0
 have hgrd := run_guardErr0
 clear hp hm
 go_enter Tryz.func48, Tryz.ntmps48
 go_wp2_with fail
 refine (procEnabled_nil p pm m mv par _ name ver _ w HP.out HM.out).mono ?_
 rintro e w1 ⟨rfl, rfl⟩
 go_wp2_with fail
 refine (importAll_nil p pm mv par da dc name ver w1 HP.out HM.out).mono ?_
 rintro e w2 ⟨rfl, rfl⟩
 go_wp2
 go_ret
 exact ⟨rfl, rfl⟩
theorem agg100 : AggTy Tryz.prog 100 2 := ⟨⟨_, Tryz.underlying100⟩, by kernel_rfl⟩
theorem run_build23_1 (u : Value) (hu : u.oneCell' = true) (w : World) : (Instr.buildSlice 23 1 #[(0, u)]).run Tryz.prog w = .ok (.slice (some ⟨w.heap.size, 0, none⟩) 1 1) (w.alloc (.cells #[u] 9)) := by
 cases u <;> first | (simp [Value.oneCell'] at hu; done) | kernel_rfl
abbrev opt7L (vf lv fn : Value) : List Value := [vf, .slice none 0 0, lv, .slice none 0 0, .slice none 0 0, .slice none 0 0, fn]
structure OPL (w : World) (g B : Nat) (fn : Value) (xs : List J) (wr : World) (vf : Value) (ms : List Value) (lv : Value) : Prop where
 own : OwnR wr (g + 1) 67 1 vf (ms.map fun m => [m])
 len : ms.length = xs.length
 val : ∀ (i : Nat) (m : Value) (x : J), ms[i]? = some m -> xs[i]? = some x -> MapFor (fun b => g < b /\ b < B) wr m x
 chg : Chg No w wr
 box : Blk wr g (opt7L vf lv fn) 140
 line : RowAt (fun b => g < b) wr lv 1 [[.string lineK]]
 hw : w.heap.size ≤ g
 top : B ≤ wr.heap.size
theorem OP.line {w : World} {g : Nat} {fn : Value} {xs : List J} {wr : World} {vf : Value} {ms : List Value} (h : OP w g fn xs wr xs.length vf ms) {wx w2 : World} {l' : Value} (h1 : Chg No wr wx) (hb : Blk w2 g (opt7L vf l' fn) 140)
  (hown : OwnR w2 (g + 1) 9 1 l' [[.string lineK]]) (hc : Chg (fun b => b = g ∨ (Value.slice none 0 0).ownBlock = some b) wx w2) : OPL w g w2.heap.size fn xs w2 vf ms l' := by
 have h2 : Chg (· = g) wr w2 := (h1.mono (S' := (· = g)) (fun _ _ e => e.elim)).trans hc (fun b _ e => by rcases e with e | e; exact e; cases e)
 refine ⟨h.own.chg h2 (fun k hk e => by have := (h.own.elem hk).1; omega), h.len, fun i m x hm hx => ?_, h.chg.trans h2 (fun b hb e => by have := h.hw; omega), hb, (hown.rowAt).mono (fun b _ hk => (hown.elem hk).1) (by decide), h.hw, Nat.le_refl _⟩
 exact (((h.val i m x hm hx).mono (fun b _ hb => hb.1)).chg h2 (fun b hb e => by omega)).mono (fun b h1 h2 => ⟨h2, h1⟩)
theorem OPL.chg2 {w : World} {g B : Nat} {fn : Value} {xs : List J} {wr w' : World} {vf : Value} {ms : List Value} {lv : Value} (h : OPL w g B fn xs wr vf ms lv) (hc : Chg No wr w') : OPL w g B fn xs w' vf ms lv :=
 ⟨h.own.chg hc (fun _ _ e => e), h.len, fun i m x h1 h2 => (h.val i m x h1 h2).chg hc (fun _ _ e => e), h.chg.trans' hc, h.box.chg hc id, h.line.chg hc (fun _ _ e => e), h.hw, Nat.le_trans h.top hc.size⟩
theorem options_line (N : Nat) (hN : N < 1099511627776) (d : Nat) (hd : d ≤ 61) (ok : Nat -> Prop) (xs : List J) (lv : Value) (rows0 : List (List Value)) (w : World) (hl : RowAt ok w lv 7 rows0) (hn : rows0.length = xs.length) (hr : ∀ (n : Nat) (r : List Value) (x : J), rows0[n]? = some r -> xs[n]? = some x -> ValJ ok w r x)
  (hw : ∀ x ∈ xs, Wf N d x /\ (x = .null ∨ isT x = true) /\ sz x ≤ 2000) (hx : xs.length ≤ 40) (l0 : Nat) (hline : Blk w l0 [.int .i64 0, .string lineK] 100) :
  Calls Tryz.prog 63 #[lv, .slice (some ⟨l0, 0, none⟩) 1 1, .slice none 0 0] w fun e w' => ∃ g fn vf ms lv, e = .returned (.tuple #[.pointer (some ⟨g, 0, none⟩), .bool true]) /\ OPL w g w'.heap.size fn xs w' vf ms lv := by
 have HLINE := Hd hline
 clear hline
 have HL := Hd hl
 have HN := Hd hn
 have HR := Hd hr
 have WX := Hd hw
 have hl1 := hl.1
 obtain ⟨-, -, la, lc, rfl, -, -⟩ := hl
 unfold maxLen at hl1
 rw [hn] at hl1 HL ⊢
 have h40 : ¬ (40 : Int) < (xs.length : Int) := by omega
 have HX40 := Hd hx
 clear hn hr hw hx
 go_enter Tryz.func63, Tryz.ntmps63
 go_wp2_with fail
 refine (reading_nil w).mono ?_
 rintro e w1 ⟨⟨fn, fa, fb, rfl⟩, hc1⟩
 have HC1 := Hd hc1
 clear hc1
 go_wp2_with fail
 have hb1 := Blk.new w1 (opt7 (.slice none 0 0) (.func fn fa fb)) 140
 have HOP0 := Hd (show OP w w1.heap.size (.func fn fa fb) xs _ 0 (.slice none 0 0) [] from
  ⟨Nat.zero_le _, OwnR.nil _ _ _ _, rfl, fun i r x hr => by simp at hr, HC1.out.alloc _, hb1, HC1.out.size⟩)
 obtain ⟨g, hg⟩ : ∃ g, g = w1.heap.size := ⟨_, rfl⟩
 rw [← hg] at HOP0 ⊢
 clear hb1 hg h40
 go_loopw [35] (fun ct wr => ∃ (n : Nat) (vf : Value) (ms : List Value), ct = .int .i64 n /\ OP w g (.func fn fa fb) xs wr n vf ms) (fun ct _ => xs.length - (intOf ct).toNat)
 case atStart => exact ⟨0, _, _, rfl, HOP0.out⟩
 case round =>
  obtain ⟨n, vf, ms, rfl, hop⟩ := hrel
  have HOP := Hd hop
  clear hop HOP0
  by_cases hlt : n < xs.length
  ·obtain ⟨x, hx⟩ : ∃ x, xs[n]? = some x := ⟨_, List.getElem?_eq_getElem hlt⟩
   obtain ⟨r, hr0⟩ : ∃ r, rows0[n]? = some r := ⟨_, List.getElem?_eq_getElem (by rw [HN.out]; exact hlt)⟩
   obtain ⟨lb, lo, rfl, -, hlc⟩ := HL.out.at (i := n) (r := r) hr0
   have HLC := hlc.chg HOP.out.chg id
   have HV2 := Hd (HR.out n r x hr0 hx)
   obtain ⟨rk, rb, ri, rf, rt, rkv, rlv, rfl⟩ := HV2.out.seven
   have h64 : (n : Int) < (xs.length : Int) := by omega
   have ho1 : (cells7 rk rb ri rf rt rkv rlv).all (·.oneCell') = true := HV2.out.one
   have HX := Hd hx
   clear hr0 hlc hx
   go_wp2_with (first | (with_reducible refine wpList_loadAgg rfl agg26 rfl rfl HLC rfl ?_) | (with_reducible refine wpList_storeNew rfl agg26 rfl rfl rfl rfl rfl ho1 ?_) | (with_reducible refine wpList_loadAgg rfl agg26 rfl rfl (Blk.new wr (cells7 rk rb ri rf rt rkv rlv) 26).cells rfl ?_))
   obtain ⟨wx1, wx2, wx3⟩ := WX.out x (List.mem_of_getElem? HX.out)
   refine (table_any hN (HV2.out.bel.chg (HOP.out.chg.alloc _) (fun _ _ e => e)) wx1 wx2 wx3 hd).mono ?_
   rintro e w4 ⟨m, rfl, hmf, hc4⟩
   obtain ⟨mp, rfl⟩ := hmf.slice
   have hc4' : Chg No wr w4 := ((Chg.refl No wr).alloc _).trans' hc4
   have HSTEP := Hd (fun w6 vf' => HOP.out.step (w6 := w6) (vf' := vf') HX.out hc4' (hmf.mono (fun b _ hb => by simp at hb; omega)))
   have hown := HOP.out.own.chg hc4' (fun _ _ e => e)
   have c0 : w4.cell? ⟨g, 0, none⟩ = some vf := (HOP.out.box.chg hc4' id).cell 0
   have hnb : (ms.map fun m => [m]).length + 1 ≤ 1099511627776 := by
    rw [List.length_map, HOP.out.len]
    have := HX40.out
    omega
   have hbs : g + 1 ≤ w4.heap.size + 1 := by have h1 := HOP.out.box.lt; have h2 := hc4'.size; omega
   clear hmf hc4 hc4' HLC wx1 wx2 wx3
   go_wp2_with (first | (at_builtin; refine wpList_appendRows rfl elem138 rfl rfl (hown.alloc _) rfl (RowAt.one1 w4 [.map mp] 67 1 rfl) (by simp [Value.oneCell']) hnb (by decide) (by simpa using hbs) ?_; intro vf' w6 hown' hc6 hv' hold; (obtain ⟨sa, sn, sc, rfl⟩ := hown'.slice); go_frame) | (refine wpList_setSlice rfl rfl rfl rfl Tryz.sizeOf138 (HSTEP.out w6 _ hc6 hown' hv').1 (show 0 < 7 by decide) ?_; intro w7 hb7 hc7 hs7; go_frame))
   have HA7 := Hd ((HSTEP.out w6 _ hc6 hown' hv').2 w7 hb7 hc7)
   clear hown' hc6 hv' hold hown hb7 hc7
   go_roundw
   case rel => exact ⟨n + 1, _, _, by go_num, HA7.out⟩
   case measure => simp [intOf]; omega
  ·have hnl : n = xs.length := Nat.le_antisymm HOP.out.le (Nat.not_lt.1 hlt)
   subst hnl
   have hlen : ¬ ((xs.length : Nat) : Int) < (xs.length : Int) := by omega
   have hl0 := (HLINE.out.chg HOP.out.chg id).cells
   have ho2 : ([Value.int IntKind.i64 0, Value.string lineK]).all (·.oneCell') = true := rfl
   have HLN := Hd (Blk.new wr [.int .i64 0, .string lineK] 100)
   go_wp2_with fail
   refine wp_loop_rounds 2 ?_
   rw [rounds_succ]
   go_wp2_with (first | (with_reducible refine wpList_loadAgg rfl agg100 rfl rfl hl0 rfl ?_) | (with_reducible refine wpList_storeNew rfl agg100 rfl rfl rfl rfl rfl ho2 ?_))
   refine (places_line _).mono ?_
   rintro e w' ⟨rfl, rfl⟩
   go_upto_region 21 with fail
   obtain ⟨wx, hwx⟩ : ∃ wx, wx = wr.alloc (.cells #[.int .i64 0, .string lineK] 100) := ⟨_, rfl⟩
   have HLN' := HLN.out
   rw [← hwx] at HLN' ⊢
   have HLN := Hd HLN'
   have HX2 := Hd (show Chg No wr wx from by rw [hwx]; exact (Chg.refl No wr).alloc _)
   have HBG := Hd (HOP.out.box.chg HX2.out id)
   obtain ⟨L, hL⟩ : ∃ L, L = wr.heap.size := ⟨_, rfl⟩
   rw [← hL] at HLN ⊢
   have HNL := Hd (show ¬ (L = g ∨ (Value.slice none 0 0).ownBlock = some L) from fun e => by rcases e with e | e; have := HOP.out.box.lt; omega; cases e)
   clear HLN' hwx hL hl0 ho2 hlt hlen
   refine wp_region_inv (FI [.eq (ptr g), .eq (ptr g), .eq (ptr g), .eq (.pointer (some ⟨g, 2, none⟩)), .eq (.slice none 0 0), .eq (.pointer (some ⟨L, 1, none⟩)), .eq (.string lineK), .temp wx.heap.size [.string lineK] 9, .ownN (g + 1) 9 (.slice none 0 0) [] [.string lineK] wx, .eq (ptr g), .eq (.pointer (some ⟨g, 2, none⟩)), .any])
    (fun done w' => AG g (fun l => [vf, .slice none 0 0, l, .slice none 0 0, .slice none 0 0, .slice none 0 0, .func fn fa fb]) 140 (g + 1) 9 (.slice none 0 0) [] [.string lineK] wx w' (done 8) (done 11)) (by kernel_rfl) (by kernel_rfl) (AG.start (OwnR.nil _ _ _ _) HBG.out) ?_ ?_
   ·refine ⟨?_, ?_, ?_, ?_, ?_, ?_, ?_, ?_, ?_, ?_, ?_, ?_, trivial⟩
    ·intro done a w1 K hd qd qe qf qb hG hK
     have e8 : a.tmps[8]?.getD undef = ptr g := qf 8 rfl
     clear qd qe qf qb
     go_simp
     exact hK _ _ rfl (by simpa [dn] using hG) (fun _ _ _ _ h => h)
    ·intro done a w1 K hd qd qe qf qb hG hK
     have e8 : a.tmps[8]?.getD undef = ptr g := qf 8 rfl
     clear qd qe qf qb
     go_simp
     exact hK _ _ rfl (by simpa [dn] using hG) (fun _ _ _ _ h => h)
    ·intro done a w1 K hd qd qe qf qb hG hK
     have e81 : a.tmps[81]?.getD undef = ptr g := qe 1 81 rfl (qb 1 rfl)
     clear qd qe qf qb
     go_simp
     exact hK _ _ rfl (by simpa [dn] using hG) (fun _ _ _ _ h => h)
    ·intro done a w1 K hd qd qe qf qb hG hK
     have e82 : a.tmps[82]?.getD undef = ptr g := qe 2 82 rfl (qb 2 rfl)
     clear qd qe qf qb
     go_simp
     exact hK _ _ rfl (by simpa [dn] using hG) (fun _ _ _ _ h => h)
    ·intro done a w1 K hd qd qe qf qb hG hK
     have e83 : a.tmps[83]?.getD undef = .pointer (some ⟨g, 2, none⟩) := qe 3 83 rfl (qb 3 rfl)
     have n11 : done 11 = false := by
      cases hh0 : done 11 with
      | false => rfl
      | true =>
       have hh1 := qd 11 8 rfl hh0
       have hh2 := qd 8 4 rfl hh1
       rw [hd] at hh2; cases hh2
     have hG0 := hG
     rw [n11] at hG0
     obtain ⟨l', hb, h1, -⟩ := hG0.box
     obtain rfl := h1 rfl
     have c0 : w1.cell? ⟨g, 2, none⟩ = some (.slice none 0 0) := hb.cell 2
     clear hG0 hb h1 n11
     clear qd qe qf qb
     go_simp
     exact hK _ _ rfl (by simpa [dn] using hG) (fun _ _ _ _ h => h)
    ·intro done a w1 K hd qd qe qf qb hG hK
     have e15 : a.tmps[15]?.getD undef = ptr L := qf 15 rfl
     clear qd qe qf qb
     go_simp
     exact hK _ _ rfl (by simpa [dn] using hG) (fun _ _ _ _ h => h)
    ·intro done a w1 K hd qd qe qf qb hG hK
     have e85 : a.tmps[85]?.getD undef = .pointer (some ⟨L, 1, none⟩) := qe 5 85 rfl (qb 5 rfl)
     have c0 : w1.cell? ⟨L, 1, none⟩ = some (.string lineK) := (HLN.out.chg hG.chg HNL.out).cell 1
     clear qd qe qf qb
     go_simp
     exact hK _ _ rfl (by simpa [dn] using hG) (fun _ _ _ _ h => h)
    ·intro done a w1 K hd qd qe qf qb hG hK
     have e86 : a.tmps[86]?.getD undef = .string lineK := qe 6 86 rfl (qb 6 rfl)
     have hbs := run_build23_1 (.string lineK) rfl
     have hc : Chg No w1 (w1.alloc (.cells #[.string lineK] 9)) := (Chg.refl No w1).alloc _
     have HC := Hd hc
     have HT := Hd (show ∃ t, (Value.slice (some ⟨w1.heap.size, 0, none⟩) 1 1) = .slice (some ⟨t, 0, none⟩) 1 1 /\ wx.heap.size ≤ t /\ Blk (w1.alloc (.cells #[.string lineK] 9)) t [.string lineK] 9 from ⟨_, rfl, hG.chg.size, Blk.new _ _ _⟩)
     have HGN := Hd (hG.chgNo hc)
     clear hc
     clear qd qe qf qb
     go_simp
     exact hK _ _ HT.out (by simpa [dn] using HGN.out) (fun _ _ _ _ h => h.keepNo HC.out)
    ·intro done a w1 K hd qd qe qf qb hG hK
     have e84 : a.tmps[84]?.getD undef = .slice none 0 0 := qe 4 84 rfl (qb 4 rfl)
     obtain ⟨t, e87, htl, htb⟩ := qe 7 87 rfl (qb 7 rfl)
     have n11 : done 11 = false := by
      cases hh0 : done 11 with
      | false => rfl
      | true => have := qd 11 8 rfl hh0; rw [hd] at this; cases this
     rw [hd, n11] at hG
     refine if_wanted rfl ?_
     refine wp_appendRows elem23 rfl (by simpa [Act.eval] using e84) (hG.own rfl) (by simpa [Act.eval] using e87) (htb.row1 rfl) (by intro r hr; obtain rfl := List.mem_singleton.1 hr; rfl) (by simp) (by decide) (by have := hG.chg.size; have := HBG.out.lt; omega) ?_
     intro v' w2 hown hc hv' hold
     refine hK _ _ ⟨hown, hv'.imp id (fun h k hk => Nat.le_trans hG.chg.size (h k hk))⟩ (by simpa [dn, n11] using hG.app (by decide) hc) ?_
     refine fun j hj _ u hu => hu.keep hc (safe_of (i := 8) (fun j hl hj => ?_) j hj)
     match j, hj with
     | 0, _ => exact trivial
     | 1, _ => exact trivial
     | 2, _ => exact trivial
     | 3, _ => exact trivial
     | 4, _ => exact trivial
     | 5, _ => exact trivial
     | 6, _ => exact trivial
     | 7, _ => exact fun k hk => by have e1 : (none : Option Nat) = some k := hk; cases e1
     | 8, hj => exact absurd rfl hj
     | 9, _ => exact trivial
     | 10, _ => exact trivial
     | 11, _ => exact trivial
     | j + 12, _ => exact absurd hl (by simp)
    ·intro done a w1 K hd qd qe qf qb hG hK
     have e80 : a.tmps[80]?.getD undef = ptr g := qe 0 80 rfl (qb 0 rfl)
     clear qd qe qf qb
     go_simp
     exact hK _ _ rfl (by simpa [dn] using hG) (fun _ _ _ _ h => h)
    ·intro done a w1 K hd qd qe qf qb hG hK
     have e89 : a.tmps[89]?.getD undef = ptr g := qe 9 89 rfl (qb 9 rfl)
     clear qd qe qf qb
     go_simp
     exact hK _ _ rfl (by simpa [dn] using hG) (fun _ _ _ _ h => h)
    ·intro done a w1 K hd qd qe qf qb hG hK
     have e90 : a.tmps[90]?.getD undef = .pointer (some ⟨g, 2, none⟩) := qe 10 90 rfl (qb 10 rfl)
     obtain ⟨hown, hnew⟩ := qe 8 88 rfl (qb 8 rfl)
     have h8 : done 8 = true := qb 8 rfl
     rw [hd, h8] at hG
     obtain ⟨l', hb, h1, -⟩ := hG.box
     obtain rfl := h1 rfl
     have HNQ : ∀ {w : World} {cs : List Value}, Blk w g cs 140 -> ¬ ∃ cur, w.heap[g]? = some (.cells cur 9 (0, 0)) := by rintro w cs hb ⟨cur, hcur⟩; have h2 : w.heap[g]? = _ := hb; rw [h2] at hcur; cases hcur
     refine if_wanted rfl ?_
     refine wp_setSlice rfl (by simpa [Act.eval] using e90) hown.slice Tryz.sizeOf23 hb (show 2 < 7 by decide) (by simp [Act.eval]) ?_
     intro w2 hb2 hc2 hs2
     refine hK undef _ trivial (by simpa [dn, h8] using hG.store (by decide) hb2 hc2 hown hnew) ?_
     refine fun j hj _ u hu => hu.keep hc2 (safe_of (i := 11) (fun j hl hj => ?_) j hj)
     match j, hj with
     | 0, _ => exact trivial
     | 1, _ => exact trivial
     | 2, _ => exact trivial
     | 3, _ => exact trivial
     | 4, _ => exact trivial
     | 5, _ => exact trivial
     | 6, _ => exact trivial
     | 7, _ => exact fun k hk => by have e1 : k = g := hk; have := HBG.out.lt; omega
     | 8, _ => exact fun k hk _ => by have e1 : k = g := hk; subst e1; exact HNQ hb
     | 9, _ => exact trivial
     | 10, _ => exact trivial
     | 11, hj => exact absurd rfl hj
     | j + 12, _ => exact absurd hl (by simp)
   ·intro vs w2 hvs hvn hG
    obtain ⟨l', hb, -, h2⟩ := hG.box
    obtain ⟨hown, hnew⟩ := h2 rfl
    have HRES := Hd (HOP.out.line HX2.out hb (by simpa using hown) hG.chg)
    obtain ⟨sa, sc, rfl⟩ := hown.slice1
    clear hvs hvn hG hb h2 hown hnew
    simp only [putAll, Act.put, List.setIfInBounds_toArray, List.set_cons_succ, List.set_cons_zero]
    go_wp2_with fail
    rw [rounds_succ]
    go_wp2
    go_ret2
    exact ⟨g, _, _, _, _, rfl, HRES.out⟩
theorem anyJ_table {ok : Nat -> Prop} {w : World} {v : Value} {kvs : T} (h : AnyJ ok w v (.table kvs)) : ∃ b n f, v = .iface 67 (.map (some b)) /\ MapB w b n f /\ ok b /\ (∀ k, (f k).isSome = (get kvs k).isSome) /\ ∀ (k : K) (u : Value) (x : J), f k = some u -> get kvs k = some x -> AnyJ ok w u x := by
 cases h with
 | table hm hb hd h => exact ⟨_, _, _, rfl, hm, hb, hd, h⟩
theorem mergeValues_line (N d : Nat) (hd : 1 ≤ d) (xs : List J) (hNN : N * xs.length + N < 1099511627776) (w0 : World) (g B : Nat) (fn vf : Value) (ms : List Value) (lv : Value) (w : World) (hop : OPL w0 g B fn xs w vf ms lv)
  (hw : ∀ x ∈ xs, Wf N d x /\ (x = .null ∨ isT x = true)) (hl40 : xs.length ≤ 40) (honly : ∀ k x, get (mergeAll xs) k = some x -> k = aK) :
  Calls Tryz.prog 64 #[.pointer (some ⟨g, 0, none⟩)] w fun e w' => ∃ b, e = .returned (.tuple #[.map (some b), .nilIface]) /\ AnyJ (fun x => (g < x /\ x < B) ∨ w.heap.size ≤ x) w' (.iface 67 (.map (some b))) (.table (ins (mergeAll xs) aK (.int 2))) /\ Chg (fun x => g < x /\ x < B) w w' := by
 have HOP := Hd hop
 have WX := Hd hw
 have HNN := Hd hNN
 have HONLY := Hd honly
 clear honly
 have HD := Hd hd
 have hrow := hop.own.rowAt
 obtain ⟨-, -, va, vc, rfl, -, -⟩ := hrow
 simp only [List.length_map, hop.len] at HOP
 have HROW := Hd HOP.out.own.rowAt
 have k0 : w.cell? ⟨g, 0, none⟩ = some (.slice va xs.length vc) := HOP.out.box.cell 0
 have hgl := HOP.out.box.lt
 have hl1 : xs.length ≤ 2 ^ 63 - 1 := by omega
 have hmk := run_makeMap67n
 obtain ⟨-, -, la, lc, rfl, -, -⟩ := hop.line
 obtain ⟨lb, lo, rfl, hlb, hlc⟩ := hop.line.at (show ([[Value.string lineK]] : List (List Value))[0]? = some [Value.string lineK] from rfl)
 have HLC := Hd hlc
 have HLB := Hd hlb
 clear hop hw hNN hd hlc hlb
 simp only [show ([[Value.string lineK]] : List (List Value)).length = 1 from rfl] at HOP
 go_enter Tryz.func64, Tryz.ntmps64
 go_wp2_with fail
 have hfacts : ∀ W, ((w.alloc (.cells [Value.pointer (some ⟨g, 0, none⟩)].toArray 93)).alloc (.map #[] 0)) = W -> Blk W w.heap.size [.pointer (some ⟨g, 0, none⟩)] 93 /\ MapB W (w.heap.size + 1) 0 (fun _ => none) /\ Chg No w W := by
  rintro W rfl
  refine ⟨(Blk.new _ _ _).alloc _, ?_, ((Chg.refl No w).alloc _).alloc _⟩
  have h := MapB.made (w.alloc (.cells [Value.pointer (some ⟨g, 0, none⟩)].toArray 93))
  simpa using h
 generalize hgw : World.alloc _ _ = W
 obtain ⟨b1, m1, c1⟩ := hfacts W hgw
 clear hgw hfacts
 have HB1 := Hd b1
 have HM1 := Hd m1
 have HC1 := Hd c1
 clear b1 m1 c1 k0
 go_loopw [4, 29] (fun bv ct wr => ∃ (n b : Nat), n ≤ xs.length /\ ct = .int .i64 n /\ bv = .map (some b) /\ AnyJ (fun x => (g < x /\ x < B) ∨ w.heap.size ≤ x) wr (.iface 67 (.map (some b))) (.table (mergeAll (xs.take n))) /\ Chg No W wr) (fun _ ct _ => xs.length - (intOf ct).toNat)
 case atStart =>
  refine ⟨0, _, Nat.zero_le _, rfl, rfl, ?_, Chg.refl _ _⟩
  exact .table HM1.out (.inr (by omega)) (fun k => by simp [mergeAll, get]) (fun k u x h => by cases h)
 case round =>
  obtain ⟨n, b, hn, rfl, rfl, hany, hcr⟩ := hrel
  have HANY := Hd hany
  have HCR := Hd hcr
  clear hany hcr
  by_cases hlt : n < xs.length
  ·obtain ⟨x, hx⟩ : ∃ x, xs[n]? = some x := ⟨_, List.getElem?_eq_getElem hlt⟩
   obtain ⟨m, hm⟩ : ∃ m, ms[n]? = some m := ⟨_, List.getElem?_eq_getElem (by rw [HOP.out.len]; exact hlt)⟩
   obtain ⟨kb, ko, rfl, -, hkc⟩ := HROW.out.at (i := n) (r := [m]) (by simp [hm])
   have hkc := ((hkc.chg HC1.out id).chg HCR.out id).one
   simp only [Nat.mul_one] at hkc
   have h64 : (n : Int) < (xs.length : Int) := by omega
   obtain ⟨wx1, wx2⟩ := WX.out x (List.mem_of_getElem? hx)
   have hmf := ((HOP.out.val n m x hm hx).mono (ok' := fun x => (g < x /\ x < B) ∨ w.heap.size ≤ x) (fun b _ hb => .inl hb)).chg (HC1.out.trans' HCR.out) (fun _ _ e => e)
   have hwa := Wf.mergeAll HD.out (fun x hx => (WX.out x hx).1) n hn
   have hmul : N * n ≤ N * xs.length := Nat.mul_le_mul_left _ hn
   have hpost : Calls Tryz.prog 95 #[.map (some b), m] wr (MergedPost (fun x => (g < x /\ x < B) ∨ w.heap.size ≤ x) wr (.table (mergeAll (xs.take (n + 1))))) := by
    rw [mergeAll_succ hx]
    rcases hmf with ⟨rfl, rfl⟩ | ⟨t, bt, rfl, rfl, hat⟩
    ·obtain ⟨d', rfl⟩ : ∃ d', d = d' + 1 := ⟨d - 1, by have := HD.out; omega⟩
     exact mergeMaps_nil (N * n) (by have := HNN.out; omega) d' _ _ _ wr HANY.out hwa
    ·exact mergeMaps_any (N * n) N (by have := HNN.out; omega) d _ _ t _ _ wr HANY.out hat hwa wx1
   have HPOST := Hd hpost
   clear hpost hmf hwa wx1 wx2 hx hm hmul
   go_wp2_with fail
   refine HPOST.out.mono ?_
   rintro e w2 ⟨r, rfl, hva, hc2⟩
   have HVA := Hd hva
   have HC2 := Hd hc2
   clear hva hc2
   go_wp2_with fail
   go_roundw
   case rel => exact ⟨n + 1, r, by omega, by go_num, rfl, HVA.out.mono (fun y _ hy => by have := HC1.out.size; have := HCR.out.size; rcases hy with hy | hy; exact hy; exact .inr (by omega)), HCR.out.trans' HC2.out⟩
   case measure => simp [intOf]; omega
  ·have hnl : n = xs.length := Nat.le_antisymm hn (Nat.not_lt.1 hlt)
   subst hnl
   have hlen : ¬ ((xs.length : Nat) : Int) < (xs.length : Int) := by omega
   have hany := HANY.out
   rw [List.take_length] at hany
   obtain ⟨b', n, fm, e0, hm, hgb, hd, hh⟩ := anyJ_table hany
   obtain rfl : b = b' := by cases e0; rfl
   have HM := Hd hm
   have HOK := Hd hgb
   have HGB := Hd (show g < b by rcases hgb with h | h; exact h.1; omega)
   have HD2 := Hd hd
   have HH := Hd hh
   have hwf := (Wf.mergeAll HD.out (fun x hx => (WX.out x hx).1) xs.length (Nat.le_refl _))
   rw [List.take_length] at hwf
   have hbw : ¬ w.heap.size = b := fun e => by subst e; exact (HM.out.noRow (e := 93)) ⟨_, (HB1.out.chg HCR.out id)⟩
   have HBW := Hd hbw
   have hbp := (HB1.out.chg HCR.out id).cell 0
   have hbo := (HOP.out.box.chg HC1.out id).chg HCR.out id
   have HBO := Hd hbo
   have o4 := hbo.cell 4
   have o2 := hbo.cell 2
   simp only [List.getElem?_cons_succ, List.getElem?_cons_zero] at hbp o2 o4
   clear hbo hany hm hgb hd hh e0 hbw
   go_wp2_with fail
   refine wp_loop_rounds 1 ?_
   rw [rounds_succ]
   go_wp2_with fail
   refine wp_loop_rounds 2 ?_
   rw [rounds_succ]
   have hlc := ((HLC.out.chg HC1.out id).chg HCR.out id).one
   simp only [Nat.zero_mul, Nat.add_zero] at hlc
   go_wp2_with fail
   refine (parseInto_line b (mergeAll xs).length fm wr (HM.out.fit HD2.out) (by
    have h1 : (mergeAll xs).length ≤ N * xs.length := by
     cases d with
     | zero => exact hwf.elim
     | succ d => exact hwf.2.1
    have h2 := HNN.out
    unfold maxLen
    omega)).mono ?_
   rintro e w2 ⟨rfl, hm2, hc2⟩
   have HM2 := Hd hm2
   have HC2 := Hd (HCR.out.mono (S' := (· = b)) (fun _ _ e => e.elim) |>.trans hc2 (fun _ _ e => e))
   have hbo2 := HBO.out.chg hc2 (fun e => by have e1 : g = b := e; have := HGB.out; omega)
   have hb2p := ((HB1.out.chg HCR.out id).chg hc2 (fun e => HBW.out e)).cell 0
   have p1 := hbo2.cell 1
   have p3 := hbo2.cell 3
   have p5 := hbo2.cell 5
   simp only [List.getElem?_cons_succ, List.getElem?_cons_zero] at hb2p p1 p3 p5
   clear hbo2 hm2 hc2 hbp o2 o4 hlc
   go_wp2_with fail
   rw [rounds_succ]
   go_wp2_with fail
   refine wp_loop_rounds 1 ?_
   rw [rounds_succ]
   go_wp2_with fail
   refine wp_loop_rounds 1 ?_
   rw [rounds_succ]
   go_wp2_with fail
   refine wp_loop_rounds 1 ?_
   rw [rounds_succ]
   go_wp2
   go_ret2
   have hend : Chg (fun x => g < x /\ x < B) w w2 := (HC1.out.mono (S' := fun x => g < x /\ x < B) (fun _ _ e => e.elim)).trans HC2.out (fun x hx e => by
    have e1 : x = b := e
    subst e1
    rcases HOK.out with h | h
    ·exact h
    ·omega)
   refine ⟨b, rfl, .table HM2.out HOK.out (fun k => ?_) (fun k u x hu hx => ?_), hend⟩
   ·rw [get_ins]
    by_cases hk : k = aK
    ·subst hk; simp
    ·rw [if_neg hk, if_neg (fun e => hk e.symm)]; exact HD2.out k
   ·rw [get_ins] at hx
    by_cases hk : k = aK
    ·subst hk
     simp only [if_true] at hu hx
     cases hu; cases hx
     exact .int
    ·rw [if_neg (fun e => hk e.symm)] at hx
     exact absurd (HONLY.out k x hx) hk
def cnK : K := ⟨#[99]⟩
def cvK : K := ⟨#[49, 46, 48, 46, 48]⟩
def rnK : K := ⟨#[114]⟩
def chA : Ch := .mk cnK cvK .null [] []
def tA : T := [(aK, .int 1)]
def tB : T := ins (mergeAll [.table tA]) aK (.int 2)
theorem only_a (k : K) (x : J) (h : get (mergeAll [.table tA]) k = some x) : k = aK := by
 have h1 : get (merged [] tA) k = some x := h
 rw [get_merged] at h1
 by_cases hk : k = aK
 ·exact hk
 ·have h2 : get tA k = none := by unfold tA; simp [get, Ne.symm hk]
  rw [h2] at h1
  simp [get] at h1
theorem get_tB (k : K) : get tB k = if aK = k then some (.int 2) else none := by
 unfold tB
 rw [get_ins]
 by_cases hk : aK = k
 ·rw [if_pos hk, if_pos hk]
 ·rw [if_neg hk, if_neg hk]
  cases h : get (mergeAll [.table tA]) k with
  | none => rfl
  | some x => exact absurd (only_a k x h).symm hk
theorem sorted_tB : Sorted tB := sorted_ins _ _ (sorted_merged _ _)
theorem ver_cv : Ver cvK := by
 have h : parts cvK 46 = [⟨#[49]⟩, ⟨#[48]⟩, ⟨#[48]⟩] := by decide +kernel
 refine ⟨by rw [h]; rfl, fun x hx => ?_⟩
 rw [h] at hx
 simp only [List.mem_cons, List.not_mem_nil, or_false] at hx
 rcases hx with rfl | rfl | rfl
 all_goals
  refine ⟨fun i hi => ?_, by decide, by decide, fun h => absurd h (by decide)⟩
  have hi2 : i = 0 := by
   have h3 : i < 1 := hi
   omega
  subst hi2
  first | (show 48 ≤ (49 : UInt8).toNat /\ (49 : UInt8).toNat ≤ 57; decide) | (show 48 ≤ (48 : UInt8).toNat /\ (48 : UInt8).toNat ≤ 57; decide)
theorem plain_cn : PlainS cnK := by
 refine ⟨by decide, by decide, by decide, by decide, fun i hi => ?_⟩
 have hi2 : i = 0 := by
  have h3 : i < 1 := hi
  omega
 subst hi2
 show 97 ≤ (99 : UInt8).toNat /\ (99 : UInt8).toNat ≤ 122
 decide
theorem chR_A : ChR 1 chA := by
 refine ⟨⟨trivial, by decide, .inl rfl⟩, plain_cn, ⟨ver_cv, by unfold kSm; decide⟩, by decide, List.Pairwise.nil, fun d hd => (by cases hd), by decide, fun d hd => (by cases hd), List.Pairwise.nil, fun d hd => (by cases hd)⟩
abbrev uA : List K := [gK, cnK, aK]
theorem chW_A : ChW uA 99999999999 50 1 chA := by
 refine ⟨by unfold kOk; decide, by simp [uA, chA, Ch.name], plain_cn.notG, fun t h => (by cases h), List.Pairwise.nil, fun d hd => (by cases hd)⟩
theorem wu_tB : WU uA 99999999999 50 (.table tB) := by
 refine WU.of_get sorted_tB fun k v hv => ?_
 rw [get_tB] at hv
 by_cases hk : aK = k
 ·rw [if_pos hk] at hv; cases hv; subst hk; exact ⟨by simp [uA], trivial⟩
 ·rw [if_neg hk] at hv; cases hv
theorem shal_tB : ShalA (.table tB) := by
 intro d
 cases d with
 | zero => trivial
 | succ d =>
  intro t e k x hx
  cases e
  rw [get_tB] at hx
  by_cases hk : aK = k
  ·rw [if_pos hk] at hx; cases hx; subst hk
   refine ⟨?_, fun h => absurd h (by decide)⟩
   cases d with
   | zero => trivial
   | succ d => intro t e; cases e
  ·rw [if_neg hk] at hx; cases hx
theorem idle105 (p q : Value) (w : World) : CallsD Tryz.prog 105 #[p, q] .returning w fun e u' w' => e = .returned (.tuple #[]) /\ u' = .returning /\ w' = w := by
 refine callsD_of_wpS Tryz.func105 rfl fun c₀ cs hu => ?_
 apply wpS_seq
 apply wpS_region
 simp [wpOpsS, go_sem, recoverD, hu, Tryz.ntmps105, Exit.thenS]
 refine wpS_cond (t := false) (by simp [Act.eval, Array.replicate]) ?_
 simp only [Bool.false_eq_true, if_false]
 refine wpS_of_wp (wp_skip ?_)
 cases c₀
 simp_all [bodyPostS, results, Tryz.results105]
abbrev nil0 : Value := .slice none 0 0
abbrev csA : List Value := cells11 cnK cvK 0 false 0 0 ByteArray.empty nil0 nil0 nil0 nil0
theorem whole_line (lv : Value) (row : List Value) (l0 : Nat) (w : World) (ht : RowAt (fun _ => True) w lv 7 [row]) (hv : ValJ (fun _ => True) w row (.table tA)) (hline : Blk w l0 [.int .i64 0, .string lineK] 100) :
  Calls Tryz.prog 65 #[.agg csA.toArray, lv, .slice (some ⟨l0, 0, none⟩) 1 1, .slice none 0 0, .agg #[.string rnK, .string ByteArray.empty, .int .i64 0, .bool false, .bool false]] w
   (RendRet w cnK cvK rnK ByteArray.empty 0 false false (allV false chA tB)) := by
 have hmf : ∀ (fn : Fn) (first cap : Array Value) (w : World), (Instr.makeFunc fn first cap).run Tryz.prog w = .ok (.func fn first cap) w := fun _ _ _ _ => rfl
 have hfacts : ∀ W, (((((w.alloc (.cells csA.toArray 30)).alloc (.cells [.string rnK, .string ByteArray.empty, .int .i64 0, .bool false, .bool false].toArray 55)).alloc (.cells zero7.toArray 26)).alloc (.cells [.int .i64 0].toArray 3))) = W ->
   Blk W w.heap.size csA 30 /\ Blk W (w.heap.size + 1) [.string rnK, .string ByteArray.empty, .int .i64 0, .bool false, .bool false] 55 /\ Blk W (w.heap.size + 2) zero7 26 /\ Blk W (w.heap.size + 3) [.int .i64 0] 3 /\ Chg No w W := by
  rintro W rfl
  exact ⟨(((Blk.new _ _ _).alloc _).alloc _).alloc _, ((Blk.newAt (by simp) _ _).alloc _).alloc _, (Blk.newAt (by simp) _ _).alloc _, Blk.newAt (by simp) _ _, (((((Chg.refl No w).alloc _).alloc _).alloc _).alloc _)⟩
 have HF := Hd hfacts
 have HT := Hd ht
 have HV := Hd hv
 have HL := Hd hline
 obtain ⟨-, -, la, lc, rfl, -, -⟩ := ht
 clear hfacts hv hline
 go_enter_defers Tryz.func65, Tryz.ntmps65
 unfold csA cells11
 go_upto_region 2 with fail
 generalize hgw : World.alloc _ _ = W
 obtain ⟨b3, b5, b6, b7, c1⟩ := HF.out W hgw
 clear hgw HF
 obtain ⟨g, hg⟩ : ∃ g, g = w.heap.size := ⟨_, rfl⟩
 rw [← hg] at b3 b5 b6 b7 ⊢
 have HGE := Hd hg
 have HB3 := Hd b3
 have HB5 := Hd b5
 have HB6 := Hd b6
 have HB7 := Hd b7
 have HC1 := Hd c1
 clear b3 b5 b6 b7 c1 hg
 go_wp2_with fail
 refine (options_line 300 (by decide) 50 (by decide) (okB (fun _ => True) w) [.table tA] (.slice la [row].length lc) [row] W ((HT.out.mono (ok' := okB (fun _ => True) w) (fun b hb h => ⟨h, hb⟩) (by decide)).chg HC1.out (fun _ _ e => e)) rfl (fun n r x hr hx => by
  match n, hr, hx with
  | 0, hr, hx => cases hr; cases hx; exact HV.out.bel.chg HC1.out (fun _ _ e => e)
  | n + 1, hr, hx => simp at hr) (fun x hx => by
  obtain rfl := List.mem_singleton.1 hx
  exact ⟨⟨List.pairwise_singleton _ _, by decide, fun p hp => by obtain rfl := List.mem_singleton.1 hp; exact ⟨by unfold kOk; decide, trivial⟩⟩, .inr rfl, by decide⟩) (by decide) l0 (HL.out.chg HC1.out id)).mono ?_
 rintro e w2 ⟨go, fn, vf, ms, lv, rfl, hopl⟩
 have HOPL := Hd hopl
 have HC2 := Hd (HC1.out.trans' hopl.chg)
 have HC22 := Hd hopl.chg
 have b32 := HB3.out.chg hopl.chg id
 clear hopl
 have hl3 : csA.length = 11 := rfl
 have agg55 : AggTy Tryz.prog 55 5 := ⟨⟨_, Tryz.underlying55⟩, by kernel_rfl⟩
 go_wp2_with (first | (with_reducible refine wpList_loadAgg rfl agg30 rfl rfl b32.cells hl3 ?_))
 refine (chartOf_any 1 chA (fun _ => True) csA w2 0 (ChJ.mk (drows := []) (wrows := []) (.null (rowNil _ _ _) (rowNil _ _ _)) (rowNil _ _ _) rfl (fun n r d h => by simp at h) (rowNil _ _ _) rfl (fun n r d h => by simp at h)) chR_A (by decide)).mono ?_
 rintro e w3 ⟨p, R, S, rfl, hco, hR, hS, hRS, hc3⟩
 have HCM := Hd hco.chartM
 obtain ⟨pm, mv3, par3, da3, dc3, hbp, hbm, hSp, hSm⟩ : ∃ pm mv3 par3 da3 dc3, Blk w3 p [ptr pm, mv3, par3, .slice da3 0 dc3] 125 /\ Blk w3 pm [.string cnK, .string cvK, .slice none 0 0] 122 /\ S p /\ S pm := by
  cases hco with
  | mk hp hm hpar hv hd hn h hw hwn hwl hx hF hFo hFl hq hqp hSS =>
   obtain ⟨-, -, da, dc, rfl, -, -⟩ := hd
   obtain rfl := hwn rfl
   have h0 := List.eq_nil_of_length_eq_zero hn
   subst h0
   exact ⟨_, _, _, da, dc, hp, hm, (hSS _).2 (.inl rfl), (hSS _).2 (.inr (.inl rfl))⟩
 have HR := Hd hR
 have HS := Hd hS
 have HPP := Hd (And.intro (hS _ hSp) (hS _ hSm))
 have HBP := Hd hbp
 have HBM := Hd hbm
 have HC3 := Hd (HC2.out.trans' hc3)
 have HC33 := Hd hc3
 clear hco hR hS hRS hc3 hbp hbm b32 hSp hSm
 go_wp2_with fail
 refine (mergeValues_line 300 50 (by decide) [.table tA] (by decide) W go w2.heap.size fn vf ms lv w3 (HOPL.out.chg2 HC33.out) (fun x hx => by
  obtain rfl := List.mem_singleton.1 hx
  exact ⟨⟨List.pairwise_singleton _ _, by decide, fun p hp => by obtain rfl := List.mem_singleton.1 hp; exact ⟨by unfold kOk; decide, trivial⟩⟩, .inr rfl⟩) (by decide) only_a).mono ?_
 rintro e w4 ⟨b, rfl, hat, hc4⟩
 have HAT := Hd (show AnyJ (fun x => (go < x /\ x < w2.heap.size) ∨ w3.heap.size ≤ x) w4 (.iface 67 (.map (some b))) (.table tB) from hat)
 have HC4 := Hd hc4
 have HGO := Hd HOPL.out.hw
 have HSZ := Hd (And.intro HC1.out.size (And.intro HC22.out.size HC33.out.size))
 have HBP4 := Hd (HBP.out.chg hc4 (fun e => by have := HPP.out.1; omega))
 have HBM4 := Hd (HBM.out.chg hc4 (fun e => by have := HPP.out.2; omega))
 have HCM4 := Hd (HCM.out.chg hc4 (fun x hx e => by rcases hx with hx | hx; have := HR.out x hx; omega; have := HS.out x hx; omega))
 have HC04 := Hd (HC3.out.trans hc4 (fun x hx e => by have := HGO.out; have := HSZ.out.1; omega))
 have hg1 := HB5.out.lt
 have hg2 := HB6.out.lt
 have hg3 := HB7.out.lt
 have HB54 := Hd (((HB5.out.chg HC22.out id).chg HC33.out id).chg hc4 (fun e => by have := HGO.out; omega))
 have HB64 := Hd (((HB6.out.chg HC22.out id).chg HC33.out id).chg hc4 (fun e => by have := HGO.out; omega))
 have HB74 := Hd (((HB7.out.chg HC22.out id).chg HC33.out id).chg hc4 (fun e => by have := HGO.out; omega))
 clear hat hc4 hg1 hg2 hg3
 have hrun := run_neErr0
 have hgrd := run_guardErr0
 go_wp2_with fail
 refine (process_nil p pm b mv3 par3 da3 dc3 cnK cvK w4 HBP4.out HBM4.out).mono ?_
 rintro e w5 ⟨rfl, hw5⟩
 subst hw5
 have b54 := HB54.out
 go_wp2_with (first | (with_reducible refine wpList_loadAgg rfl agg55 rfl rfl b54.cells rfl ?_))
 have hall : allV false chA tB = some (over false (hasDep []) tB []) := by unfold chA; rw [allV, allD]; rfl
 have HWO := Hd (WU.over (U := uA) (n := 99999999999) (d := 50) false (hasDep []) wu_tB WU.nil)
 refine (rendered_any uA 99999999999 (by decide) (by decide) (fun _ => True) p b pm mv3 par3 (.slice da3 0 dc3) (.slice none 0 0) cnK cvK rnK ByteArray.empty 0 false false (allV false chA tB) w5 HBP4.out HBM4.out (by unfold kOk; decide) (by unfold kOk; decide) (fun t ht => by
  rw [hall] at ht
  cases ht
  exact (HWO.out.wf (by intro k hk; simp only [uA, List.mem_cons, List.not_mem_nil, or_false] at hk; rcases hk with rfl | rfl | rfl <;> (unfold kOk; decide)) (by decide)).mono (Nat.le_refl _) (by decide)) (fun w6 hc6 =>
  coalescePkg_any uA 99999999999 (by decide) (by decide) (by intro k hk; simp only [uA, List.mem_cons, List.not_mem_nil, or_false] at hk; rcases hk with rfl | rfl | rfl <;> (unfold kOk; decide)) (by simp [uA]) 48 1 (by decide) chA chW_A (okB (fun _ => True) w5) p tB b w6
   ((HCM4.out.mono (ok' := okB (fun _ => True) w5) (fun b hb _ => ⟨trivial, hb⟩)).chg hc6 (fun _ _ e => e)) ((HAT.out.mono (ok' := okB (fun _ => True) w5) (fun b hb _ => ⟨trivial, hb⟩)).chg hc6 (fun _ _ e => e)) wu_tB shal_tB)).mono ?_
 rintro e w7 ⟨cs4, code, rfl, hc7, hn4, hs4⟩
 have hl4 : cs4.length = 7 := (hs4 _ hall).2.length
 have ho4 : cs4.all (·.oneCell') = true := (hs4 _ hall).2.one
 have HC7 := Hd (HC04.out.trans' hc7)
 have b64 := HB64.out.chg hc7 id
 have HB77 := Hd (HB74.out.chg hc7 id)
 have HS4 := Hd hs4
 have HNE := Hd (show ¬ g + 3 = g + 2 by omega)
 have HG2 := Hd (And.intro HB64.out.lt HB74.out.lt)
 clear hc7 hn4 hs4 b54 hall
 go_wp2_with (first | (with_reducible refine wpList_storeBlk rfl agg26 rfl rfl rfl b64 rfl hl4 ho4 ?_; intro w9 hb9 hc9 hs9; (have b39 := HB77.out.chg hc9 HNE.out); (have k3 := b39.cell 0); (have f3 := b39.frozen 0); (simp only [List.getElem?_cons_zero] at k3)))
 obtain ⟨hb3y, hcy, -⟩ := b39.setCell 0 (.int .i64 code)
 have hb2y := hb9.chg hcy (by have := HNE.out; omega)
 refine leaves_cons (f := 105) (args := #[.pointer (some ⟨g + 2, 0, none⟩), .pointer (some ⟨g + 3, 0, none⟩)]) (by simp) (by simp [go_sem]) ?_
 refine (idle105 _ _ _).mono ?_
 rintro e u' w'' ⟨rfl, rfl, rfl⟩
 have hge := HGE.out
 have hall2 := (HC7.out.trans hc9 (fun x hx e => by omega)).trans hcy (fun x hx e => by omega)
 have hsz := HC04.out.size
 have hg2 := HG2.out
 refine ⟨_, results_blk_cell (p := 10) (q := 11) rfl agg26 rfl hb2y hl4 Tryz.isAgg3 rfl (hb3y.cell 0), _, code, rfl, hall2, fun h => ?_, fun t' h => ?_⟩
 ·unfold chA at h
  rw [allV, allD] at h
  cases h
 ·obtain ⟨h1, h2⟩ := HS4.out t' h
  exact ⟨h1, (((h2.chg hc9 (fun b hb e => by omega)).chg hcy (fun b hb e => by omega)).mono (fun b _ hb => by omega))⟩
abbrev cI1 : List Value := cells7 2 false 1 0 ByteArray.empty (.slice none 0 0) (.slice none 0 0)
theorem bld26_i (w : World) : (Instr.build 26 #[(0, .int .i64 2), (2, .int .i64 1)]).run Tryz.prog w = .ok (.agg cI1.toArray) w := by kernel_rfl
theorem bld26_t (ka la : Option Addr) (kn kc ln lc : Nat) (w : World) : (Instr.build 26 #[(0, .int .i64 7), (5, .slice ka kn kc), (6, .slice la ln lc)]).run Tryz.prog w = .ok (.agg (cells7 7 false 0 0 ByteArray.empty (.slice ka kn kc) (.slice la ln lc)).toArray) w := by kernel_rfl
theorem bld30 (w : World) : (Instr.build 30 #[(0, .string cnK), (1, .string cvK)]).run Tryz.prog w = .ok (.agg csA.toArray) w := by kernel_rfl
theorem bld100 (w : World) : (Instr.build 100 #[(1, .string lineK)]).run Tryz.prog w = .ok (.agg #[.int .i64 0, .string lineK]) w := by kernel_rfl
theorem bld55 (w : World) : (Instr.build 55 #[(0, .string rnK)]).run Tryz.prog w = .ok (.agg #[.string rnK, .string ByteArray.empty, .int .i64 0, .bool false, .bool false]) w := by kernel_rfl
theorem bldS24 (k : Int) (b : Bool) (i : Int) (f : Nat) (t : K) (ka la : Option Addr) (kn kc ln lc : Nat) (w : World) : (Instr.buildSlice 24 1 #[(0, .agg (cells7 k b i f t (.slice ka kn kc) (.slice la ln lc)).toArray)]).run Tryz.prog w = .ok (.slice (some ⟨w.heap.size, 0, none⟩) 1 1) (w.alloc (.cells (cells7 k b i f t (.slice ka kn kc) (.slice la ln lc)).toArray 26)) := by kernel_rfl
theorem bldS91 (w : World) : (Instr.buildSlice 91 1 #[(0, .agg #[.int .i64 0, .string lineK])]).run Tryz.prog w = .ok (.slice (some ⟨w.heap.size, 0, none⟩) 1 1) (w.alloc (.cells #[.int .i64 0, .string lineK] 100)) := by kernel_rfl
theorem get_over_tB : get (over false (hasDep []) tB []) aK = some (.int 2) := by
 rw [get_over, get_tB, if_pos rfl]
 rfl
theorem all_tB : allV false chA tB = some (over false (hasDep []) tB []) := by unfold chA; rw [allV, allD]; rfl
theorem moAwake_any (w : World) : Calls Tryz.prog 28 #[] w (BoolPost w fun r _ => r = true) := by
 have hb1 := bld26_i
 have hb2 := bld26_t
 have hb3 := run_build23_1 (.string aK) rfl
 have hb4 := bldS24
 have hfacts : ∀ W, ((w.alloc (.cells #[.string aK] 9)).alloc (.cells cI1.toArray 26)).alloc (.cells (cells7 7 false 0 0 ByteArray.empty (.slice (some ⟨w.heap.size, 0, none⟩) 1 1) (.slice (some ⟨w.heap.size + 1, 0, none⟩) 1 1)).toArray 26) = W ->
   Blk W w.heap.size [.string aK] 9 /\ Blk W (w.heap.size + 1) cI1 26 /\ Blk W (w.heap.size + 2) (cells7 7 false 0 0 ByteArray.empty (.slice (some ⟨w.heap.size, 0, none⟩) 1 1) (.slice (some ⟨w.heap.size + 1, 0, none⟩) 1 1)) 26 /\ Chg No w W := by
  rintro W rfl
  exact ⟨((Blk.new _ _ _).alloc _).alloc _, (Blk.newAt (by simp) _ _).alloc _, Blk.newAt (by simp) _ _, ((((Chg.refl No w).alloc _).alloc _).alloc _)⟩
 have HF := Hd hfacts
 clear hfacts
 go_enter Tryz.func28, Tryz.ntmps28
 have ea : (⟨#[97]⟩ : K) = aK := rfl
 have ec : (⟨#[99]⟩ : K) = cnK := rfl
 have ev : (⟨#[49, 46, 48, 46, 48]⟩ : K) = cvK := rfl
 have el : (⟨#[97, 61, 50]⟩ : K) = lineK := rfl
 have er : (⟨#[114]⟩ : K) = rnK := rfl
 have eV : (⟨#[86, 97, 108, 117, 101, 115]⟩ : K) = valsK := rfl
 rw [ea, ec, ev, el, er, eV]
 clear ea ec ev el er eV
 go_upto_region 2 with fail
 generalize hgw : World.alloc _ _ = W
 obtain ⟨b0, b1, b2, c1⟩ := HF.out W hgw
 clear hgw HF hb1 hb2 hb3
 have HB0 := Hd b0
 have HB1 := Hd b1
 have HB2 := Hd b2
 have HC1 := Hd c1
 have hb5 := bld30
 have hb6 := bld100
 have hb7 := bld55
 have hb8 := bldS91
 have hl2 : (cells7 7 false 0 0 ByteArray.empty (.slice (some ⟨w.heap.size, 0, none⟩) 1 1) (.slice (some ⟨w.heap.size + 1, 0, none⟩) 1 1)).length = 7 := rfl
 clear b0 b1 c1
 go_wp2_with (first | (with_reducible refine wpList_loadAgg rfl agg26 rfl rfl b2.cells hl2 ?_))
 have hfacts : ∀ W2, (W.alloc (.cells (cells7 7 false 0 0 ByteArray.empty (.slice (some ⟨w.heap.size, 0, none⟩) 1 1) (.slice (some ⟨w.heap.size + 1, 0, none⟩) 1 1)).toArray 26)).alloc (.cells #[.int .i64 0, .string lineK] 100) = W2 ->
   Blk W2 W.heap.size (cells7 7 false 0 0 ByteArray.empty (.slice (some ⟨w.heap.size, 0, none⟩) 1 1) (.slice (some ⟨w.heap.size + 1, 0, none⟩) 1 1)) 26 /\ Blk W2 (W.heap.size + 1) [.int .i64 0, .string lineK] 100 /\ Chg No W W2 := by
  rintro W2 rfl
  exact ⟨(Blk.new _ _ _).alloc _, Blk.newAt (by simp) _ _, (((Chg.refl No W).alloc _).alloc _)⟩
 generalize hgw : World.alloc _ _ = W2
 obtain ⟨b3, b4, c2⟩ := hfacts W2 hgw
 have hta : ValJ (fun _ => True) W2 (cells7 7 false 0 0 ByteArray.empty (.slice (some ⟨w.heap.size, 0, none⟩) 1 1) (.slice (some ⟨w.heap.size + 1, 0, none⟩) 1 1)) (.table tA) :=
  .table (rows := [cI1]) (((HB0.out.chg c2 id).row1 rfl).mono (fun _ _ _ => trivial) (by decide)) (((HB1.out.chg c2 id).row1 rfl).mono (fun _ _ _ => trivial) (by decide)) rfl (fun n r p hr hp => by
   match n, hr, hp with
   | 0, hr, hp => cases hr; cases hp; exact .int (rowNil _ _ _) (rowNil _ _ _)
   | n + 1, hr, hp => simp at hr)
 refine (whole_line (.slice (some ⟨W.heap.size, 0, none⟩) 1 1) _ (W.heap.size + 1) W2 ((b3.row1 (size := 7) rfl).mono (fun _ _ _ => trivial) (by decide)) hta b4).mono ?_
 rintro e w3 ⟨cs, code, rfl, hc3, -, hs⟩
 obtain ⟨rfl, hv⟩ := hs _ all_tB
 obtain ⟨cb, ci, cf, ct, ckv, clv, rfl⟩ := hv.table7
 have HV := Hd hv
 have HC3 := Hd ((HC1.out.trans' c2).trans' hc3)
 have hl := hv.length
 have ho := hv.one
 have hbx := Blk.new w3 (cells7 7 cb ci cf ct ckv clv) 26
 clear hgw hfacts b3 b4 c2 hta hc3 hs hv b2 hl2 hb4 hb5 hb6 hb7 hb8
 go_wp2_with (first | (with_reducible refine wpList_storeNew rfl agg26 rfl rfl rfl rfl hl ho ?_) | (with_reducible refine wpList_loadAgg rfl agg26 rfl rfl hbx.cells hl ?_))
 refine (at_table (fun x => W2.heap.size ≤ x) _ valsK cb ci cf ct ckv clv _ (HV.out.chg ((Chg.refl No w3).alloc (.cells (cells7 7 cb ci cf ct ckv clv).toArray 26)) (fun _ _ e => e))).mono ?_
 rintro e w4 ⟨hc4, hm⟩
 rw [show atJ (.table (topT cnK cvK rnK ByteArray.empty 0 false false (over false (hasDep []) tB []))) valsK = some (.table (over false (hasDep []) tB [])) from rfl] at hm
 obtain ⟨cs2, rfl, hv2⟩ := hm
 obtain ⟨cb2, ci2, cf2, ct2, ckv2, clv2, rfl⟩ := hv2.table7
 have HV2 := Hd hv2
 have HC4 := Hd ((HC3.out.alloc _).trans' hc4)
 have hl4 := hv2.length
 have ho4 := hv2.one
 have hbx4 := Blk.new w4 (cells7 7 cb2 ci2 cf2 ct2 ckv2 clv2) 26
 clear hc4 hv2 hl ho hbx
 go_wp2_with (first | (with_reducible refine wpList_storeNew rfl agg26 rfl rfl rfl rfl hl4 ho4 ?_) | (with_reducible refine wpList_loadAgg rfl agg26 rfl rfl hbx4.cells hl4 ?_))
 refine (at_table (fun x => W2.heap.size ≤ x) _ aK cb2 ci2 cf2 ct2 ckv2 clv2 _ (HV2.out.chg ((Chg.refl No w4).alloc (.cells (cells7 7 cb2 ci2 cf2 ct2 ckv2 clv2).toArray 26)) (fun _ _ e => e))).mono ?_
 rintro e w5 ⟨hc5, hm⟩
 rw [show atJ (.table (over false (hasDep []) tB [])) aK = some (.int 2) from get_over_tB] at hm
 obtain ⟨cs3, rfl, hv3⟩ := hm
 obtain ⟨b3, f3, t3, kv3, lv3, rfl⟩ : ∃ b3 f3 t3 kv3 lv3, cs3 = cells7 2 b3 2 f3 t3 kv3 lv3 := by cases hv3; exact ⟨_, _, _, _, _, rfl⟩
 have HC5 := Hd ((HC4.out.alloc _).trans' hc5)
 have hl5 := hv3.length
 have ho5 := hv3.one
 have hbx5 := Blk.new w5 (cells7 2 b3 2 f3 t3 kv3 lv3) 26
 have x0 : (w5.alloc (.cells (cells7 2 b3 2 f3 t3 kv3 lv3).toArray 26)).cell? ⟨w5.heap.size, 0, none⟩ = some (.int .i64 2) := hbx5.cell 0
 have x2 : (w5.alloc (.cells (cells7 2 b3 2 f3 t3 kv3 lv3).toArray 26)).cell? ⟨w5.heap.size, 2, none⟩ = some (.int .i64 2) := hbx5.cell 2
 clear hc5 hv3 hl4 ho4 hbx4
 go_wp2_with (first | (with_reducible refine wpList_storeNew rfl agg26 rfl rfl rfl rfl hl5 ho5 ?_))
 go_ret
 exact ⟨true, rfl, HC5.out.alloc _, rfl⟩
end Go.Proofs.YtljaoopfomcaoaaGreatDoor
namespace Go.Proofs.YtljaoopfomcaoaaGreatDoor
open Go.RowKit Go.ChangeShapes Go.WideShapes
section
variable {H : Type} {enc : TypeId × Value -> H} {W W' : World}
theorem kids : Kids Tryz.prog (· < Tryz.prog.types.size) := kids_rows (by kernel_rfl) (by kernel_rfl)
theorem Chg.sameAt (hc : Chg No W W') {p : MemPlace} (hp : p.block < W.heap.size) : W.sameAt W' p := by
 have h := hc.block p.block hp id
 cases p with
 | cell b o => exact hc.cellEq (p := ⟨b, o, none⟩) hp id
 | map b => exact h
theorem carryAll {ts : List TypeId} (hc : Chg No W W') : ∀ {ts : List TypeId} {vs : List Value} {ds : List (DataW H)} {ps : List MemPlace},
  DataW.TrodAll enc Tryz.prog W 0 (fun _ => true) true ts vs ds ps -> (∀ p ∈ ps, p.block < W.heap.size) -> DataW.TrodAll enc Tryz.prog W' 0 (fun _ => true) true ts vs ds ps
 | [], [], [], _, h, _ => h
 | _ :: _, _ :: _, _ :: _, _, ⟨p, q, ⟨n, hn⟩, h2, e⟩, hs =>
  ⟨p, q, ⟨n, DataW.trod_carry n _ _ _ hn (fun x hx => hc.sameAt (hs x (by rw [e]; exact List.mem_append_left _ hx)))⟩,
   carryAll (ts := ts) hc h2 (fun x hx => hs x (by rw [e]; exact List.mem_append_right _ hx)), e⟩
theorem full : ∀ t e, t < Tryz.prog.types.size -> Tryz.prog.underlying t = some (.slice e) -> 0 < Tryz.prog.cellsOf e := slices_full_of Tryz.prog (by kernel_rfl)
theorem Chg.keptBut (hc : Chg No W W') (may : MemPlace -> Prop) : W.keptBut W' may := by
 refine ⟨hc.os, hc.output, fun i hi => ?_⟩
 rw [hc.block i hi id]
 cases h : W.heap[i]? with
 | none => rfl
 | some o => cases o <;> first | exact ⟨rfl, rfl, rfl, fun _ _ => rfl⟩ | exact .inr ⟨rfl, rfl⟩ | rfl
theorem post_chg {f : Func} {s : ChangeSpec} {apart fresh handsOn again : Bool} {args : Array Value} {v : Value} {ds gs : List (DataW H)} {before : List MemPlace}
  (hts : ∀ t ∈ f.params.toList, t < Tryz.prog.types.size) (hvn : s.vars = [])
  (hW : DataW.Whole enc Tryz.prog f.params.toList s.vars apart W args.toList ds gs before) (hc : Chg No W W')
  (hres : ∀ (b : Nat) (sp : Nat -> Bool) (hd : Bool), DataW.TrodAll enc Tryz.prog W' b sp hd f.resultTypes.toList (v.resultList f.resultTypes.size) (s.fn H (ds ++ gs)).results [])
  (hea : (s.fn H (ds ++ gs)).args = ds) (hev : (s.fn H (ds ++ gs)).vars = [])
  (hok : ∀ (j : Nat) (t : TypeId) (r : Value), f.resultTypes[j]? = some t -> (v.resultList f.resultTypes.size)[j]? = some r -> Value.okWide Tryz.prog W' .any 0 t r) :
  s.post enc Tryz.prog f apart fresh handsOn again W args v W' := by
 have hlt := hW.lt
 have hold : ∀ p ∈ before, (fun b => decide (b < W.heap.size)) p.block = true := fun p hp => by simpa using hlt p hp
 have hW0 := hW
 obtain ⟨p, q, hA, hV, e, hz, hn⟩ := hW
 rw [hvn] at hV
 have hgs : gs = [] /\ q = [] := by
  cases gs with
  | nil => exact ⟨rfl, hV⟩
  | cons a b => exact hV.elim
 obtain ⟨rfl, rfl⟩ := hgs
 rw [List.append_nil] at e
 subst e
 have hcar := carryAll (ts := []) hc hA hlt
 have hargs : ∀ sp : Nat -> Bool, (∀ x ∈ before, sp x.block = true) -> DataW.TrodAll enc Tryz.prog W' 0 sp true f.params.toList args.toList (s.fn H (ds ++ [])).args before := by
  intro sp hsp
  rw [hea]
  exact DataW.TrodAll.respare kids full hts hcar hsp
 have hvars : ∀ sp : Nat -> Bool, DataW.TrodVars enc Tryz.prog W' sp s.vars (s.fn H (ds ++ [])).vars [] := by
  intro sp
  rw [hev, hvn]
  exact rfl
 refine ⟨ds, [], before, [], before, [], hW0, hres _ _ _, hargs _ hold, hvars _, World.keptBut_mono (fun x hx => ⟨hx, .inr (.inl hx)⟩) (hc.keptBut (· ∈ before)), fun _ => ?_⟩
 refine ⟨hok, _, _, ([] ++ before) ++ [], ⟨[] ++ before, [], trodAll_append (hargs _ (fun _ _ => rfl)) (hres _ _ _), hvars _, rfl, ?_, ?_⟩, ?_⟩
 ·intro b off hp
  have hp' : MemPlace.cell b off ∈ before := by simpa using hp
  rw [hc.frozenEq (p := ⟨b, off, none⟩) (hlt _ hp') id]
  exact hz b off hp'
 ·intro ha
  simpa using hn ha
 ·intro x hx _
  simpa using hx
theorem block_of_cells {a : Addr} {n : Nat} {cs : List Value} (h : W.cells? 0 a n = some cs) (hn : 0 < n) : a.spot = none /\ a.block < W.heap.size := by
 obtain ⟨-, hl, hc⟩ := World.cells?_some h
 have h0 := hc 0 hn
 rw [List.getElem?_eq_getElem (by omega)] at h0
 exact ⟨by simpa [Addr.add] using World.cell?_spot h0, by simpa [Addr.add] using World.block_lt_of_cell? _ _ h0⟩
abbrev okW (W : World) : Nat -> Prop := fun b => b < W.heap.size
theorem weightsAll_in {P : Program} {e : TypeId} : ∀ {l : List (DataW H)} {d : DataW H}, d ∈ l -> ∀ n ∈ d.weights P e, n ∈ DataW.weightsAll P e l
 | _ :: _, d, h, n, hn => by
  unfold DataW.weightsAll
  rcases List.mem_cons.1 h with rfl | h
  ·exact List.mem_append_left _ hn
  ·exact List.mem_append_right _ (weightsAll_in h n hn)
theorem rows_of_trod {t e size : Nat} {held : Bool} {fuel : Nat} {v : Value} {x : DataW H × List MemPlace} (ht : Tryz.prog.underlying t = some (.slice e)) (hs : Tryz.prog.cellsOf e = size) (hz : 0 < size)
  (h : DataW.trod enc Tryz.prog W 0 (fun _ => true) held fuel t [v] = some x) :
  ∃ rows, RowAt (okW W) W v size rows /\ ∃ n, n < fuel /\ ∀ r ∈ rows, ∃ y, DataW.trod enc Tryz.prog W 0 (fun _ => true) held n e r = some y /\ ∀ m ∈ y.1.weights Tryz.prog e, m ∈ x.1.weights Tryz.prog t := by
 rcases DataW.trod_slice ht h with ⟨h0, -⟩ | ⟨a, len, cap, elems, rest, n, rfl, h1, rfl, -, hl, hm, hlen, hel, -, -⟩
 ·cases h0
  exact ⟨[], ⟨by simp [maxLen], by simp, none, 0, rfl, fun _ => rfl, fun e => absurd rfl e⟩, 0, by
   cases fuel with
   | zero => simp [DataW.trod] at h
   | succ n => omega, by simp⟩
 ·cases h1
  rw [hs] at hel
  have hwt : ∀ y ∈ elems, ∀ m ∈ y.1.weights Tryz.prog e, m ∈ DataW.weights Tryz.prog t (.slice (elems.map (·.1)) (rest.map (·.1))) := by
   intro y hy m hm
   unfold DataW.weights
   rw [ht]
   exact List.mem_cons_of_mem _ (List.mem_append_left _ (weightsAll_in (List.mem_map_of_mem hy) m hm))
  have each : ∀ i, i < len -> ∃ cs, W.cells? 0 (a.add (i * size)) size = some cs /\ ∃ y ∈ elems, DataW.trod enc Tryz.prog W 0 (fun _ => true) held n e cs = some y := by
   intro i hi
   have h2 := hel i hi
   rw [List.getElem?_eq_getElem (by omega)] at h2
   obtain ⟨cs, h3, h4⟩ := Option.bind_eq_some_iff.1 h2
   exact ⟨cs, h3, _, List.getElem_mem _, h4⟩
  have hex : ∃ rows : List (List Value), rows.length = len /\ ∀ (i : Nat) (r : List Value), rows[i]? = some r -> W.cells? 0 (a.add (i * size)) size = some r /\ ∃ y ∈ elems, DataW.trod enc Tryz.prog W 0 (fun _ => true) held n e r = some y := by
   clear hel hlen hl hm h
   induction len with
   | zero => exact ⟨[], rfl, by simp⟩
   | succ k ih =>
    obtain ⟨rows, hk, hr⟩ := ih (fun i hi => each i (by omega))
    obtain ⟨cs, h3, h4⟩ := each k (by omega)
    refine ⟨rows ++ [cs], by simp [hk], fun i r hi => ?_⟩
    by_cases hik : i < rows.length
    ·rw [List.getElem?_append_left hik] at hi
     exact hr i r hi
    ·rw [List.getElem?_append_right (by omega)] at hi
     have : i = rows.length := by
      have := (List.getElem?_eq_some_iff.1 hi).1
      simp at this
      omega
     subst this
     rw [Nat.sub_self] at hi
     cases hi
     rw [hk]
     exact ⟨h3, h4⟩
  obtain ⟨rows, hk, hr⟩ := hex
  subst hk
  refine ⟨rows, ⟨by omega, fun r hrm => ?_, some a, cap, rfl, (by intro e; cases e), fun hne => ?_⟩, n, by omega, fun r hrm => ?_⟩
  ·obtain ⟨i, hi⟩ := List.getElem?_of_mem hrm
   exact (World.cells?_some (hr i r hi).1).2.1
  ·obtain ⟨r0, hr0⟩ : ∃ r, rows[0]? = some r := by
    cases rows with
    | nil => exact absurd rfl hne
    | cons r rs => exact ⟨r, rfl⟩
   obtain ⟨hsp, hb⟩ := block_of_cells (hr 0 r0 hr0).1 hz
   have hsp' : a.spot = none := by simpa [Addr.add] using hsp
   have hb' : a.block < W.heap.size := by simpa [Addr.add] using hb
   obtain ⟨b, off, sp⟩ := a
   simp only at hsp' hb'
   subst hsp'
   refine ⟨b, off, rfl, hb', fun i r hi j u hj => ?_⟩
   have h5 := (World.cells?_some (hr i r hi).1).2.2 j (by
    have := (World.cells?_some (hr i r hi).1).2.1
    have := (List.getElem?_eq_some_iff.1 hj).1
    omega)
   rw [hj] at h5
   rw [add_eq, add_eq] at h5
   exact h5
  ·obtain ⟨i, hi⟩ := List.getElem?_of_mem hrm
   obtain ⟨y, hy, h6⟩ := (hr i r hi).2
   exact ⟨y, h6, hwt y hy⟩
theorem weights_text (P : Program) (t : TypeId) (l : List UInt8) : l.length ∈ DataW.weights P t (.lit (.string l) : DataW H) := by
 unfold DataW.weights; exact List.mem_singleton.2 rfl
theorem keys_of_trod {held : Bool} {fuel : Nat} {v : Value} {x : DataW H × List MemPlace} (h : DataW.trod enc Tryz.prog W 0 (fun _ => true) held fuel 23 [v] = some x) (hw : ∀ n ∈ x.1.weights Tryz.prog 23, n ≤ reachBytes) :
  ∃ ks : List K, RowAt (okW W) W v 1 (kRows ks) /\ ∀ k ∈ ks, kOk k := by
 obtain ⟨rows, h1, n, -, h2⟩ := rows_of_trod (size := 1) Tryz.underlying23 (by kernel_rfl) (by decide) h
 have hex : ∃ ks : List K, rows = kRows ks /\ ∀ k ∈ ks, kOk k := by
  clear h1
  induction rows with
  | nil => exact ⟨[], rfl, by simp⟩
  | cons r rs ih =>
   obtain ⟨ks, h3, h4⟩ := ih (fun r hr => h2 r (by simp [hr]))
   obtain ⟨y, hy, hyw⟩ := h2 r (by simp)
   obtain ⟨s, h5, h7, h6⟩ := DataW.trod_string Tryz.underlying9 hy
   refine ⟨s :: ks, by rw [h5, h3]; rfl, fun k hk => ?_⟩
   rcases List.mem_cons.1 hk with rfl | hk
   ·have h8 := hw k.data.toList.length (hyw _ (by rw [h7]; exact weights_text _ _ _))
    have h9 : k.size = k.data.toList.length := by rw [Array.length_toList]; rfl
    unfold kOk
    unfold reachBytes at h8
    omega
   ·exact h4 k hk
 obtain ⟨ks, rfl, h3⟩ := hex
 exact ⟨ks, h1, h3⟩
theorem fields_of_trod {t : Nat} {held : Bool} {fuel : Nat} {cs : List Value} {x : DataW H × List MemPlace} {fs : Array Field} (ht : Tryz.prog.underlying t = some (.struct fs))
  (h : DataW.trod enc Tryz.prog W 0 (fun _ => true) held fuel t cs = some x) : ∃ n, fuel = n + 1 /\ cs.length = Tryz.prog.cellsOf t /\
   ∀ (i : Nat) (f : Field), fs[i]? = some f -> ∃ y, DataW.trod enc Tryz.prog W 0 (fun _ => true) held n f.type ((cs.drop f.offset).take (Tryz.prog.cellsOf f.type)) = some y /\ ∀ m ∈ y.1.weights Tryz.prog f.type, m ∈ x.1.weights Tryz.prog t := by
 obtain ⟨xs, n, rfl, rfl, hl, hlen, hf⟩ := DataW.trod_struct ht h
 refine ⟨n, rfl, hl, fun i f hi => ?_⟩
 have h1 := hf i f hi
 have hlt : i < xs.length := by
  have := (Array.getElem?_eq_some_iff.1 hi).1
  omega
 rw [List.getElem?_eq_getElem hlt] at h1
 refine ⟨_, h1, fun m hm => ?_⟩
 unfold DataW.weights
 rw [ht]
 refine DataW.weights_mem_each (j := i) (t := f.type) (d := xs[i].1) ?_ ?_ m hm
 ·simp [Array.getElem?_toList, hi]
 ·simp [List.getElem?_eq_getElem hlt]
theorem cells_of_26 : Tryz.prog.cellsOf 26 = 7 := by kernel_rfl
theorem cells_of_2 : Tryz.prog.cellsOf 2 = 1 := by kernel_rfl
theorem cells_of_3 : Tryz.prog.cellsOf 3 = 1 := by kernel_rfl
theorem cells_of_4 : Tryz.prog.cellsOf 4 = 1 := by kernel_rfl
theorem cells_of_9 : Tryz.prog.cellsOf 9 = 1 := by kernel_rfl
theorem cells_of_22 : Tryz.prog.cellsOf 22 = 1 := by kernel_rfl
theorem cells_of_23 : Tryz.prog.cellsOf 23 = 1 := by kernel_rfl
theorem cells_of_24 : Tryz.prog.cellsOf 24 = 1 := by kernel_rfl
theorem list7 {cs : List Value} (h : cs.length = 7) : ∃ a b c d e f g, cs = [a, b, c, d, e, f, g] := by
 match cs, h with
 | [a, b, c, d, e, f, g], _ => exact ⟨a, b, c, d, e, f, g, rfl⟩
theorem trod_float {P : Program} {t : TypeId} {k : FloatKind} {w : World} {base : Nat} {spare : Nat -> Bool} {held : Bool} {fuel : Nat} {cs : List Value} {x : DataW H × List MemPlace} (ht : P.underlying t = some (.float k)) (h : DataW.trod enc P w base spare held fuel t cs = some x) : ∃ b, cs = [.float k b] := by
 cases fuel with
 | zero => simp [DataW.trod] at h
 | succ n =>
  unfold DataW.trod at h
  rw [ht] at h
  split at h <;> simp_all
theorem field_of_trod {t : Nat} {held : Bool} {fuel : Nat} {cs : List Value} {x : DataW H × List MemPlace} {fs : Array Field} (ht : Tryz.prog.underlying t = some (.struct fs))
  (h : DataW.trod enc Tryz.prog W 0 (fun _ => true) held fuel t cs = some x) : ∃ n, fuel = n + 1 /\ cs.length = Tryz.prog.cellsOf t /\
   ∀ (i : Nat) (f : Field) (ty off size : Nat), fs[i]? = some f -> f.type = ty -> f.offset = off -> Tryz.prog.cellsOf ty = size -> ∃ y, DataW.trod enc Tryz.prog W 0 (fun _ => true) held n ty ((cs.drop off).take size) = some y /\ ∀ m ∈ y.1.weights Tryz.prog ty, m ∈ x.1.weights Tryz.prog t := by
 obtain ⟨n, h1, h2, h3⟩ := fields_of_trod ht h
 refine ⟨n, h1, h2, fun i f ty off size hi e1 e2 e3 => ?_⟩
 subst e1; subst e2; subst e3
 exact h3 i f hi
theorem raw_of_trod {held : Bool} (fuel : Nat) : ∀ (cs : List Value) (x : DataW H × List MemPlace), DataW.trod enc Tryz.prog W 0 (fun _ => true) held fuel 26 cs = some x -> (∀ n ∈ x.1.weights Tryz.prog 26, n ≤ reachBytes) -> RawV (okW W) W cs := by
 induction fuel using Nat.strongRecOn with
 | _ fuel ih =>
  intro cs x h hw
  obtain ⟨n, rfl, hl, hf⟩ := field_of_trod Tryz.underlying26 h
  rw [cells_of_26] at hl
  obtain ⟨c0, c1, c2, c3, c4, c5, c6, rfl⟩ := list7 hl
  obtain ⟨y0, h0, -⟩ := hf 0 _ 3 0 1 rfl rfl rfl cells_of_3
  obtain ⟨y1, h1, -⟩ := hf 1 _ 4 1 1 rfl rfl rfl cells_of_4
  obtain ⟨y2, h2, -⟩ := hf 2 _ 2 2 1 rfl rfl rfl cells_of_2
  obtain ⟨y3, h3, -⟩ := hf 3 _ 22 3 1 rfl rfl rfl cells_of_22
  obtain ⟨y4, h4, -⟩ := hf 4 _ 9 4 1 rfl rfl rfl cells_of_9
  obtain ⟨y5, h5, w5⟩ := hf 5 _ 23 5 1 rfl rfl rfl cells_of_23
  obtain ⟨y6, h6, w6⟩ := hf 6 _ 24 6 1 rfl rfl rfl cells_of_24
  simp only [List.drop_succ_cons, List.drop_zero, List.take_succ_cons, List.take_zero] at h0 h1 h2 h3 h4 h5 h6
  obtain ⟨k, e0, -, -⟩ := DataW.trod_int Tryz.underlying3 h0
  obtain ⟨b, e1, -⟩ := DataW.trod_bool Tryz.underlying4 h1
  obtain ⟨i, e2, -, -⟩ := DataW.trod_int Tryz.underlying2 h2
  obtain ⟨f, e3⟩ := trod_float Tryz.underlying22 h3
  obtain ⟨t, e4, -, -⟩ := DataW.trod_string Tryz.underlying9 h4
  obtain ⟨ks, hk, hks⟩ := keys_of_trod h5 (fun m hm => hw m (w5 m hm))
  obtain ⟨rows, hr, m, hm, hrows⟩ := rows_of_trod Tryz.underlying24 cells_of_26 (by decide) h6
  cases e0; cases e1; cases e2; cases e3; cases e4
  refine RawV.mk (ks := ks) hk hks hr fun r hrm => ?_
  obtain ⟨y, hy, hyw⟩ := hrows r hrm
  exact ih m (by omega) r y hy (fun q hq => hw q (w6 q (hyw q hq)))
end
section
variable {H : Type} {enc : TypeId × Value -> H} {W : World}
theorem bulk_pos (d : DataW H) : 1 ≤ Rows.uptoBulk d := by
 cases d with
 | lit l => cases l <;> simp [Rows.uptoBulk]
 | _ => simp [Rows.uptoBulk]
theorem bulkAll_mem {d : DataW H} : ∀ {l : List (DataW H)}, d ∈ l -> Rows.uptoBulk d ≤ Rows.uptoBulkAll l
 | x :: l, h => by
  unfold Rows.uptoBulkAll
  rcases List.mem_cons.1 h with rfl | h
  ·omega
  ·have := bulkAll_mem h; omega
theorem bulkAll_len : ∀ l : List (DataW H), l.length ≤ Rows.uptoBulkAll l
 | [] => by simp [Rows.uptoBulkAll]
 | x :: l => by
  have h1 := bulkAll_len l
  have h2 := bulk_pos x
  unfold Rows.uptoBulkAll
  simp only [List.length_cons]
  omega
theorem rowsB_of_trod {t e size : Nat} {held : Bool} {fuel : Nat} {v : Value} {x : DataW H × List MemPlace} (ht : Tryz.prog.underlying t = some (.slice e)) (hs : Tryz.prog.cellsOf e = size) (hz : 0 < size)
  (h : DataW.trod enc Tryz.prog W 0 (fun _ => true) held fuel t [v] = some x) :
  CapOk v /\ ∃ rows, RowAt (okW W) W v size rows /\ rows.length ≤ Rows.uptoBulk x.1 /\ ∃ n, n < fuel /\ ∀ r ∈ rows, ∃ y, DataW.trod enc Tryz.prog W 0 (fun _ => true) held n e r = some y /\ (∀ m ∈ y.1.weights Tryz.prog e, m ∈ x.1.weights Tryz.prog t) /\ Rows.uptoBulk y.1 ≤ Rows.uptoBulk x.1 := by
 rcases DataW.trod_slice ht h with ⟨h0, -⟩ | ⟨a, len, cap, elems, rest, n, rfl, h1, rfl, -, hl, hm, hlen, hel, -, -⟩
 ·cases h0
  refine ⟨fun a n c e => by cases e; exact Nat.le_refl _, [], ⟨by simp [maxLen], by simp, none, 0, rfl, fun _ => rfl, fun e => absurd rfl e⟩, by simp, 0, by
   cases fuel with
   | zero => simp [DataW.trod] at h
   | succ n => omega, by simp⟩
 ·cases h1
  rw [hs] at hel
  have hwt : ∀ y ∈ elems, ∀ m ∈ y.1.weights Tryz.prog e, m ∈ DataW.weights Tryz.prog t (.slice (elems.map (·.1)) (rest.map (·.1))) := by
   intro y hy m hm
   unfold DataW.weights
   rw [ht]
   exact List.mem_cons_of_mem _ (List.mem_append_left _ (weightsAll_in (List.mem_map_of_mem hy) m hm))
  have hbk : ∀ y ∈ elems, Rows.uptoBulk y.1 ≤ Rows.uptoBulk (.slice (elems.map (·.1)) (rest.map (·.1))) := by
   intro y hy
   have h3 := bulkAll_mem (List.mem_map_of_mem (f := (·.1)) hy)
   unfold Rows.uptoBulk at *
   omega
  have hlb : elems.length ≤ Rows.uptoBulk (.slice (elems.map (·.1)) (rest.map (·.1))) := by
   have h3 := bulkAll_len (elems.map (·.1))
   rw [List.length_map] at h3
   show _ ≤ Rows.uptoBulkAll _ + Rows.uptoBulkAll _ + 1
   omega
  have each : ∀ i, i < len -> ∃ cs, W.cells? 0 (a.add (i * size)) size = some cs /\ ∃ y ∈ elems, DataW.trod enc Tryz.prog W 0 (fun _ => true) held n e cs = some y := by
   intro i hi
   have h2 := hel i hi
   rw [List.getElem?_eq_getElem (by omega)] at h2
   obtain ⟨cs, h3, h4⟩ := Option.bind_eq_some_iff.1 h2
   exact ⟨cs, h3, _, List.getElem_mem _, h4⟩
  have hex : ∃ rows : List (List Value), rows.length = len /\ ∀ (i : Nat) (r : List Value), rows[i]? = some r -> W.cells? 0 (a.add (i * size)) size = some r /\ ∃ y ∈ elems, DataW.trod enc Tryz.prog W 0 (fun _ => true) held n e r = some y := by
   clear hel hlen hl hm h
   induction len with
   | zero => exact ⟨[], rfl, by simp⟩
   | succ k ih =>
    obtain ⟨rows, hk, hr⟩ := ih (fun i hi => each i (by omega))
    obtain ⟨cs, h3, h4⟩ := each k (by omega)
    refine ⟨rows ++ [cs], by simp [hk], fun i r hi => ?_⟩
    by_cases hik : i < rows.length
    ·rw [List.getElem?_append_left hik] at hi
     exact hr i r hi
    ·rw [List.getElem?_append_right (by omega)] at hi
     have : i = rows.length := by
      have := (List.getElem?_eq_some_iff.1 hi).1
      simp at this
      omega
     subst this
     rw [Nat.sub_self] at hi
     cases hi
     rw [hk]
     exact ⟨h3, h4⟩
  obtain ⟨rows, hk, hr⟩ := hex
  subst hk
  refine ⟨fun a n c e => by cases e; exact hl, rows, ⟨by omega, fun r hrm => ?_, some a, cap, rfl, (by intro e; cases e), fun hne => ?_⟩, (by rw [hlen] at hlb; exact hlb), n, by omega, fun r hrm => ?_⟩
  ·obtain ⟨i, hi⟩ := List.getElem?_of_mem hrm
   exact (World.cells?_some (hr i r hi).1).2.1
  ·obtain ⟨r0, hr0⟩ : ∃ r, rows[0]? = some r := by
    cases rows with
    | nil => exact absurd rfl hne
    | cons r rs => exact ⟨r, rfl⟩
   obtain ⟨hsp, hb⟩ := block_of_cells (hr 0 r0 hr0).1 hz
   have hsp' : a.spot = none := by simpa [Addr.add] using hsp
   have hb' : a.block < W.heap.size := by simpa [Addr.add] using hb
   obtain ⟨b, off, sp⟩ := a
   simp only at hsp' hb'
   subst hsp'
   refine ⟨b, off, rfl, hb', fun i r hi j u hj => ?_⟩
   have h5 := (World.cells?_some (hr i r hi).1).2.2 j (by
    have := (World.cells?_some (hr i r hi).1).2.1
    have := (List.getElem?_eq_some_iff.1 hj).1
    omega)
   rw [hj] at h5
   rw [add_eq, add_eq] at h5
   exact h5
  ·obtain ⟨i, hi⟩ := List.getElem?_of_mem hrm
   obtain ⟨y, hy, h6⟩ := (hr i r hi).2
   exact ⟨y, h6, hwt y hy, hbk y hy⟩
theorem fieldB_of_trod {t : Nat} {held : Bool} {fuel : Nat} {cs : List Value} {x : DataW H × List MemPlace} {fs : Array Field} (ht : Tryz.prog.underlying t = some (.struct fs))
  (h : DataW.trod enc Tryz.prog W 0 (fun _ => true) held fuel t cs = some x) : ∃ n, fuel = n + 1 /\ cs.length = Tryz.prog.cellsOf t /\
   ∀ (i : Nat) (f : Field) (ty off size : Nat), fs[i]? = some f -> f.type = ty -> f.offset = off -> Tryz.prog.cellsOf ty = size -> ∃ y, DataW.trod enc Tryz.prog W 0 (fun _ => true) held n ty ((cs.drop off).take size) = some y /\ (∀ m ∈ y.1.weights Tryz.prog ty, m ∈ x.1.weights Tryz.prog t) /\ Rows.uptoBulk y.1 ≤ Rows.uptoBulk x.1 := by
 obtain ⟨xs, n, rfl, rfl, hl, hlen, hf⟩ := DataW.trod_struct ht h
 refine ⟨n, rfl, hl, fun i f ty off size hi e1 e2 e3 => ?_⟩
 subst e1; subst e2; subst e3
 have h1 := hf i f hi
 have hlt : i < xs.length := by
  have := (Array.getElem?_eq_some_iff.1 hi).1
  omega
 rw [List.getElem?_eq_getElem hlt] at h1
 refine ⟨_, h1, fun m hm => ?_, ?_⟩
 ·unfold DataW.weights
  rw [ht]
  refine DataW.weights_mem_each (j := i) (t := f.type) (d := xs[i].1) ?_ ?_ m hm
  ·simp [Array.getElem?_toList, hi]
  ·simp [List.getElem?_eq_getElem hlt]
 ·have h3 := bulkAll_mem (List.mem_map_of_mem (f := (·.1)) (List.getElem_mem hlt))
  show _ ≤ Rows.uptoBulkAll _ + 1
  omega
theorem textB_of_trod {held : Bool} {fuel : Nat} {cs : List Value} {x : DataW H × List MemPlace} (h : DataW.trod enc Tryz.prog W 0 (fun _ => true) held fuel 9 cs = some x) (hb : Rows.uptoBulk x.1 ≤ 1048576) :
  ∃ k : K, cs = [.string k] /\ kSm k := by
 obtain ⟨s, h5, h7, h6⟩ := DataW.trod_string Tryz.underlying9 h
 refine ⟨s, h5, ?_⟩
 rw [h7] at hb
 have h8 : s.data.toList.length + 1 ≤ 1048576 := hb
 have h9 : s.size = s.data.toList.length := by rw [Array.length_toList]; rfl
 unfold kSm
 omega
theorem keysB_of_trod {held : Bool} {fuel : Nat} {v : Value} {x : DataW H × List MemPlace} (h : DataW.trod enc Tryz.prog W 0 (fun _ => true) held fuel 23 [v] = some x) (hb : Rows.uptoBulk x.1 ≤ 1048576) :
  ∃ ks : List K, RowAt (okW W) W v 1 (kRows ks) /\ ks.length ≤ 1048576 /\ ∀ k ∈ ks, kSm k := by
 obtain ⟨-, rows, h1, hlen, n, -, h2⟩ := rowsB_of_trod (size := 1) Tryz.underlying23 (by kernel_rfl) (by decide) h
 have hex : ∃ ks : List K, rows = kRows ks /\ ∀ k ∈ ks, kSm k := by
  clear h1 hlen
  induction rows with
  | nil => exact ⟨[], rfl, by simp⟩
  | cons r rs ih =>
   obtain ⟨ks, h3, h4⟩ := ih (fun r hr => h2 r (by simp [hr]))
   obtain ⟨y, hy, -, hyb⟩ := h2 r (by simp)
   obtain ⟨s, h5, h6⟩ := textB_of_trod hy (by omega)
   refine ⟨s :: ks, by rw [h5, h3]; rfl, fun k hk => ?_⟩
   rcases List.mem_cons.1 hk with rfl | hk
   ·exact h6
   ·exact h4 k hk
 obtain ⟨ks, rfl, h3⟩ := hex
 exact ⟨ks, h1, by simp at hlen; omega, h3⟩
theorem cells_of_27 : Tryz.prog.cellsOf 27 = 1 := by kernel_rfl
theorem cells_of_28 : Tryz.prog.cellsOf 28 = 1 := by kernel_rfl
theorem cells_of_30 : Tryz.prog.cellsOf 30 = 11 := by kernel_rfl
theorem cells_of_77 : Tryz.prog.cellsOf 77 = 1 := by kernel_rfl
theorem cells_of_79 : Tryz.prog.cellsOf 79 = 7 := by kernel_rfl
theorem cells_of_110 : Tryz.prog.cellsOf 110 = 4 := by kernel_rfl
theorem list4 {cs : List Value} (h : cs.length = 4) : ∃ a b c d, cs = [a, b, c, d] := by
 match cs, h with
 | [a, b, c, d], _ => exact ⟨a, b, c, d, rfl⟩
theorem list11 {cs : List Value} (h : cs.length = 11) : ∃ a b c d e f g i j k l, cs = [a, b, c, d, e, f, g, i, j, k, l] := by
 match cs, h with
 | [a, b, c, d, e, f, g, i, j, k, l], _ => exact ⟨a, b, c, d, e, f, g, i, j, k, l, rfl⟩
theorem impB_of_trod {held : Bool} {fuel : Nat} {cs : List Value} {x : DataW H × List MemPlace} (h : DataW.trod enc Tryz.prog W 0 (fun _ => true) held fuel 110 cs = some x) (hb : Rows.uptoBulk x.1 ≤ 1048576) :
  ∃ i : Imp, cs = [.string i.plain, .string i.child, .string i.parent, .bool i.isMap] /\ kSm i.plain /\ kSm i.child /\ kSm i.parent := by
 obtain ⟨n, rfl, hl, hf⟩ := fieldB_of_trod Tryz.underlying110 h
 rw [cells_of_110] at hl
 obtain ⟨c0, c1, c2, c3, rfl⟩ := list4 hl
 obtain ⟨y0, h0, -, b0⟩ := hf 0 _ 9 0 1 rfl rfl rfl cells_of_9
 obtain ⟨y1, h1, -, b1⟩ := hf 1 _ 9 1 1 rfl rfl rfl cells_of_9
 obtain ⟨y2, h2, -, b2⟩ := hf 2 _ 9 2 1 rfl rfl rfl cells_of_9
 obtain ⟨y3, h3, -, -⟩ := hf 3 _ 4 3 1 rfl rfl rfl cells_of_4
 simp only [List.drop_succ_cons, List.drop_zero, List.take_succ_cons, List.take_zero] at h0 h1 h2 h3
 obtain ⟨k0, e0, s0⟩ := textB_of_trod h0 (by omega)
 obtain ⟨k1, e1, s1⟩ := textB_of_trod h1 (by omega)
 obtain ⟨k2, e2, s2⟩ := textB_of_trod h2 (by omega)
 obtain ⟨b, e3, -⟩ := DataW.trod_bool Tryz.underlying4 h3
 cases e0; cases e1; cases e2; cases e3
 exact ⟨⟨k0, k1, k2, b⟩, rfl, s0, s1, s2⟩
theorem wantB_of_trod {held : Bool} {fuel : Nat} {cs : List Value} {x : DataW H × List MemPlace} (h : DataW.trod enc Tryz.prog W 0 (fun _ => true) held fuel 79 cs = some x) (hb : Rows.uptoBulk x.1 ≤ 1048576) :
  ∃ x, WantJ (okW W) W cs x /\ WSm x := by
 obtain ⟨n, rfl, hl, hf⟩ := fieldB_of_trod Tryz.underlying79 h
 rw [cells_of_79] at hl
 obtain ⟨c0, c1, c2, c3, c4, c5, c6, rfl⟩ := list7 hl
 obtain ⟨y0, h0, -, b0⟩ := hf 0 _ 9 0 1 rfl rfl rfl cells_of_9
 obtain ⟨y1, h1, -, b1⟩ := hf 1 _ 9 1 1 rfl rfl rfl cells_of_9
 obtain ⟨y2, h2, -, b2⟩ := hf 2 _ 9 2 1 rfl rfl rfl cells_of_9
 obtain ⟨y3, h3, -, b3⟩ := hf 3 _ 9 3 1 rfl rfl rfl cells_of_9
 obtain ⟨y4, h4, -, b4⟩ := hf 4 _ 23 4 1 rfl rfl rfl cells_of_23
 obtain ⟨y5, h5, -, -⟩ := hf 5 _ 4 5 1 rfl rfl rfl cells_of_4
 obtain ⟨y6, h6, -, b6⟩ := hf 6 _ 77 6 1 rfl rfl rfl cells_of_77
 simp only [List.drop_succ_cons, List.drop_zero, List.take_succ_cons, List.take_zero] at h0 h1 h2 h3 h4 h5 h6
 obtain ⟨k0, e0, s0⟩ := textB_of_trod h0 (by omega)
 obtain ⟨k1, e1, s1⟩ := textB_of_trod h1 (by omega)
 obtain ⟨k2, e2, s2⟩ := textB_of_trod h2 (by omega)
 obtain ⟨k3, e3, s3⟩ := textB_of_trod h3 (by omega)
 obtain ⟨b, e5, -⟩ := DataW.trod_bool Tryz.underlying4 h5
 obtain ⟨ks, hk, hkl, hks⟩ := keysB_of_trod h4 (by omega)
 obtain ⟨-, rows, hr, hrl, m, -, hrows⟩ := rowsB_of_trod Tryz.underlying77 cells_of_110 (by decide) h6
 have hex : ∃ l : List Imp, rows = impRows l /\ ∀ i ∈ l, kSm i.plain /\ kSm i.child /\ kSm i.parent := by
  clear hr hrl
  induction rows with
  | nil => exact ⟨[], rfl, by simp⟩
  | cons r rs ih =>
   obtain ⟨l, h3, h4⟩ := ih (fun r hr => hrows r (by simp [hr]))
   obtain ⟨y, hy, -, hyb⟩ := hrows r (by simp)
   obtain ⟨i, rfl, h6⟩ := impB_of_trod hy (by omega)
   refine ⟨i :: l, by rw [h3]; rfl, fun k hk => ?_⟩
   rcases List.mem_cons.1 hk with rfl | hk
   ·exact h6
   ·exact h4 k hk
 obtain ⟨l, rfl, hl2⟩ := hex
 cases e0; cases e1; cases e2; cases e3; cases e5
 exact ⟨⟨k0, k1, k2, k3, ks, b, l⟩, ⟨_, _, rfl, hk, hr⟩, s0, s1, s2, s3, ⟨hkl, hks⟩, ⟨by simp only [List.length_map] at hrl; exact Nat.le_trans hrl (Nat.le_trans b6 hb), hl2⟩⟩
theorem rawC_of_trod {held : Bool} (fuel : Nat) : ∀ (cs : List Value) (x : DataW H × List MemPlace), DataW.trod enc Tryz.prog W 0 (fun _ => true) held fuel 30 cs = some x -> (∀ n ∈ x.1.weights Tryz.prog 30, n ≤ reachBytes) -> Rows.uptoBulk x.1 ≤ 1048576 -> RawC (okW W) W cs := by
 induction fuel using Nat.strongRecOn with
 | _ fuel ih =>
  intro cs x h hw hb
  obtain ⟨n, rfl, hl, hf⟩ := fieldB_of_trod Tryz.underlying30 h
  rw [cells_of_30] at hl
  obtain ⟨c0, c1, c2, c3, c4, c5, c6, c7, c8, c9, c10, rfl⟩ := list11 hl
  obtain ⟨y0, h0, -, b0⟩ := hf 0 _ 9 0 1 rfl rfl rfl cells_of_9
  obtain ⟨y1, h1, -, b1⟩ := hf 1 _ 9 1 1 rfl rfl rfl cells_of_9
  obtain ⟨y2, h2, w2, -⟩ := hf 2 _ 26 2 7 rfl rfl rfl cells_of_26
  obtain ⟨y3, h3, w3, b3⟩ := hf 3 _ 27 9 1 rfl rfl rfl cells_of_27
  obtain ⟨y4, h4, -, b4⟩ := hf 4 _ 28 10 1 rfl rfl rfl cells_of_28
  simp only [List.drop_succ_cons, List.drop_zero, List.take_succ_cons, List.take_zero] at h0 h1 h2 h3 h4
  obtain ⟨k0, e0, s0⟩ := textB_of_trod h0 (by omega)
  obtain ⟨k1, e1, s1⟩ := textB_of_trod h1 (by omega)
  have hv := raw_of_trod _ _ _ h2 (fun m hm => hw m (w2 m hm))
  obtain ⟨hdc, drows, hd, -, m, hm, hdr⟩ := rowsB_of_trod Tryz.underlying27 cells_of_30 (by decide) h3
  obtain ⟨hwc, wrows, hwr, -, m2, -, hwrs⟩ := rowsB_of_trod Tryz.underlying28 cells_of_79 (by decide) h4
  have hv7 : ∃ k b i f t, [c2, c3, c4, c5, c6, c7, c8] = cells7 k b i f t c7 c8 := by
   cases hv; exact ⟨_, _, _, _, _, rfl⟩
  obtain ⟨k, b, i, f, t, e7⟩ := hv7
  rw [e7] at hv
  cases e0; cases e1; cases e7
  refine RawC.mk s0 s1 hv hdc hwc hd (fun r hr => ?_) hwr (fun r hr => ?_)
  ·obtain ⟨y, hy, hyw, hyb⟩ := hdr r hr
   exact ih m (by omega) r y hy (fun q hq => hw q (w3 q (hyw q hq))) (by omega)
  ·obtain ⟨y, hy, -, hyb⟩ := hwrs r hr
   exact wantB_of_trod hy (by omega)
end
end Go.Proofs.YtljaoopfomcaoaaGreatDoor
