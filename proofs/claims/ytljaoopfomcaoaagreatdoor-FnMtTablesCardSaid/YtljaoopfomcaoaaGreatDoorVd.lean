/-
  The walk of the reference's MtMerged.
-/
import Derived.Test.YtljaoopfomcaoaaGreatDoorVc
import Derived.Test.YtljaoopfomcaoaaGreatDoorPb
set_option linter.unusedVariables false
set_option linter.unusedSimpArgs false
namespace Go.Proofs.YtljaoopfomcaoaaGreatDoor
open Go.RowKit

theorem ValJ.kind {ok : Nat → Prop} {w : World} {k b i f t kv lv} {j : J} (h : ValJ ok w (cells7 k b i f t kv lv) j) : (k == 7) = isT j := by
  cases h <;> rfl

theorem ValJ.table7 {ok : Nat → Prop} {w : World} {cs : List Value} {kvs : T} (h : ValJ ok w cs (.table kvs)) : ∃ b i f t kv lv, cs = cells7 7 b i f t kv lv := by
  cases h; exact ⟨_, _, _, _, _, _, rfl⟩

/-- What lay there before, and what is newer than block g. -/
abbrev okL (ok : Nat → Prop) (w : World) (g : Nat) : Nat → Prop := fun x => (ok x ∧ x < w.heap.size) ∨ g < x

theorem ValJ.old {ok : Nat → Prop} {w wr : World} {cs : List Value} {j : J} (h : ValJ ok w cs j) (hc : Chg No w wr) (g : Nat) : ValJ (okL ok w g) wr cs j :=
  ((h.mono (ok' := fun b => ok b ∧ b < w.heap.size) (fun b hb hb2 => ⟨hb2, hb⟩)).chg hc (fun _ _ e => e)).mono (fun b _ hb2 => .inl hb2)

/-- What lay there before. -/
abbrev okB (ok : Nat → Prop) (w : World) : Nat → Prop := fun x => ok x ∧ x < w.heap.size

theorem ValJ.bel {ok : Nat → Prop} {w : World} {cs : List Value} {j : J} (h : ValJ ok w cs j) : ValJ (okB ok w) w cs j := h.mono (fun b hb hb2 => ⟨hb2, hb⟩)

/-- The same at an operation with a guard that holds. -/
theorem wpList_loadAggG {P : Program} {ops : Array Oper} {rest : List Oper} {o : Oper} {a : Act} {w : World} {Q : Exit → Act → World → Prop} {ty n : Nat} (hgd : Region.wanted o (yielded ops a.tmps) = true) (hT : AggTy P ty n) {x : Operand} (ho : o.op = .load ty x)
    {b off : Nat} (hx : a.eval x = .pointer (some ⟨b, off, none⟩)) {cs : List Value} (hc : CellsAt w b off cs) (hl : cs.length = n)
    (h : wpList P ops Q rest (a.put o.dst (.agg cs.toArray)) w) : wpList P ops Q (o :: rest) a w :=
  BigFrame.wpList_want hgd fun _ hK => wp_loadAgg hT ho hx hc hl (hK _ _ h)

/-- A read value stays, whatever happens to blocks that it does not read. -/
theorem ValJ.keep {ok S : Nat → Prop} {w w' : World} {cs : List Value} {j : J} (h : ValJ ok w cs j) (hc : Chg S w w') (hs : ∀ b, b < w.heap.size → ok b → ¬ S b) : ValJ ok w' cs j :=
  ((h.mono (ok' := fun b => ok b ∧ b < w.heap.size) (fun b hb hb2 => ⟨hb2, hb⟩)).chg hc (fun b hb => hs b hb.2 hb.1)).mono (fun b _ hb2 => hb2.1)

set_option maxRecDepth 100000 in
set_option maxHeartbeats 800000 in
theorem mtMerged_any (n m : Nat) (hnm : n + m < 1099511627776) (d : Nat) : ∀ (ok : Nat → Prop) (a b : T) (ca cb : List Value) (w : World), ValJ ok w ca (.table a) → ValJ ok w cb (.table b) → Wf n d (.table a) → Wf m d (.table b) →
    Calls Tryz.prog 22 #[.agg ca.toArray, .agg cb.toArray] w fun e w' => ∃ cs, e = .returned (.agg cs.toArray) ∧ ValJ (fun b => ok b ∨ w.heap.size ≤ b) w' cs (.table (merged a b)) ∧ Chg No w w' := by
  induction d with
  | zero => intro ok a b ca cb w _ _ h; exact h.elim
  | succ d ih =>
    intro ok a b ca cb w ha hb wa wb
    obtain ⟨ab, ai, af, at_, akv, alv, rfl⟩ := ha.table7
    obtain ⟨bb, bi, bf, bt, bkv, blv, rfl⟩ := hb.table7
    have HA := Lib.hid ha
    have HB := Lib.hid hb
    have WA := Lib.hid wa
    have WB := Lib.hid wb
    have IH := Lib.hid ih
    cases ha with
    | @table _ _ _ _ _ _ arows _ hak hal han har =>
    cases hb with
    | @table _ _ _ _ _ _ brows _ hbk hbl hbn hbr =>
    have HAK := Lib.hid hak
    have HBK := Lib.hid hbk
    have HBL := Lib.hid hbl
    have HBN := Lib.hid hbn
    have HBR := Lib.hid hbr
    obtain ⟨-, -, aka, akc, rfl, -, -⟩ := hak
    obtain ⟨-, -, ala, alc, rfl, -, -⟩ := hal
    have hbk1 := hbk.1
    obtain ⟨-, -, bka, bkc, rfl, -, -⟩ := hbk
    obtain ⟨-, -, bla, blc, rfl, -, -⟩ := hbl
    simp only [List.length_map] at HAK HBK HA HB hbk1 ⊢
    unfold maxLen at hbk1
    clear han har hbn hbr wa wb ih
    have hbu := build26_kl 7
    go_enter Tryz.func22, Tryz.ntmps22
    unfold cells7
    go_wp2_with fail
    obtain ⟨g1, hg1⟩ : ∃ g1, g1 = w.heap.size + 1 := ⟨_, rfl⟩
    obtain ⟨g2, hg2⟩ : ∃ g2, g2 = w.heap.size + 1 + 1 := ⟨_, rfl⟩
    obtain ⟨g3, hg3⟩ : ∃ g3, g3 = w.heap.size + 1 + 1 + 1 := ⟨_, rfl⟩
    rw [← hg3, ← hg2, ← hg1]
    go_loopw [19] (fun c wr => ∃ (n : Nat) (oc : List Value), n ≤ b.length ∧ c = .int .i64 n ∧ Chg No w wr ∧ g3 < wr.heap.size ∧
      Blk wr w.heap.size (cells7 7 ab ai af at_ (.slice aka a.length akc) (.slice ala arows.length alc)) 26 ∧
      Blk wr g1 (cells7 7 bb bi bf bt (.slice bka b.length bkc) (.slice bla brows.length blc)) 26 ∧ Blk wr g2 zero7 26 ∧ Blk wr g3 oc 26 ∧ ValJ (okL ok w g3) wr oc (.table (mergedTo a b n))) (fun c _ => b.length - (intOf c).toNat)
    case atStart =>
      refine ⟨0, _, Nat.zero_le _, rfl, ((((Chg.refl No w).alloc _).alloc _).alloc _).alloc _, by simp [hg3], (((Blk.new _ _ _).alloc _).alloc _).alloc _, ((Blk.newAt (by simp [hg1]) _ _).alloc _).alloc _, (Blk.newAt (by simp [hg2]) _ _).alloc _, Blk.newAt (by simp [hg3]) _ _, ?_⟩
      rw [mergedTo_zero WA.out.1]
      have h := HA.out
      cases h with
      | table h1 h2 h3 h4 => exact (ValJ.table h1 h2 h3 h4).old (((((Chg.refl No w).alloc _).alloc _).alloc _).alloc _) g3
    case round =>
      have hgg : w.heap.size < g3 ∧ g1 < g3 ∧ g2 < g3 ∧ w.heap.size < g2 := by omega
      clear hg1 hg2 hg3
      obtain ⟨n, oc, hn, rfl, hc, hgw, hb0, hb1, hb2, hb3, hoc⟩ := hrel
      have HC := Lib.hid hc
      obtain ⟨ob, oi, of, ot, okv, olv, rfl⟩ := hoc.table7
      have HOC := Lib.hid hoc
      clear hc hoc
      by_cases hlt : n < b.length
      · obtain ⟨p, hp⟩ : ∃ p, b[n]? = some p := ⟨_, List.getElem?_eq_getElem hlt⟩
        have hlt2 : n < brows.length := by rw [HBN.out]; exact hlt
        obtain ⟨r, hr0⟩ : ∃ r, brows[n]? = some r := ⟨_, List.getElem?_eq_getElem hlt2⟩
        obtain ⟨kb, ko, rfl, hok, hkc⟩ := HBK.out.at (i := n) (r := [.string p.1]) (by simp [hp])
        obtain ⟨lb, lo, rfl, hlok, hlc⟩ := HBL.out.at (i := n) (r := r) hr0
        have hkc := (hkc.chg HC.out id).one
        simp only [Nat.mul_one] at hkc
        have HLC := hlc.chg HC.out id
        have HV := Lib.hid (HBR.out n r p hr0 hp)
        obtain ⟨rk, rb, ri, rf, rt, rkv, rlv, rfl⟩ := HV.out.seven
        have HP := Lib.hid hp
        have h64 : (n : Int) < (brows.length : Int) := by omega
        clear hp hr0 hlc
        have h6 : wr.cell? ⟨g1, 6, none⟩ = some (.slice (some ⟨lb, lo, none⟩) brows.length blc) := hb1.cell 6
        have ho1 : (cells7 rk rb ri rf rt rkv rlv).all (·.oneCell') = true := HV.out.one
        have HGG := Lib.hid hgg
        clear hgg
        go_wp2_with (first | (with_reducible refine wpList_loadAgg rfl agg26 rfl rfl HLC rfl ?_) | (with_reducible refine wpList_storeNew rfl agg26 rfl rfl rfl rfl rfl ho1 ?_) | (with_reducible refine wpList_loadAgg rfl agg26 rfl rfl (hb0.alloc _).cells rfl ?_))
        refine (at_table (okB ok w) a p.1 _ _ _ _ _ _ _ (HA.out.bel.chg (HC.out.alloc _) (fun _ _ e => e))).mono ?_
        rintro e w1 ⟨hc1, hat⟩
        have hbx1 := (Blk.new wr (cells7 rk rb ri rf rt rkv rlv) 26).chg hc1 id
        have hc1' : Chg No wr w1 := ((Chg.refl No wr).alloc _).trans' hc1
        have hb0' := hb0.chg hc1' id
        have hb1' := hb1.chg hc1' id
        have hb2' := hb2.chg hc1' id
        have hb3' := hb3.chg hc1' id
        have hs1 : wr.heap.size < w1.heap.size := hbx1.lt
        have HC1 := Lib.hid hc1'
        clear hc1 hc1' hb0 hb1 hb2 hb3 hkc h6 HLC
        have HLEN := Lib.hid (show (mergedTo a b n).length < 1099511627776 by
          have h1 := merged_length a (b.take n)
          have h2 := List.length_take_le n b
          have h3 := WA.out.2.1
          have h4 := WB.out.2.1
          unfold mergedTo
          omega)
        cases hg : get a p.1 with
        | none =>
          rw [show atJ (.table a) p.1 = none from hg] at hat
          simp only at hat
          subst hat
          have hz1 : zero7.all (·.oneCell') = true := rfl
          go_upto_region 9 with (first | (with_reducible refine wpList_storeNew rfl agg26 rfl rfl rfl rfl rfl hz1 ?_))
          have HCW := Lib.hid (HC1.out.alloc (.cells zero7.toArray 26))
          have hb0w := hb0'.alloc (.cells zero7.toArray 26)
          have hb1w := hb1'.alloc (.cells zero7.toArray 26)
          have hb2w := hb2'.alloc (.cells zero7.toArray 26)
          have hb3w := hb3'.alloc (.cells zero7.toArray 26)
          have hbxw := hbx1.alloc (.cells zero7.toArray 26)
          have hvl : (cells7 rk rb ri rf rt rkv rlv).length = 7 := rfl
          have hma : mergedAt a p.1 p.2 = p.2 := by cases h : p.2 <;> simp [mergedAt, hg]
          have HVAL := Lib.hid (hma ▸ (HV.out.old (HC.out.trans' HCW.out) g3) : ValJ (okL ok w g3) _ _ (mergedAt a p.1 p.2))
          clear hma hb0' hb1' hb2' hb3' hbx1 hz1 hg

          have HOT := Lib.hid (HOC.out.chg HCW.out (fun _ _ e => e))
          go_wp2_with (first | (with_reducible refine wpList_loadAgg rfl agg26 rfl rfl hb3w.cells rfl ?_) | (with_reducible refine wpList_loadAgg rfl agg26 rfl rfl hbxw.cells hvl ?_))
          refine (with_any (okL ok w g3) (mergedTo a b n) p.1 (mergedAt a p.1 p.2) _ _ _ _ _ _ _ _ HOT.out HVAL.out (sorted_merged _ _) HLEN.out).mono ?_
          rintro e w5 ⟨nc, rfl, hnv, hc5⟩
          have hb0z := hb0w.chg hc5 id
          have hb1z := hb1w.chg hc5 id
          have hb2z := hb2w.chg hc5 id
          have hb3z := hb3w.chg hc5 id
          have hnl := hnv.length
          have hno := hnv.one
          have HNV := Lib.hid hnv
          have hgt : wr.heap.size ≤ w5.heap.size := Nat.le_trans HCW.out.size hc5.size
          have hgw5 := HCW.out.size
          have HC5 := Lib.hid hc5
          clear hc5 hb0w hb1w hb2w hb3w hnv hbxw
          go_wp2_with (first | (with_reducible refine wpList_storeBlk rfl agg26 rfl rfl rfl hb3z rfl hnl hno ?_; intro w6 hb3y hc6 hs6))
          have HGG2 := HGG.out
          have hb0y := hb0z.chg hc6 (by omega)
          have hb1y := hb1z.chg hc6 (by omega)
          have hb2y := hb2z.chg hc6 (by omega)
          have HC6 := Lib.hid hc6
          clear hc6
          go_roundw
          case rel =>
            refine ⟨n + 1, nc, by omega, by go_num, ((HC.out.trans' HCW.out).trans' HC5.out).trans HC6.out (fun i hi e => by omega), by omega, hb0y, hb1y, hb2y, hb3y, ?_⟩
            rw [← mergedTo_succ WB.out.1 WA.out.1 HP.out]
            refine (HNV.out.mono (ok' := okL ok w g3) (fun x _ hx => ?_)).chg HC6.out (fun x hx e => ?_)
            · rcases hx with hx | hx
              · exact hx
              · exact .inr (by omega)
            · rcases hx with ⟨_, hx⟩ | hx <;> omega
          case measure => simp [intOf]; omega
        | some x =>
          rw [show atJ (.table a) p.1 = some x from hg] at hat
          obtain ⟨xc, rfl, hxv⟩ := hat
          obtain ⟨xk, xb, xi, xf, xt, xkv, xlv, rfl⟩ := hxv.seven
          have hz1 := hxv.one
          have HXV := Lib.hid hxv
          have HG := Lib.hid hg
          clear hxv hg
          go_wp2_with (first | (with_reducible refine wpList_storeNew rfl agg26 rfl rfl rfl rfl rfl hz1 ?_) | (with_reducible refine wpList_loadAggG rfl agg26 rfl rfl (Blk.new w1 (cells7 xk xb xi xf xt xkv xlv) 26).cells rfl ?_))
          have hb0a := hb0'.alloc (.cells (cells7 xk xb xi xf xt xkv xlv).toArray 26)
          have hb1a := hb1'.alloc (.cells (cells7 xk xb xi xf xt xkv xlv).toArray 26)
          have hb2a := hb2'.alloc (.cells (cells7 xk xb xi xf xt xkv xlv).toArray 26)
          have hb3a := hb3'.alloc (.cells (cells7 xk xb xi xf xt xkv xlv).toArray 26)
          have hbxa := hbx1.alloc (.cells (cells7 xk xb xi xf xt xkv xlv).toArray 26)
          have hbya := Blk.new w1 (cells7 xk xb xi xf xt xkv xlv) 26
          have hs2 : w1.heap.size < (w1.alloc (.cells (cells7 xk xb xi xf xt xkv xlv).toArray 26)).heap.size := hbya.lt
          have HCA := Lib.hid (HC1.out.alloc (.cells (cells7 xk xb xi xf xt xkv xlv).toArray 26))
          clear hb0' hb1' hb2' hb3' hbx1
          refine (isTable_any _ _ _ _ _ _ _ _).mono ?_
          rintro e w2 ⟨rfl, hc2⟩
          have hb0b := hb0a.chg hc2 id
          have hb1b := hb1a.chg hc2 id
          have hb2b := hb2a.chg hc2 id
          have hb3b := hb3a.chg hc2 id
          have hbxb := hbxa.chg hc2 id
          have hbyb := hbya.chg hc2 id
          have HCB := Lib.hid (HCA.out.trans' hc2)
          have HCX1 := Lib.hid (((Chg.refl No w1).alloc (.cells (cells7 xk xb xi xf xt xkv xlv).toArray 26)).trans' hc2)
          have hs3 := hc2.size
          clear hb0a hb1a hb2a hb3a hbxa hbya hc2
          by_cases hxt : isT x = true
          · have hk1 : (xk == 7) = true := by rw [HXV.out.kind]; exact hxt
            have HXT := Lib.hid hxt
            clear hxt
            go_wp2_with (first | (with_reducible refine wpList_loadAggG rfl agg26 rfl rfl hbxb.cells rfl ?_))
            refine (isTable_any _ _ _ _ _ _ _ _).mono ?_
            rintro e w3 ⟨rfl, hc3⟩
            have hb0c := hb0b.chg hc3 id
            have hb1c := hb1b.chg hc3 id
            have hb2c := hb2b.chg hc3 id
            have hb3c := hb3b.chg hc3 id
            have hbxc := hbxb.chg hc3 id
            have hbyc := hbyb.chg hc3 id
            have HCC := Lib.hid (HCB.out.trans' hc3)
            have HCX := Lib.hid (HCX1.out.trans' hc3)
            have hs4 := hc3.size
            clear hb0b hb1b hb2b hb3b hbxb hbyb hc3
            by_cases hvt : isT p.2 = true
            · have hk2 : (rk == 7) = true := by rw [HV.out.kind]; exact hvt
              have HVT := Lib.hid hvt
              clear hvt
              go_wp2_with (first | (with_reducible refine wpList_loadAggG rfl agg26 rfl rfl hbxc.cells rfl ?_) | (with_reducible refine wpList_loadAgg rfl agg26 rfl rfl hbyc.cells rfl ?_) | (with_reducible refine wpList_loadAgg rfl agg26 rfl rfl hbxc.cells rfl ?_))
              obtain ⟨xt', rfl⟩ : ∃ t, x = .table t := by
                have h := HXT.out
                cases x <;> simp [isT] at h
                exact ⟨_, rfl⟩
              obtain ⟨pk, pv⟩ := p
              obtain ⟨vt', rfl⟩ : ∃ t, pv = .table t := by
                have h := HVT.out
                cases pv <;> simp [isT] at h
                exact ⟨_, rfl⟩
              refine (IH.out (okB ok w) xt' vt' _ _ _ (HXV.out.keep (HCX.out) (fun _ _ _ e => e)) (HV.out.bel.chg (HC.out.trans' HCC.out) (fun _ _ e => e)) (WA.out.get HG.out).2 (WB.out.2.2 _ (List.mem_of_getElem? HP.out)).2).mono ?_
              rintro e w4 ⟨mc, rfl, hmv, hc4⟩
              have hb0d := hb0c.chg hc4 id
              have hb1d := hb1c.chg hc4 id
              have hb2d := hb2c.chg hc4 id
              have hb3d := hb3c.chg hc4 id
              have hbxd := hbxc.chg hc4 id
              have hml := hmv.length
              have hmo := hmv.one
              have HMV := Lib.hid hmv
              have HCD := Lib.hid (HCC.out.trans' hc4)
              have hs5 := hc4.size
              clear hb0c hb1c hb2c hb3c hbxc hbyc hc4 hmv
              go_upto_region 9 with (first | (with_reducible refine wpList_storeBlk rfl agg26 rfl rfl rfl hbxd rfl hml hmo ?_; intro w5 hbxw hc5 hs6))
              have HGG1 := HGG.out
              have HCW := Lib.hid (HCD.out.trans hc5 (fun i hi e => absurd e (by omega)))
              have hb0w := hb0d.chg hc5 (by omega)
              have hb1w := hb1d.chg hc5 (by omega)
              have hb2w := hb2d.chg hc5 (by omega)
              have hb3w := hb3d.chg hc5 (by omega)
              have hvl := hml
              have HVAL := Lib.hid (show ValJ (okL ok w g3) w5 mc (mergedAt a pk (.table vt')) by
                have hma : mergedAt a pk (.table vt') = .table (merged xt' vt') := by simp only [mergedAt, HG.out]
                rw [hma]
                refine (HMV.out.keep hc5 (fun x hx hok e => ?_)).mono (fun x hx hok => ?_)
                · rcases hok with hok | hok
                  · have := hok.2; omega
                  · omega
                · rcases hok with hok | hok
                  · exact .inl hok
                  · exact .inr (by omega))
              clear hb0d hb1d hb2d hb3d hbxd hc5 hz1 hml hmo
              have HOT := Lib.hid (HOC.out.chg HCW.out (fun _ _ e => e))
              go_wp2_with (first | (with_reducible refine wpList_loadAgg rfl agg26 rfl rfl hb3w.cells rfl ?_) | (with_reducible refine wpList_loadAgg rfl agg26 rfl rfl hbxw.cells hvl ?_))
              refine (with_any (okL ok w g3) (mergedTo a b n) pk (mergedAt a pk (.table vt')) _ _ _ _ _ _ _ _ HOT.out HVAL.out (sorted_merged _ _) HLEN.out).mono ?_
              rintro e w5 ⟨nc, rfl, hnv, hc5⟩
              have hb0z := hb0w.chg hc5 id
              have hb1z := hb1w.chg hc5 id
              have hb2z := hb2w.chg hc5 id
              have hb3z := hb3w.chg hc5 id
              have hnl := hnv.length
              have hno := hnv.one
              have HNV := Lib.hid hnv
              have hgt : wr.heap.size ≤ w5.heap.size := Nat.le_trans HCW.out.size hc5.size
              have hgw5 := HCW.out.size
              have HC5 := Lib.hid hc5
              clear hc5 hb0w hb1w hb2w hb3w hnv hbxw
              go_wp2_with (first | (with_reducible refine wpList_storeBlk rfl agg26 rfl rfl rfl hb3z rfl hnl hno ?_; intro w6 hb3y hc6 hs6))
              have HGG2 := HGG.out
              have hb0y := hb0z.chg hc6 (by omega)
              have hb1y := hb1z.chg hc6 (by omega)
              have hb2y := hb2z.chg hc6 (by omega)
              have HC6 := Lib.hid hc6
              clear hc6
              go_roundw
              case rel =>
                refine ⟨n + 1, nc, by omega, by go_num, ((HC.out.trans' HCW.out).trans' HC5.out).trans HC6.out (fun i hi e => by omega), by omega, hb0y, hb1y, hb2y, hb3y, ?_⟩
                rw [← mergedTo_succ WB.out.1 WA.out.1 HP.out]
                refine (HNV.out.mono (ok' := okL ok w g3) (fun x _ hx => ?_)).chg HC6.out (fun x hx e => ?_)
                · rcases hx with hx | hx
                  · exact hx
                  · exact .inr (by omega)
                · rcases hx with ⟨_, hx⟩ | hx <;> omega
              case measure => simp [intOf]; omega

            · have hk2 : (rk == 7) = false := by rw [HV.out.kind]; simpa using hvt
              have HVT := Lib.hid hvt
              clear hvt
              go_upto_region 9 with (first | (with_reducible refine wpList_loadAggG rfl agg26 rfl rfl hbxc.cells rfl ?_))
              have HCW := HCC
              have hb0w := hb0c
              have hb1w := hb1c
              have hb2w := hb2c
              have hb3w := hb3c
              have hbxw := hbxc
              have hvl : (cells7 rk rb ri rf rt rkv rlv).length = 7 := rfl
              have hma : mergedAt a p.1 p.2 = p.2 := by
                have h := HVT.out
                cases h2 : p.2 <;> simp only [mergedAt]
                rw [h2] at h
                exact absurd rfl h
              have HVAL := Lib.hid (hma ▸ (HV.out.old (HC.out.trans' HCW.out) g3) : ValJ (okL ok w g3) _ _ (mergedAt a p.1 p.2))
              clear hma hb0c hb1c hb2c hb3c hbxc hbyc hz1
              have HOT := Lib.hid (HOC.out.chg HCW.out (fun _ _ e => e))
              go_wp2_with (first | (with_reducible refine wpList_loadAgg rfl agg26 rfl rfl hb3w.cells rfl ?_) | (with_reducible refine wpList_loadAgg rfl agg26 rfl rfl hbxw.cells hvl ?_))
              refine (with_any (okL ok w g3) (mergedTo a b n) p.1 (mergedAt a p.1 p.2) _ _ _ _ _ _ _ _ HOT.out HVAL.out (sorted_merged _ _) HLEN.out).mono ?_
              rintro e w5 ⟨nc, rfl, hnv, hc5⟩
              have hb0z := hb0w.chg hc5 id
              have hb1z := hb1w.chg hc5 id
              have hb2z := hb2w.chg hc5 id
              have hb3z := hb3w.chg hc5 id
              have hnl := hnv.length
              have hno := hnv.one
              have HNV := Lib.hid hnv
              have hgt : wr.heap.size ≤ w5.heap.size := Nat.le_trans HCW.out.size hc5.size
              have hgw5 := HCW.out.size
              have HC5 := Lib.hid hc5
              clear hc5 hb0w hb1w hb2w hb3w hnv hbxw
              go_wp2_with (first | (with_reducible refine wpList_storeBlk rfl agg26 rfl rfl rfl hb3z rfl hnl hno ?_; intro w6 hb3y hc6 hs6))
              have HGG2 := HGG.out
              have hb0y := hb0z.chg hc6 (by omega)
              have hb1y := hb1z.chg hc6 (by omega)
              have hb2y := hb2z.chg hc6 (by omega)
              have HC6 := Lib.hid hc6
              clear hc6
              go_roundw
              case rel =>
                refine ⟨n + 1, nc, by omega, by go_num, ((HC.out.trans' HCW.out).trans' HC5.out).trans HC6.out (fun i hi e => by omega), by omega, hb0y, hb1y, hb2y, hb3y, ?_⟩
                rw [← mergedTo_succ WB.out.1 WA.out.1 HP.out]
                refine (HNV.out.mono (ok' := okL ok w g3) (fun x _ hx => ?_)).chg HC6.out (fun x hx e => ?_)
                · rcases hx with hx | hx
                  · exact hx
                  · exact .inr (by omega)
                · rcases hx with ⟨_, hx⟩ | hx <;> omega
              case measure => simp [intOf]; omega

          · have hk1 : (xk == 7) = false := by rw [HXV.out.kind]; simpa using hxt
            have HXT := Lib.hid hxt
            clear hxt
            go_upto_region 9 with (fail)
            have HCW := HCB
            have hb0w := hb0b
            have hb1w := hb1b
            have hb2w := hb2b
            have hb3w := hb3b
            have hbxw := hbxb
            have hvl : (cells7 rk rb ri rf rt rkv rlv).length = 7 := rfl
            have hma : mergedAt a p.1 p.2 = p.2 := by
              have h := HXT.out
              cases h2 : p.2 <;> simp only [mergedAt, HG.out]
              cases x <;> first | rfl | exact absurd rfl h
            have HVAL := Lib.hid (hma ▸ (HV.out.old (HC.out.trans' HCW.out) g3) : ValJ (okL ok w g3) _ _ (mergedAt a p.1 p.2))
            clear hma hb0b hb1b hb2b hb3b hbxb hz1
            have HOT := Lib.hid (HOC.out.chg HCW.out (fun _ _ e => e))
            go_wp2_with (first | (with_reducible refine wpList_loadAgg rfl agg26 rfl rfl hb3w.cells rfl ?_) | (with_reducible refine wpList_loadAgg rfl agg26 rfl rfl hbxw.cells hvl ?_))
            refine (with_any (okL ok w g3) (mergedTo a b n) p.1 (mergedAt a p.1 p.2) _ _ _ _ _ _ _ _ HOT.out HVAL.out (sorted_merged _ _) HLEN.out).mono ?_
            rintro e w5 ⟨nc, rfl, hnv, hc5⟩
            have hb0z := hb0w.chg hc5 id
            have hb1z := hb1w.chg hc5 id
            have hb2z := hb2w.chg hc5 id
            have hb3z := hb3w.chg hc5 id
            have hnl := hnv.length
            have hno := hnv.one
            have HNV := Lib.hid hnv
            have hgt : wr.heap.size ≤ w5.heap.size := Nat.le_trans HCW.out.size hc5.size
            have hgw5 := HCW.out.size
            have HC5 := Lib.hid hc5
            clear hc5 hb0w hb1w hb2w hb3w hnv hbxw
            go_wp2_with (first | (with_reducible refine wpList_storeBlk rfl agg26 rfl rfl rfl hb3z rfl hnl hno ?_; intro w6 hb3y hc6 hs6))
            have HGG2 := HGG.out
            have hb0y := hb0z.chg hc6 (by omega)
            have hb1y := hb1z.chg hc6 (by omega)
            have hb2y := hb2z.chg hc6 (by omega)
            have HC6 := Lib.hid hc6
            clear hc6
            go_roundw
            case rel =>
              refine ⟨n + 1, nc, by omega, by go_num, ((HC.out.trans' HCW.out).trans' HC5.out).trans HC6.out (fun i hi e => by omega), by omega, hb0y, hb1y, hb2y, hb3y, ?_⟩
              rw [← mergedTo_succ WB.out.1 WA.out.1 HP.out]
              refine (HNV.out.mono (ok' := okL ok w g3) (fun x _ hx => ?_)).chg HC6.out (fun x hx e => ?_)
              · rcases hx with hx | hx
                · exact hx
                · exact .inr (by omega)
              · rcases hx with ⟨_, hx⟩ | hx <;> omega
            case measure => simp [intOf]; omega
      · have hnl : n = b.length := by 
          exact Nat.le_antisymm hn (Nat.not_lt.1 hlt)
        have hlen : ¬ (n : Int) < (b.length : Int) := fun h => hlt (Int.ofNat_lt.1 h)
        have hol : (cells7 7 ob oi of ot okv olv).length = 7 := rfl
        have ho1 := HOC.out.one
        go_wp2_with (first | (with_reducible refine wpList_loadAgg rfl agg26 rfl rfl hb3.cells rfl ?_) | (with_reducible refine wpList_storeBlk rfl agg26 rfl rfl rfl hb2 rfl rfl ho1 ?_; intro w4 hb4 hc4 hs4))
        refine bodyPost_ret (results_blk rfl agg26 rfl hb4 rfl) rfl ⟨_, rfl, ?_, HC.out.trans hc4 (fun i hi e => absurd e (by omega))⟩
        rw [← mergedTo_all, ← hnl]
        refine (HOC.out.keep hc4 (fun x hx hok e => ?_)).mono (fun x hx hok => ?_)
        · rcases hok with hok | hok
          · have := hok.2; omega
          · omega
        · rcases hok with hok | hok
          · exact .inl hok.1
          · exact .inr (by omega)

end Go.Proofs.YtljaoopfomcaoaaGreatDoor
