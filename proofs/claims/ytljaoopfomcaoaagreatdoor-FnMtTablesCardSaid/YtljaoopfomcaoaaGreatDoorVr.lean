/-
  The walk of FnMtTables.
-/
import Derived.Test.YtljaoopfomcaoaaGreatDoorRk
import Derived.Test.YtljaoopfomcaoaaGreatDoorNc
set_option linter.unusedVariables false
set_option linter.unusedSimpArgs false
namespace Go.Proofs.YtljaoopfomcaoaaGreatDoor
open Go.RowKit

theorem bel_lt {w : World} {ok : Nat → Prop} {cs : List Value} {j : J} (h : ValJ ok w cs j) : ValJ (fun b => b < w.heap.size) w cs j := h.mono (fun b hb _ => hb)

theorem RawV.bel {ok : Nat → Prop} {w : World} {cs : List Value} (h : RawV ok w cs) : RawV (okB ok w) w cs := h.mono (fun b hb h => ⟨h, hb⟩)


set_option maxRecDepth 100000 in
set_option maxHeartbeats 4000000 in
theorem tables_any {ok : Nat → Prop} {ca cb : List Value} {lv : Value} {rows : List (List Value)} {w : World} (ha : RawV ok w ca) (hb : RawV ok w cb) (hl : RowAt ok w lv 7 rows) (hr : ∀ r ∈ rows, RawV ok w r) :
    Calls Tryz.prog 4 #[.agg ca.toArray, .agg cb.toArray, lv] w fun e w' => e = .returned (.bool true) ∧ Chg No w w' := by
  have HRA := Lib.hid ha.bel
  have HRB := Lib.hid hb.bel
  have HLR := Lib.hid (hl.mono (ok' := okB ok w) (fun b hb h => ⟨h, hb⟩) (by decide))
  have HRR := Lib.hid (fun r hrm => (hr r hrm).bel)
  have hl1 := hl.1
  unfold maxLen at hl1
  obtain ⟨-, -, la, lc, rfl, -, -⟩ := hl
  obtain ⟨g, hg⟩ : ∃ g, g = w.heap.size := ⟨_, rfl⟩
  have h7a := ha.seven
  have h7b := hb.seven
  obtain ⟨ka, ba, ia, fa, xa, kva, lva, eqa⟩ := ha.cells
  obtain ⟨kb, bb, ib, fb, xb, kvb, lvb, eqb⟩ := hb.cells
  have EQA := Lib.hid eqa
  have EQB := Lib.hid eqb
  have HG := Lib.hid hg
  have hfacts : ∀ W, (w.alloc (.cells ca.toArray 26)).alloc (.cells cb.toArray 26) = W → Blk W g ca 26 ∧ Blk W (g + 1) cb 26 ∧ Chg No w W ∧ W.heap.size = w.heap.size + 2 := by
    rintro W rfl
    rw [hg]
    exact ⟨(Blk.new _ _ _).alloc _, Blk.newAt (by simp) _ _, ((Chg.refl No w).alloc _).alloc _, by simp⟩
  have HF := Lib.hid hfacts
  have HCA := Lib.hid h7a
  have HCB := Lib.hid h7b
  clear hfacts ha hb hr h7a h7b
  subst eqa; subst eqb
  go_enter Tryz.func4, Tryz.ntmps4
  unfold cells7
  go_upto_region 1 with fail
  generalize hgw : World.alloc _ _ = W
  obtain ⟨b0, b1, c1, hws⟩ := HF.out W hgw
  clear hgw HF
  rw [← hg]
  obtain ⟨ca, eqa⟩ : ∃ ca, ca = cells7 ka ba ia fa xa kva lva := ⟨_, rfl⟩
  obtain ⟨cb, eqb⟩ : ∃ cb, cb = cells7 kb bb ib fb xb kvb lvb := ⟨_, rfl⟩
  rw [← eqa] at b0 HRA HCA
  rw [← eqb] at b1 HRB HCB
  have HQA := Lib.hid eqa
  have HQB := Lib.hid eqb
  have HC1 := Lib.hid c1
  have HBA := Lib.hid b0
  have HBB := Lib.hid b1
  have HWS := Lib.hid hws
  have hla := HCA.out.1
  have hlb := HCB.out.1
  clear c1 b0 b1 hws hg eqa eqb
  have b0 := HBA.out.cells
  go_wp2_with (first | (with_reducible refine wpList_loadAgg rfl agg26 rfl rfl b0 hla ?_))
  refine (zzFits2_any (HRA.out.chg HC1.out (fun _ _ e => e))).mono ?_
  rintro e w1 ⟨r1, rfl, hc1, -⟩
  have HC1 := Lib.hid (HC1.out.trans' hc1)
  have HBA := Lib.hid (HBA.out.chg hc1 id)
  have HBB := Lib.hid (HBB.out.chg hc1 id)
  clear hc1 b0
  cases r1 with
  | false =>
    go_wp2
    go_ret
    exact ⟨rfl, HC1.out⟩
  | true =>
    have b1 := HBB.out.cells
    go_wp2_with (first | (with_reducible refine wpList_loadAggG rfl agg26 rfl rfl b1 hlb ?_))
    refine (zzFits2_any (HRB.out.chg HC1.out (fun _ _ e => e))).mono ?_
    rintro e w2 ⟨r2, rfl, hc2, -⟩
    have HC2 := Lib.hid (HC1.out.trans' hc2)
    have HBA := Lib.hid (HBA.out.chg hc2 id)
    have HBB := Lib.hid (HBB.out.chg hc2 id)
    clear hc2 b1
    cases r2 with
    | false =>
      go_wp2
      go_ret
      exact ⟨rfl, HC2.out⟩
    | true =>
      by_cases hbig : (2147483647 : Int) < (rows.length : Int)
      · go_wp2
        go_ret
        exact ⟨rfl, HC2.out⟩
      · have b0 := HBA.out.cells
        have b1 := HBB.out.cells
        go_wp2_with (first | (with_reducible refine wpList_loadAgg rfl agg26 rfl rfl b0 hla ?_) | (with_reducible refine wpList_loadAgg rfl agg26 rfl rfl b1 hlb ?_) | (refine wpList_build24_2 rfl rfl rfl rfl hla hlb ?_))
        have hcall := mtTables_any (ok := fun b => okB ok w b ∨ b = w2.heap.size) ((RowAt.two w2 ca cb hla hlb).mono (fun b _ h => .inr h) (by decide)) (fun r hrm => by
          rcases List.mem_cons.1 hrm with rfl | hrm
          · exact ((HRA.out.mono (fun b _ h => .inl h)).chg (HC2.out.alloc _) (fun _ _ e => e))
          · obtain rfl := List.mem_singleton.1 hrm
            exact ((HRB.out.mono (fun b _ h => .inl h)).chg (HC2.out.alloc _) (fun _ _ e => e)))
        refine Calls.mono hcall ?_
        rintro e w4 ⟨r3, rfl, hc4, hp4⟩
        have HC34 := Lib.hid (((Chg.refl No w2).alloc (.cells (ca ++ cb).toArray 26)).trans' hc4)
        have HC4 := Lib.hid (HC2.out.trans' HC34.out)
        have HBA := Lib.hid (HBA.out.chg HC34.out id)
        have HBB := Lib.hid (HBB.out.chg HC34.out id)
        have HP4 := Lib.hid hp4
        clear hc4 hp4 hcall b0 b1
        cases r3 with
        | false =>
          go_wp2_with fail
          refine (mtAwake_any _).mono ?_
          rintro e wz ⟨rfl, hcz⟩
          go_wp2
          go_ret
          exact ⟨rfl, HC4.out.trans' hcz⟩
        | true =>
          have hex : ∃ ja jb, ValJ (fun b => b < w4.heap.size) w4 ca ja ∧ ValJ (fun b => b < w4.heap.size) w4 cb jb ∧ (Wf 300 50 ja ∧ (ja = .null ∨ isT ja = true) ∧ sz ja ≤ 300) ∧ (Wf 300 50 jb ∧ (jb = .null ∨ isT jb = true) ∧ sz jb ≤ 300) := by
            obtain ⟨-, xs, htl⟩ := HP4.out rfl
            have hlen := htl.len
            match xs, hlen with
            | [ja, jb], _ => exact ⟨ja, jb, bel_lt (htl.val 0 ca ja rfl rfl), bel_lt (htl.val 1 cb jb rfl rfl), htl.good ja (by simp), htl.good jb (by simp)⟩
          obtain ⟨ja, jb, hva, hvb, hga, hgb⟩ := hex
          have HVA := Lib.hid hva
          have HVB := Lib.hid hvb
          have HGA := Lib.hid hga
          have HGB := Lib.hid hgb
          clear hva hvb hga hgb HP4
          go_wp2_with fail
          refine (mtTables_any (HLR.out.chg HC4.out (fun _ _ e => e)) (fun r hrm => (HRR.out r hrm).chg HC4.out (fun _ _ e => e))).mono ?_
          rintro e w5 ⟨r4, rfl, hc5, hp5⟩
          have HC45 := Lib.hid hc5
          have HC5 := Lib.hid (HC4.out.trans' hc5)
          have HBA := Lib.hid (HBA.out.chg hc5 id)
          have HBB := Lib.hid (HBB.out.chg hc5 id)
          have HP5 := Lib.hid hp5
          clear hc5 hp5
          cases r4 with
          | false =>
            go_wp2_with fail
            refine (mtAwake_any _).mono ?_
            rintro e wz ⟨rfl, hcz⟩
            go_wp2
            go_ret
            exact ⟨rfl, HC5.out.trans' hcz⟩
          | true =>
            obtain ⟨h8, xs, htl⟩ := HP5.out rfl
            have H8 := Lib.hid h8
            have HTL := Lib.hid htl
            clear h8 htl HP5
            have b0 := HBA.out.cells
            go_wp2_with (first | (with_reducible refine wpList_loadAggG rfl agg26 rfl rfl b0 hla ?_))
            rw [HQA.out]
            refine (isTable_any ka ia ba fa xa kva lva w5).mono ?_
            rintro e w6 ⟨rfl, hc6⟩
            have HC46 := Lib.hid (HC45.out.trans' hc6)
            have HC56 := Lib.hid hc6
            have HC6 := Lib.hid (HC5.out.trans' hc6)
            have HBA := Lib.hid (HBA.out.chg hc6 id)
            have HBB := Lib.hid (HBB.out.chg hc6 id)
            clear hc6 b0
            rw [← HQA.out]
            by_cases hka : (ka == 7) = true
            · rw [hka]
              have b1 := HBB.out.cells
              go_wp2_with (first | (with_reducible refine wpList_loadAggG rfl agg26 rfl rfl b1 hlb ?_))
              rw [HQB.out]
              refine (isTable_any kb ib bb fb xb kvb lvb w6).mono ?_
              rintro e w7 ⟨rfl, hc7⟩
              have HC47 := Lib.hid (HC46.out.trans' hc7)
              have HC57 := Lib.hid (HC56.out.trans' hc7)
              have HC7 := Lib.hid (HC6.out.trans' hc7)
              have HBA := Lib.hid (HBA.out.chg hc7 id)
              have HBB := Lib.hid (HBB.out.chg hc7 id)
              clear hc7 b1
              rw [← HQB.out]
              by_cases hkb : (kb == 7) = true
              · rw [hkb]
                have hta : isT ja = true := by have h := HVA.out; rw [HQA.out] at h; rw [← h.kind]; exact hka
                have htb : isT jb = true := by have h := HVB.out; rw [HQB.out] at h; rw [← h.kind]; exact hkb
                obtain ⟨ta, rfl⟩ := isT_table hta
                obtain ⟨tb, rfl⟩ := isT_table htb
                have WFA := Lib.hid HGA.out.1
                have WFB := Lib.hid HGB.out.1
                have SZA := Lib.hid (show sz (.table ta) ≤ 2000 from Nat.le_trans HGA.out.2.2 (by decide))
                have SZB := Lib.hid (show sz (.table tb) ≤ 2000 from Nat.le_trans HGB.out.2.2 (by decide))
                clear hta htb hka hkb HC46 HC56
                obtain ⟨M, hM⟩ : ∃ M, M = w4 := ⟨_, rfl⟩
                rw [← hM] at HVA HVB HC47
                have b0 := HBA.out.cells
                have b1 := HBB.out.cells
                have hbk := build26_k 7
                have HMW7 := Lib.hid HC47.out
                go_wp2_with (first | (with_reducible refine wpList_loadAgg rfl agg26 rfl rfl b0 hla ?_) | (with_reducible refine wpList_loadAgg rfl agg26 rfl rfl b1 hlb ?_))
                refine (mtMerged_any 300 300 (by decide) 50 (fun b => b < M.heap.size) ta tb ca cb w7 (HVA.out.chg HMW7.out (fun _ _ e => e)) (HVB.out.chg HMW7.out (fun _ _ e => e)) WFA.out WFB.out).mono ?_
                rintro e w8 ⟨ctw, rfl, hvt, hc8⟩
                have HVT := Lib.hid (bel_lt hvt)
                have HC8 := Lib.hid (HC7.out.trans' hc8)
                have HM8 := Lib.hid (HMW7.out.trans' hc8)
                have HC58 := Lib.hid (HC57.out.trans' hc8)
                have HBA := Lib.hid (HBA.out.chg hc8 id)
                have HBB := Lib.hid (HBB.out.chg hc8 id)
                have hlt := hvt.length
                have hot := hvt.one
                obtain ⟨N, hN⟩ : ∃ N, N = w8.heap.size := ⟨_, rfl⟩
                have HN := Lib.hid hN
                have HBBL := Lib.hid HBB.out.lt
                have hz7 : Blk ((w8.alloc (.cells zero7.toArray 26)).alloc (.cells zero7.toArray 26)) w8.heap.size zero7 26 := (Blk.new _ _ _).alloc _
                have hz8 : Blk ((w8.alloc (.cells zero7.toArray 26)).alloc (.cells zero7.toArray 26)) (w8.heap.size + 1) zero7 26 := Blk.newAt (by simp) _ _
                have HCZ := Lib.hid (show Chg No w8 ((w8.alloc (.cells zero7.toArray 26)).alloc (.cells zero7.toArray 26)) from ((Chg.refl No w8).alloc _).alloc _)
                have HZS := Lib.hid (show ((w8.alloc (.cells zero7.toArray 26)).alloc (.cells zero7.toArray 26)).heap.size = w8.heap.size + 2 by simp)
                clear hvt hc8 b0 b1 hN
                go_wp2_with (first | (refine wpList_storeBlk rfl agg26 rfl rfl rfl hz7 rfl hlt hot ?_; intro w9 hb9 hc9 hs9; (have hz8' := hz8.chg hc9 (by omega))) | (refine wpList_storeBlk rfl agg26 rfl rfl rfl hz8' rfl rfl rfl ?_; intro w10 hb10 hc10 hs10))
                have HB7 := Lib.hid (HN.out ▸ hb9.chg hc10 (by omega) : Blk w10 N ctw 26)
                have HB8 := Lib.hid (HN.out ▸ hb10 : Blk w10 (N + 1) (cells7 7 false 0 0 ByteArray.empty (.slice none 0 0) (.slice none 0 0)) 26)
                have HC810 := Lib.hid ((HCZ.out.trans hc9 (fun i hi e => by omega)).trans hc10 (fun i hi e => by omega))
                have HN10 := Lib.hid (show N + 2 ≤ w10.heap.size by have := hb10.lt; have := HN.out; omega)
                clear hz7 hz8 hz8' hb9 hc9 hs9 hb10 hc10 hs10 hbk HCZ HZS hlt hot
                rw [← HN.out]
                have HC10 := Lib.hid (HC8.out.trans' HC810.out)
                have HM10 := Lib.hid (HM8.out.trans' HC810.out)
                have HC510 := Lib.hid (HC58.out.trans' HC810.out)
                have HVT := Lib.hid (HVT.out.chg HC810.out (fun _ _ e => e))
                have HBA := Lib.hid (HBA.out.chg HC810.out id)
                have HBB := Lib.hid (HBB.out.chg HC810.out id)
                rw [← HN.out] at HVT
                have HXS := Lib.hid (show rows.length = xs.length from HTL.out.len.symm)
                have h8 : rows.length ≤ 8 := H8.out
                have HMN := Lib.hid (show M.heap.size ≤ N by have := HM8.out.size; have := HN.out; omega)
                have HWN := Lib.hid (show g + 2 ≤ N by have h1 := HWS.out; have h2 := HC1.out.size; have h3 := HC8.out.size; have h4 := HN.out; have h5 := HG.out; have h6 := HBBL.out; omega)
                go_wp2_with fail
                go_loopw [55] (fun ct wr => ∃ (n : Nat) (c : List Value), ct = .int .i64 n ∧ n ≤ rows.length ∧ Blk wr (N + 1) c 26 ∧ ValJ (fun b => b < N ∨ N + 1 < b) wr c (.table (mergeAll (xs.take n))) ∧ Chg (· = N + 1) w10 wr) (fun ct _ => rows.length - (intOf ct).toNat)
                case atStart => exact ⟨0, _, rfl, Nat.zero_le _, HB8.out, .table (kvs := []) (rowNil _ _ _) (rowNil _ _ _) rfl (fun n r p h => by simp at h), Chg.refl _ _⟩
                case round =>
                  obtain ⟨n, c, rfl, hn, hbx, hvc, hcr⟩ := hrel
                  have HBX := Lib.hid hbx
                  have HVC := Lib.hid hvc
                  have HCR := Lib.hid hcr
                  have HC5R := Lib.hid (show Chg No w5 wr from HC510.out.trans hcr (fun i hi e => by have := HC58.out.size; have := HN.out; omega))
                  have HCWR := Lib.hid (show Chg No w wr from HC10.out.trans hcr (fun i hi e => by have := HC8.out.size; have := HN.out; omega))
                  clear hbx hvc hcr
                  by_cases hlt : n < rows.length
                  · obtain ⟨r, hr0⟩ : ∃ r, rows[n]? = some r := ⟨_, List.getElem?_eq_getElem hlt⟩
                    obtain ⟨x, hx⟩ : ∃ x, xs[n]? = some x := ⟨_, List.getElem?_eq_getElem (by rw [← HXS.out]; exact hlt)⟩
                    obtain ⟨lb, lo, rfl, hlok, hlc⟩ := HLR.out.at (i := n) (r := r) hr0
                    have HLC := hlc.chg HCWR.out id
                    have hv5 := (HTL.out.val n r x hr0 hx).chg HC5R.out (fun _ _ e => e)
                    have hrl7 := hv5.length
                    have hro1 := hv5.one
                    obtain ⟨rk, rb, ri, rf, rt, rkv, rlv, eqr⟩ := hv5.seven
                    have hq0 : (wr.alloc (.cells r.toArray 26)).cell? ⟨wr.heap.size, 0, none⟩ = some (.int .i64 rk) := by rw [(Blk.new wr r 26).cell 0, eqr]; rfl
                    have HVR := Lib.hid hv5
                    have HGX := Lib.hid (HTL.out.good x (List.mem_of_getElem? hx))
                    have HX0 := Lib.hid hx
                    have HEQ := Lib.hid eqr
                    have h64 : (n : Int) < (rows.length : Int) := by omega
                    have HRN := Lib.hid (show N + 1 < wr.heap.size by have := HCR.out.size; have := HN10.out; omega)
                    clear hlc hr0 hv5 hx eqr
                    rcases HGX.out.2.1 with hnull | htab
                    · subst hnull
                      have hrk : rk = 0 := by have h := HVR.out; rw [HEQ.out] at h; cases h; rfl
                      subst hrk
                      go_wp2_with (first | (with_reducible refine wpList_loadAgg rfl agg26 rfl rfl HLC hrl7 ?_) | (with_reducible refine wpList_storeNew rfl agg26 rfl rfl rfl rfl hrl7 hro1 ?_))
                      go_roundw
                      case rel => exact ⟨n + 1, c, by go_num, by omega, HBX.out.alloc _, (by rw [mergeAll_succ HX0.out]; exact HVC.out.chg ((Chg.refl No wr).alloc _) (fun _ _ e => e)), HCR.out.alloc _⟩
                      case measure => simp [intOf]; omega
                    · obtain ⟨t, rfl⟩ := isT_table htab
                      have hrk : rk = 7 := by have h := HVR.out; rw [HEQ.out] at h; cases h; rfl
                      subst hrk
                      have b8 := (HBX.out.alloc (.cells r.toArray 26)).cells
                      have hcl := HVC.out.length
                      have b10 := (Blk.new wr r 26).cells
                      go_wp2_with (first | (with_reducible refine wpList_loadAgg rfl agg26 rfl rfl HLC hrl7 ?_) | (with_reducible refine wpList_storeNew rfl agg26 rfl rfl rfl rfl hrl7 hro1 ?_) | (with_reducible refine wpList_loadAgg rfl agg26 rfl rfl b8 hcl ?_) | (with_reducible refine wpList_loadAgg rfl agg26 rfl rfl b10 hrl7 ?_))
                      have hwm : Wf (300 * n) 50 (.table (mergeAll (xs.take n))) := Wf.mergeAll (by decide) (fun x hx => (HTL.out.good x hx).1) n (by rw [← HXS.out]; omega)
                      refine (mtMerged_any (300 * n) 300 (by omega) 50 (fun b => b < N ∨ N + 1 < b) (mergeAll (xs.take n)) t c r (wr.alloc (.cells r.toArray 26)) (HVC.out.chg ((Chg.refl No wr).alloc _) (fun _ _ e => e)) ((HVR.out.chg ((Chg.refl No wr).alloc _) (fun _ _ e => e)).mono (fun b hb h => .inl (by have h1 := h.2; have h2 := HC8.out.size; have h3 := HN.out; omega))) hwm HGX.out.1).mono ?_
                      rintro e w11 ⟨c', rfl, hv11, hc11⟩
                      have HC11 := Lib.hid (((Chg.refl No wr).alloc (.cells r.toArray 26)).trans' hc11)
                      have hb11 := HBX.out.chg HC11.out id
                      have hl11 := hv11.length
                      have ho11 := hv11.one
                      have HV11 := Lib.hid hv11
                      clear hv11 hc11 hwm b8 b10 HLC
                      go_wp2_with (first | (with_reducible refine wpList_storeBlk rfl agg26 rfl rfl rfl hb11 hcl hl11 ho11 ?_; intro w12 hb12 hc12 hs12))
                      have HB12 := Lib.hid hb12
                      have HC12 := Lib.hid ((HC11.out.mono (S' := (· = N + 1)) (fun _ _ e => e.elim)).trans hc12 (fun _ _ e => e))
                      have HV12 := Lib.hid ((HV11.out.mono (ok' := fun b => b < N ∨ N + 1 < b) (fun b hb h => by rcases h with h | h; exact h; exact .inr (by have := HRN.out; have h3 : wr.heap.size + 1 ≤ b := (by simpa using h); omega))).chg hc12 (fun b hb e => by omega))
                      clear hb12 hc12 hs12 hb11
                      go_roundw
                      case rel => exact ⟨n + 1, c', by go_num, by omega, HB12.out, (by rw [mergeAll_succ HX0.out]; exact HV12.out), HCR.out.trans HC12.out (fun _ _ e => e)⟩
                      case measure => simp [intOf]; omega
                  · have h64 : ¬ (n : Int) < (rows.length : Int) := by omega
                    have hall : xs.take n = xs := List.take_of_length_le (by rw [← HXS.out]; omega)
                    rw [hall] at HVC
                    have b8 := HBX.out.cells
                    have hcl := HVC.out.length
                    have HWM := Lib.hid (show Wf (300 * xs.length) 50 (.table (mergeAll xs)) by have h := Wf.mergeAll (N := 300) (d := 50) (xs := xs) (by decide) (fun x hx => (HTL.out.good x hx).1) xs.length (Nat.le_refl _); rwa [List.take_length] at h)
                    go_wp2_with (first | (with_reducible refine wpList_loadAgg rfl agg26 rfl rfl b8 hcl ?_))
                    refine (right_any (HVC.out.raw HWM.out) 1900 (by decide)).mono ?_
                    rintro e w13 ⟨r5, rfl, hc13, -⟩
                    have HC13 := Lib.hid (HCWR.out.trans' hc13)
                    have HCR13 := Lib.hid hc13
                    clear hc13 b8 hall
                    cases r5 with
                    | false =>
                      go_wp2_with fail
                      refine (mtAwake_any _).mono ?_
                      rintro e wz ⟨rfl, hcz⟩
                      go_wp2
                      go_ret
                      exact ⟨rfl, HC13.out.trans' hcz⟩
                    | true =>
                      have HMW := Lib.hid (show Chg No M w13 from (HM10.out.trans HCR.out (fun i hi e => by have := HMN.out; omega)).trans' HCR13.out)
                      have HBA := Lib.hid ((HBA.out.chg HCR.out (by have := HWN.out; omega)).chg HCR13.out id)
                      have HBB := Lib.hid ((HBB.out.chg HCR.out (by have := HWN.out; omega)).chg HCR13.out id)
                      have HB7 := Lib.hid ((HB7.out.chg HCR.out (by omega)).chg HCR13.out id)
                      have HB8 := Lib.hid (HBX.out.chg HCR13.out id)
                      have HVT := Lib.hid ((HVT.out.chg HCR.out (fun b hb e => by omega)).chg HCR13.out (fun _ _ e => e))
                      have HVC := Lib.hid (HVC.out.chg HCR13.out (fun _ _ e => e))
                      have HC5R := Lib.hid (HC5R.out.trans' HCR13.out)
                      obtain ⟨W2, hW2⟩ : ∃ W2, W2 = w13 := ⟨_, rfl⟩
                      go_upto_region 14 with fail
                      rw [← hW2] at HMW HBA HBB HB7 HB8 HVT HVC HC5R HC13 ⊢
                      clear hW2
                      refine wp_region_ghost (fun γ => FI [.eq (.agg ca.toArray), .val (okG W2.heap.size γ) (.table ta), .eq (.agg cb.toArray), .val (okG W2.heap.size γ) (.table tb), .tup (okG W2.heap.size γ) (.table (merged ta tb)), .tup (okG W2.heap.size γ) (.table (merged ta tb)), .val (okG W2.heap.size γ) (.table (merged ta tb)), .eq (.int .i64 0), .box γ, .any, .eq (.int .i64 0)])
                        (fun γ done w' => GB W2 8 9 (.table (merged ta tb)) γ done w') (by kernel_rfl) (by kernel_rfl) none (GB.start _ _ _ _) ?_ ?_
                      · refine ⟨?_, ?_, ?_, ?_, ?_, ?_, ?_, ?_, ?_, ?_, ?_, trivial⟩
                        · intro γ done a w1 K hd hcl hsl hot hdep hG hK
                          have e3 : a.tmps[3]?.getD undef = .pointer (some ⟨g, 0, none⟩) := hot 3 rfl
                          refine if_wanted rfl ?_
                          refine wp_loadAgg agg26 rfl (by simpa [Act.eval] using e3) (HBA.out.chg hG.chg id).cells HVA.out.length ?_
                          exact hK _ _ _ rfl (hG.other (by decide) (by decide) (Chg.refl _ _)) (fun _ _ _ _ h => h)
                        · intro γ done a w1 K hd hcl hsl hot hdep hG hK
                          have e71 : a.tmps[71]?.getD undef = .agg ca.toArray := hsl 0 71 rfl (hdep 0 rfl)
                          refine if_wanted rfl ?_
                          have hcall := moCopy_any 300 (by decide) 50 (fun b => b < M.heap.size) (.table ta) ca w1 (HVA.out.chg (HMW.out.trans' hG.chg) (fun _ _ e => e)) WFA.out
                          refine wp_callV1 Tryz.call15 rfl (by simpa [Act.eval] using e71) hcall ?_
                          rintro e w2 ⟨cs, rfl, hj, hc⟩
                          exact ⟨_, rfl, hK γ _ _ ⟨cs, rfl, hj.mono (fun b _ hb => hG.fresh hb)⟩ (hG.other (by decide) (by decide) hc) (fun _ _ _ _ h => h.keepNo hc)⟩
                        · intro γ done a w1 K hd hcl hsl hot hdep hG hK
                          have e4 : a.tmps[4]?.getD undef = .pointer (some ⟨g + 1, 0, none⟩) := hot 4 rfl
                          refine if_wanted rfl ?_
                          refine wp_loadAgg agg26 rfl (by simpa [Act.eval] using e4) (HBB.out.chg hG.chg id).cells HVB.out.length ?_
                          exact hK _ _ _ rfl (hG.other (by decide) (by decide) (Chg.refl _ _)) (fun _ _ _ _ h => h)
                        · intro γ done a w1 K hd hcl hsl hot hdep hG hK
                          have e73 : a.tmps[73]?.getD undef = .agg cb.toArray := hsl 2 73 rfl (hdep 2 rfl)
                          refine if_wanted rfl ?_
                          have hcall := moCopy_any 300 (by decide) 50 (fun b => b < M.heap.size) (.table tb) cb w1 (HVB.out.chg (HMW.out.trans' hG.chg) (fun _ _ e => e)) WFB.out
                          refine wp_callV1 Tryz.call15 rfl (by simpa [Act.eval] using e73) hcall ?_
                          rintro e w2 ⟨cs, rfl, hj, hc⟩
                          exact ⟨_, rfl, hK γ _ _ ⟨cs, rfl, hj.mono (fun b _ hb => hG.fresh hb)⟩ (hG.other (by decide) (by decide) hc) (fun _ _ _ _ h => h.keepNo hc)⟩
                        · intro γ done a w1 K hd hcl hsl hot hdep hG hK
                          obtain ⟨c1, e72, hv1⟩ := hsl 1 72 rfl (hdep 1 rfl)
                          obtain ⟨c2, e74, hv2⟩ := hsl 3 74 rfl (hdep 3 rfl)
                          refine if_wanted rfl ?_
                          have hcall := mergeMapsTop_any 300 300 (by decide) (d := 50) (by decide) hv1 hv2 WFA.out WFB.out SZA.out SZB.out
                          refine wp_callV Tryz.call23 rfl (by simpa [Act.eval] using e72) (by simpa [Act.eval] using e74) hcall ?_
                          rintro e w2 ⟨cs, rfl, hj, hc⟩
                          exact ⟨_, rfl, hK γ _ _ ⟨cs, rfl, hj.mono (fun b _ hb => hG.fresh hb)⟩ (hG.other (by decide) (by decide) hc) (fun _ _ _ _ h => h.keepNo hc)⟩
                        · intro γ done a w1 K hd hcl hsl hot hdep hG hK
                          obtain ⟨c1, e75, hv1⟩ := hsl 4 75 rfl (hdep 4 rfl)
                          have HV1 := Lib.hid hv1
                          clear hv1
                          clear hcl hsl hot hdep
                          go_simp
                          exact hK _ _ _ ⟨c1, rfl, HV1.out⟩ (hG.other (by decide) (by decide) (Chg.refl _ _)) (fun _ _ _ _ h => h)
                        · intro γ done a w1 K hd hcl hsl hot hdep hG hK
                          obtain ⟨c1, e70, hv1⟩ := hsl 5 70 rfl (hdep 5 rfl)
                          have HV1 := Lib.hid hv1
                          clear hv1
                          clear hcl hsl hot hdep
                          go_simp
                          exact hK _ _ _ ⟨c1, rfl, HV1.out⟩ (hG.other (by decide) (by decide) (Chg.refl _ _)) (fun _ _ _ _ h => h)
                        · intro γ done a w1 K hd hcl hsl hot hdep hG hK
                          obtain ⟨c1, e70, hv1⟩ := hsl 5 70 rfl (hdep 5 rfl)
                          clear hv1
                          clear hcl hsl hot hdep
                          go_simp
                          exact hK _ _ _ rfl (hG.other (by decide) (by decide) (Chg.refl _ _)) (fun _ _ _ _ h => h)
                        · intro γ done a w1 K hd hcl hsl hot hdep hG hK
                          have n9 : done 9 = false := by
                            cases hh0 : done 9 with
                            | false => rfl
                            | true => have := hcl 9 8 rfl hh0; rw [hd] at this; cases this
                          have hγ := hG.noBox hd
                          subst hγ
                          have HLAY := Lib.hid (hG.lay (by decide) n9)
                          clear hcl hsl hot hdep
                          clear n9
                          go_simp
                          refine hK (some w1.heap.size) _ _ ⟨_, rfl, rfl⟩ HLAY.out ?_
                          refine fun j hj hdj u hu => ?_
                          match j, hj with
                          | 0, _ => exact hu
                          | 1, _ => obtain ⟨c, h1, h2⟩ := hu; exact ⟨c, h1, (h2.mono (fun b hb h => okG_lay hb h)).chg ((Chg.refl No w1).alloc _) (fun _ _ e => e)⟩
                          | 2, _ => exact hu
                          | 3, _ => obtain ⟨c, h1, h2⟩ := hu; exact ⟨c, h1, (h2.mono (fun b hb h => okG_lay hb h)).chg ((Chg.refl No w1).alloc _) (fun _ _ e => e)⟩
                          | 4, _ => obtain ⟨c, h1, h2⟩ := hu; exact ⟨c, h1, (h2.mono (fun b hb h => okG_lay hb h)).chg ((Chg.refl No w1).alloc _) (fun _ _ e => e)⟩
                          | 5, _ => obtain ⟨c, h1, h2⟩ := hu; exact ⟨c, h1, (h2.mono (fun b hb h => okG_lay hb h)).chg ((Chg.refl No w1).alloc _) (fun _ _ e => e)⟩
                          | 6, _ => obtain ⟨c, h1, h2⟩ := hu; exact ⟨c, h1, (h2.mono (fun b hb h => okG_lay hb h)).chg ((Chg.refl No w1).alloc _) (fun _ _ e => e)⟩
                          | 7, _ => exact hu
                          | 8, hj => exact absurd rfl hj
                          | 9, _ => exact hu
                          | 10, _ => exact hu
                          | j + 11, _ => exact hu
                        · intro γ done a w1 K hd hcl hsl hot hdep hG hK
                          obtain ⟨t, rfl, e11⟩ := hsl 8 11 rfl (hdep 8 rfl)
                          obtain ⟨c2, e76, hv2⟩ := hsl 6 76 rfl (hdep 6 rfl)
                          obtain ⟨-, c, hb, hcl, -⟩ := hG.box t rfl
                          refine if_wanted rfl ?_
                          refine wp_storeBlk agg26 rfl (by simpa [Act.eval] using e11) (by simpa [Act.eval] using e76) hb hcl hv2.length hv2.one ?_
                          intro w2 hb2 hC hs2
                          refine hK (some t) undef _ trivial (hG.put (by decide) hC hb2 hv2) ?_
                          refine fun j hj _ u hu => hu.keep hC (safe_of (i := 9) (fun j hl hj => ?_) j hj)
                          match j, hj with
                          | 0, _ => exact trivial
                          | 1, _ => exact fun b hb e => hb.2 (by rw [e])
                          | 2, _ => exact trivial
                          | 3, _ => exact fun b hb e => hb.2 (by rw [e])
                          | 4, _ => exact fun b hb e => hb.2 (by rw [e])
                          | 5, _ => exact fun b hb e => hb.2 (by rw [e])
                          | 6, _ => exact fun b hb e => hb.2 (by rw [e])
                          | 7, _ => exact trivial
                          | 8, _ => exact trivial
                          | 9, hj => exact absurd rfl hj
                          | 10, _ => exact trivial
                          | j + 11, _ => exact absurd hl (by simp)
                        · intro γ done a w1 K hd hcl hsl hot hdep hG hK
                          have e77 : a.tmps[77]?.getD undef = .int .i64 0 := hsl 7 77 rfl (hdep 7 rfl)
                          clear hcl hsl hot hdep
                          go_simp
                          exact hK _ _ _ rfl (hG.other (by decide) (by decide) (Chg.refl _ _)) (fun _ _ _ _ h => h)
                      · intro γ vs w2 hvs hvn hG
                        obtain ⟨t, hγ, e8⟩ : ∃ t, γ = some t ∧ vs 8 = .pointer (some ⟨t, 0, none⟩) := hvs 8 _ rfl (by decide)
                        have e10 : vs 10 = .int .i64 0 := hvs 10 _ rfl (by decide)
                        subst hγ
                        obtain ⟨htB, c2, hb2, hl2, hv2⟩ := hG.box t rfl
                        have HB2 := Lib.hid hb2
                        have HV2 := Lib.hid (bel_lt (hv2 rfl))
                        have HCG := Lib.hid hG.chg
                        have HTB := Lib.hid htB
                        clear hb2 hl2 hv2 hG hvs hvn htB
                        simp only [putAll, Act.put, List.setIfInBounds_toArray, List.set_cons_succ, List.set_cons_zero, e8, e10]
                        clear e8 e10
                        have HB7 := Lib.hid (HB7.out.chg HCG.out id)
                        have HB8 := Lib.hid (HB8.out.chg HCG.out id)
                        have HVT := Lib.hid (HVT.out.chg HCG.out (fun _ _ e => e))
                        have HVC := Lib.hid (HVC.out.chg HCG.out (fun _ _ e => e))
                        have HC5R := Lib.hid (HC5R.out.trans' HCG.out)
                        have HC13 := Lib.hid (HC13.out.trans' HCG.out)
                        go_wp2_with fail
                        refine (moCopies_of 300 50 (by decide) (fun ok j cs w h wf => moCopy_any 300 (by decide) 50 ok j cs w h wf) (fun _ => True) xs (.slice la rows.length lc) rows w2 ((HLR.out.chg HC13.out (fun _ _ e => e)).mono (fun _ _ _ => trivial) (by decide)) HXS.out (fun n r x h1 h2 => ((HTL.out.val n r x h1 h2).chg HC5R.out (fun _ _ e => e)).mono (fun _ _ _ => trivial)) (fun x hx => (HTL.out.good x hx).1) (by rw [← HXS.out]; omega)).mono ?_
                        rintro e w20 ⟨v', rows', rfl, hvc⟩
                        have hrow20 := hvc.own.rowAt
                        obtain ⟨va, vc, rfl⟩ := hvc.own.slice1
                        have HVL := Lib.hid hvc
                        have HC20 := Lib.hid hvc.chg
                        clear hvc hrow20
                        go_wp2_with fail
                        have hcall := mergedValuesTop_any 300 (by decide) 50 (by decide) (by decide) (fun _ => True) xs (.slice va rows'.length vc) rows' w20 (HVL.out.own.rowAt.mono (fun _ _ _ => trivial) (by decide)) HVL.out.len (fun n r x h1 h2 => (HVL.out.val n r x h1 h2).mono (fun _ _ _ => trivial)) (fun x hx => ⟨(HTL.out.good x hx).1, (HTL.out.good x hx).2.1, Nat.le_trans (HTL.out.good x hx).2.2 (by decide)⟩) (by rw [← HXS.out]; omega) (by rw [← HXS.out]; omega)
                        refine Calls.mono hcall ?_
                        rintro e w21 ⟨cy, rfl, hvy, hc21⟩
                        have HCY := Lib.hid ((HC20.out.trans' hc21).alloc (.cells cy.toArray 26))
                        have HVY := Lib.hid hvy
                        have hly := hvy.length
                        have hoy := hvy.one
                        clear hvy hc21 hcall
                        have bt := (HB2.out.chg HCY.out id).cells
                        have b7 := (HB7.out.chg HCY.out id).cells
                        have hl2 := HV2.out.length
                        have hl7 := HVT.out.length
                        go_wp2_with (first | (with_reducible refine wpList_storeNew rfl agg26 rfl rfl rfl rfl hly hoy ?_) | (with_reducible refine wpList_loadAggG rfl agg26 rfl rfl bt hl2 ?_) | (with_reducible refine wpList_loadAggG rfl agg26 rfl rfl b7 hl7 ?_))
                        refine (same_any 600 (by decide) 50 (fun _ => True) (.table (merged ta tb)) c2 ctw (w21.alloc (.cells cy.toArray 26)) ((HV2.out.chg HCY.out (fun _ _ e => e)).mono (fun _ _ _ => trivial)) ((HVT.out.chg HCY.out (fun _ _ e => e)).mono (fun _ _ _ => trivial)) (WFA.out.merged WFB.out)).mono ?_
                        rintro e w22 ⟨rfl, hc22⟩
                        have HC22 := Lib.hid hc22
                        have b13 := ((Blk.new w21 cy 26).chg hc22 id).cells
                        have b8 := ((HB8.out.chg HCY.out id).chg hc22 id).cells
                        have hl8 := HVC.out.length
                        clear hc22 bt b7
                        go_wp2_with (first | (with_reducible refine wpList_loadAggG rfl agg26 rfl rfl b13 hly ?_) | (with_reducible refine wpList_loadAggG rfl agg26 rfl rfl b8 hl8 ?_))
                        refine (same_any (300 * xs.length) (by rw [← HXS.out]; omega) 50 (fun _ => True) (.table (mergeAll xs)) cy c w22 (((HVY.out.chg ((Chg.refl No w21).alloc (.cells cy.toArray 26)) (fun _ _ e => e)).chg HC22.out (fun _ _ e => e)).mono (fun _ _ _ => trivial)) (((HVC.out.chg HCY.out (fun _ _ e => e)).chg HC22.out (fun _ _ e => e)).mono (fun _ _ _ => trivial)) HWM.out).mono ?_
                        rintro e w23 ⟨rfl, hc23⟩
                        have HC23 := Lib.hid ((HC13.out.trans' HCY.out).trans' (HC22.out.trans' hc23))
                        clear hc23 b13 b8
                        go_wp2_with fail
                        refine (mtAwake_any _).mono ?_
                        rintro e wz ⟨rfl, hcz⟩
                        go_wp2
                        go_ret
                        exact ⟨rfl, HC23.out.trans' hcz⟩
              · rw [Bool.not_eq_true] at hkb
                rw [hkb]
                go_wp2_with fail
                refine (mtAwake_any _).mono ?_
                rintro e wz ⟨rfl, hcz⟩
                go_wp2
                go_ret
                exact ⟨rfl, HC7.out.trans' hcz⟩
            · rw [Bool.not_eq_true] at hka
              rw [hka]
              go_wp2_with fail
              refine (mtAwake_any _).mono ?_
              rintro e wz ⟨rfl, hcz⟩
              go_wp2
              go_ret
              exact ⟨rfl, HC6.out.trans' hcz⟩

end Go.Proofs.YtljaoopfomcaoaaGreatDoor
