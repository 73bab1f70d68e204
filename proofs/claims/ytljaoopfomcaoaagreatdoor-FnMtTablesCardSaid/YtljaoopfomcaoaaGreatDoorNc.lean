/-
  The walks of TableAt and mtAwake.
-/
import Derived.Test.YtljaoopfomcaoaaGreatDoorNb
set_option linter.unusedVariables false
set_option linter.unusedSimpArgs false
namespace Go.Proofs.YtljaoopfomcaoaaGreatDoor
open Go.RowKit

/-- The table at a path of names. -/
def tableAt (t : T) : List K → Option T
  | [] => some t
  | k :: r => match get t k with
    | some (.table x) => tableAt x r
    | _ => none

theorem tableAt_drop {t : T} {L : List K} {n : Nat} {k : K} (h : L[n]? = some k) : tableAt t (L.drop n) = match get t k with | some (.table x) => tableAt x (L.drop (n + 1)) | _ => none := by
  obtain ⟨hlt, rfl⟩ := List.getElem?_eq_some_iff.1 h
  rw [List.drop_eq_getElem_cons hlt]; rfl

theorem tableAt_none {t : T} {L : List K} {n : Nat} {k : K} (h : L[n]? = some k) (hn : ∀ x, get t k ≠ some (.table x)) : tableAt t (L.drop n) = none := by
  rw [tableAt_drop h]
  split
  · rename_i x hx; exact absurd hx (hn x)
  · rfl

theorem tableAt_some {t x : T} {L : List K} {n : Nat} {k : K} (h : L[n]? = some k) (hx : get t k = some (.table x)) : tableAt t (L.drop n) = tableAt x (L.drop (n + 1)) := by
  rw [tableAt_drop h, hx]

theorem ValJ.kindT {ok : Nat → Prop} {w : World} {k b i f t kv lv} {j : J} (h : ValJ ok w (cells7 k b i f t kv lv) j) : (k = 7 → isT j = true) ∧ (isT j = true → k = 7) := by
  cases h <;> simp [isT]

def TablePost (ok : Nat → Prop) (w : World) (o : Option T) (e : Ending) (w' : World) : Prop :=
  Chg No w w' ∧ match o with
    | some x => ∃ cs : List Value, e = .returned (.tuple #[.agg cs.toArray, .bool true]) ∧ ValJ ok w' cs (.table x)
    | none => e = .returned (.tuple #[.agg zero7.toArray, .bool false])

set_option maxRecDepth 100000 in
set_option maxHeartbeats 1000000 in
theorem tableAt_any (path : K) (hp : path.size < 1099511627776) {ok : Nat → Prop} {cs : List Value} {t : T} {w : World} (h : ValJ ok w cs (.table t)) :
    Calls Tryz.prog 41 #[.agg cs.toArray, .string path] w (TablePost ok w (tableAt t (parts path 46))) := by
  have HV := Lib.hid h
  have HP := Lib.hid hp
  obtain ⟨kb, ki, kf, kt, kv, lv, rfl⟩ := h.table7
  have hfacts : ∀ W, (w.alloc (.cells (cells7 7 kb ki kf kt kv lv).toArray 26)).alloc (.cells zero7.toArray 26) = W →
      Blk W w.heap.size (cells7 7 kb ki kf kt kv lv) 26 ∧ Blk W (w.heap.size + 1) zero7 26 ∧ Chg No w W ∧ W.heap.size = w.heap.size + 2 := by
    rintro W rfl
    exact ⟨(Blk.new _ _ _).alloc _, Blk.newAt (by simp) _ _, ((Chg.refl No w).alloc _).alloc _, by simp⟩
  have HF := Lib.hid hfacts
  clear h hp hfacts
  go_enter Tryz.func41, Tryz.ntmps41
  unfold cells7
  go_upto_region 1 with fail
  generalize hgw : World.alloc _ _ = W
  obtain ⟨b0, b1, c1, hws⟩ := HF.out W hgw
  clear hgw HF
  obtain ⟨g, hg⟩ : ∃ g, g = w.heap.size := ⟨_, rfl⟩
  rw [← hg] at b0 b1 hws ⊢
  have HG := Lib.hid hg
  have HWS := Lib.hid hws
  have HC1 := Lib.hid c1
  have HB0 := Lib.hid b0
  have HB1 := Lib.hid b1
  have HVX := Lib.hid ((HV.out.mono (ok' := okB ok w) (fun b hb h => ⟨h, hb⟩)).chg c1 (fun _ _ e => e))
  have NOTX := Lib.hid (show ∀ x, g ≤ x → ¬ okB ok w x from fun x hx e => by have := e.2; omega)
  clear c1 hg hws b0 b1
  go_wp2_with fail
  refine (names_any path HP.out W).mono ?_
  rintro e w1 ⟨v, rfl, hown, hc⟩
  have hrow := hown.rowAt.mono (ok' := fun b => g + 1 < b) (fun b _ hb => by have := (hown.elem hb).1; have := HWS.out; omega) (by decide)
  obtain ⟨na, nc, rfl⟩ := hown.slice1
  obtain ⟨L, hL⟩ : ∃ L, L = parts path 46 := ⟨_, rfl⟩
  rw [← hL] at hrow ⊢
  have hll : (kRows L).length = L.length := by simp [kRows]
  have hlen : L.length ≤ 1099511627776 := by rw [hL]; have := parts_length path 46; have := HP.out; omega
  rw [hll] at hrow ⊢
  have HROW := Lib.hid hrow
  have HC := Lib.hid hc
  have HLE := Lib.hid hL
  have HB0 := Lib.hid (HB0.out.chg hc id)
  have HB1 := Lib.hid (HB1.out.chg hc id)
  have HVX := Lib.hid (HVX.out.chg hc (fun _ _ e => e))
  have hs1 := hc.size
  have HW1 := Lib.hid (show g + 1 < w1.heap.size by have := HWS.out; omega)
  clear hrow hown hc hL hll hs1
  go_wp2_with fail
  go_loopw [13] (fun ct wr => ∃ (n : Nat) (c : List Value) (t' : T), ct = .int .i64 n ∧ n ≤ L.length ∧ Blk wr g c 26 ∧ ValJ (okB ok w) wr c (.table t') ∧ tableAt t L = tableAt t' (L.drop n) ∧ Chg (· = g) w1 wr) (fun ct _ => L.length - (intOf ct).toNat)
  case atStart => exact ⟨0, _, t, rfl, Nat.zero_le _, HB0.out, HVX.out, rfl, Chg.refl _ _⟩
  case round =>
    obtain ⟨n, c, t', rfl, hn, hbx, hvc, hta, hcr⟩ := hrel
    have HBX := Lib.hid hbx
    have HVC := Lib.hid hvc
    have HCR := Lib.hid hcr
    have HTA := Lib.hid hta
    have HB1r := Lib.hid (HB1.out.chg hcr (by omega))
    have HGR := Lib.hid (show g + 1 < wr.heap.size by have := hcr.size; have := HW1.out; omega)
    clear hbx hvc hcr hta
    by_cases hlt : n < L.length
    · obtain ⟨k, hk⟩ : ∃ k, L[n]? = some k := ⟨_, List.getElem?_eq_getElem hlt⟩
      obtain ⟨nb, no, rfl, hnb, hkc⟩ := HROW.out.at (i := n) (r := [.string k]) (by simp [kRows, hk])
      have hkc := (hkc.chg HCR.out (fun e => by omega)).one
      simp only [Nat.mul_one] at hkc
      have HK0 := Lib.hid hk
      have h64 : (n : Int) < (L.length : Int) := by omega
      have b0 := HBX.out
      obtain ⟨cb, ci, cf, ct', ckv, clv, rfl⟩ := HVC.out.table7
      clear hnb hk
      go_wp2_with (first | (with_reducible refine wpList_loadAgg rfl agg26 rfl rfl b0.cells rfl ?_))
      refine (at_table (okB ok w) t' k cb ci cf ct' ckv clv wr HVC.out).mono ?_
      rintro e w2 ⟨hc2, hm⟩
      have HC2 := Lib.hid hc2
      have HB02 := Lib.hid (HBX.out.chg hc2 id)
      have HB12 := Lib.hid (HB1r.out.chg hc2 id)
      clear b0 hc2 hkc
      simp only [atJ] at hm
      cases hgk : get t' k with
      | none =>
        rw [hgk] at hm
        obtain rfl := hm
        have HNO := Lib.hid (tableAt_none HK0.out (t := t') (fun x hx => by rw [hgk] at hx; cases hx))
        have b1 := HB12.out.alloc (.cells zero7.toArray 26)
        clear hgk
        go_wp2_with (first | (with_reducible refine wpList_storeNew rfl agg26 rfl rfl rfl rfl rfl rfl ?_) | (with_reducible refine wpList_storeBlk rfl agg26 rfl rfl rfl b1 rfl rfl rfl ?_; intro w3 hb3 hc3 hs3))
        refine bodyPost_ret (results_blk_tmp rfl agg26 rfl hb3 rfl) rfl ⟨?_, ?_⟩
        · exact ((((HC1.out.trans' HC.out).trans HCR.out (fun i hi e => by have := HG.out; omega)).trans' HC2.out).alloc _).trans hc3 (fun i hi e => by have := HG.out; omega)
        · rw [← HLE.out, HTA.out, HNO.out]; rfl
      | some x =>
        rw [hgk] at hm
        obtain ⟨c2, rfl, hv2⟩ := hm
        have hl2 := hv2.length
        have ho2 := hv2.one
        obtain ⟨xk, xb, xi, xf, xt, xkv, xlv, rfl⟩ := hv2.seven
        have HV2 := Lib.hid hv2
        have HKD := Lib.hid hv2.kindT
        have HGK := Lib.hid hgk
        clear hv2 hgk
        go_wp2_with (first | (with_reducible refine wpList_storeNew rfl agg26 rfl rfl rfl rfl hl2 ho2 ?_) | (with_reducible refine wpList_loadAgg rfl agg26 rfl rfl (Blk.new w2 (cells7 xk xb xi xf xt xkv xlv) 26).cells hl2 ?_))
        refine (isTable_any xk xi xb xf xt xkv xlv _).mono ?_
        rintro e w3 ⟨rfl, hc3⟩
        have HC3 := Lib.hid (((Chg.refl No w2).alloc (.cells (cells7 xk xb xi xf xt xkv xlv).toArray 26)).trans' hc3)
        have b8 := (Blk.new w2 (cells7 xk xb xi xf xt xkv xlv) 26).chg hc3 id
        have HB8 := Lib.hid b8
        clear hc3 b8
        by_cases h7 : xk = 7
        · subst h7
          obtain ⟨x', rfl⟩ := isT_table (HKD.out.1 rfl)
          have b0 := HB02.out.chg HC3.out id
          have b8 := HB8.out
          go_wp2_with (first | (with_reducible refine wpList_loadAgg rfl agg26 rfl rfl b8.cells rfl ?_) | (with_reducible refine wpList_storeBlk rfl agg26 rfl rfl rfl b0 rfl rfl ho2 ?_; intro w4 hb4 hc4 hs4))
          have HC4 := Lib.hid ((HC2.out.trans' HC3.out).mono (S' := (· = g)) (fun _ _ e => e.elim) |>.trans hc4 (fun _ _ e => e))
          have HB4 := Lib.hid hb4
          have HV4 := Lib.hid ((HV2.out.chg HC3.out (fun _ _ e => e)).chg hc4 (fun b hb e => NOTX.out b (by omega) hb))
          clear hc4 hb4 b0 b8 hs4
          go_roundw
          case rel => exact ⟨n + 1, _, x', by go_num, by omega, HB4.out, HV4.out, (by rw [HTA.out, tableAt_some HK0.out HGK.out]), HCR.out.trans HC4.out (fun _ _ e => e)⟩
          case measure => simp [intOf]; omega
        · have h7b : (xk == 7) = false := by simpa using h7
          have HNO := Lib.hid (tableAt_none HK0.out (t := t') (fun y hy => by
            rw [HGK.out] at hy
            cases hy
            exact h7 (HKD.out.2 rfl)))
          have b1 := HB12.out.chg HC3.out id
          go_wp2_with (first | (with_reducible refine wpList_storeBlk rfl agg26 rfl rfl rfl b1 rfl rfl rfl ?_; intro w4 hb4 hc4 hs4))
          refine bodyPost_ret (results_blk_tmp rfl agg26 rfl hb4 rfl) rfl ⟨?_, ?_⟩
          · exact ((((HC1.out.trans' HC.out).trans HCR.out (fun i hi e => by have := HG.out; omega)).trans' HC2.out).trans' HC3.out).trans hc4 (fun i hi e => by have := HG.out; omega)
          · rw [← HLE.out, HTA.out, HNO.out]; rfl
    · have h64 : ¬ (n : Int) < (L.length : Int) := by omega
      have b0 := HBX.out
      have b1 := HB1r.out
      have hone := HVC.out.one
      have hc7 := HVC.out.length
      go_wp2_with (first | (with_reducible refine wpList_loadAgg rfl agg26 rfl rfl b0.cells hc7 ?_) | (with_reducible refine wpList_storeBlk rfl agg26 rfl rfl rfl b1 rfl hc7 hone ?_; intro w2 hb2 hc2 hs2))
      refine bodyPost_ret (results_blk_tmp rfl agg26 rfl hb2 hc7) rfl ⟨?_, ?_⟩
      · exact ((HC1.out.trans' HC.out).trans HCR.out (fun i hi e => by have := HG.out; omega)).trans hc2 (fun i hi e => by have := HG.out; omega)
      · rw [← HLE.out, HTA.out, List.drop_of_length_le (by omega)]
        exact ⟨c, rfl, (HVC.out.chg hc2 (fun b hb e => NOTX.out b (by omega) hb)).mono (fun b _ hb => hb.1)⟩

/-! ### Two tables that are merged -/

theorem pab : parts ⟨#[97, 46, 98]⟩ 46 = [⟨#[97]⟩, ⟨#[98]⟩] := by kernel_rfl
theorem pac : parts ⟨#[97, 46, 99]⟩ 46 = [⟨#[97]⟩, ⟨#[99]⟩] := by kernel_rfl
theorem pa1 : parts ⟨#[97]⟩ 46 = [⟨#[97]⟩] := by kernel_rfl

def kA : K := ⟨#[97]⟩
def kB : K := ⟨#[98]⟩
def kC : K := ⟨#[99]⟩

theorem mBC : merged [(kB, .bool false)] [(kC, .bool true)] = [(kB, .bool false), (kC, .bool true)] := by
  refine t_ext (sorted_merged _ _) (List.Pairwise.cons (by intro p hp; obtain rfl := List.mem_singleton.1 hp; show ([98] : List UInt8) < [99]; decide) (List.pairwise_singleton _ _)) fun k => ?_
  rw [get_merged]
  simp only [get]
  by_cases h1 : kC = k
  · subst h1
    have : ¬ kB = kC := by decide
    simp [this]
  · simp [h1]

theorem mABC : get (merged [(kA, .table [(kB, .bool false)])] [(kA, .table [(kC, .bool true)])]) kA = some (.table [(kB, .bool false), (kC, .bool true)]) := by
  rw [get_merged]
  simp [get, mBC]

theorem mTAB : tableAt (merged [(kA, .table [(kB, .bool false)])] [(kA, .table [(kC, .bool true)])]) (parts ⟨#[97]⟩ 46) = some [(kB, .bool false), (kC, .bool true)] := by
  rw [pa1]
  show tableAt _ [kA] = _
  simp only [tableAt]
  rw [mABC]

theorem pjB (b : Bool) : pathJ ⟨#[97, 46, 98]⟩ (.bool b) = .table [(kA, .table [(kB, .bool b)])] := by
  rw [pathJ, if_neg (by decide), pab]; rfl
theorem pjC (b : Bool) : pathJ ⟨#[97, 46, 99]⟩ (.bool b) = .table [(kA, .table [(kC, .bool b)])] := by
  rw [pathJ, if_neg (by decide), pac]; rfl

theorem wf1 (k k' : K) (hk : k.size = 1) (hk' : k'.size = 1) (b : Bool) : Wf 1 3 (.table [(k, .table [(k', .bool b)])]) := by
  refine ⟨List.pairwise_singleton _ _, Nat.le_refl _, fun p hp => ?_⟩
  obtain rfl := List.mem_singleton.1 hp
  refine ⟨by show k.size ≤ _; omega, List.pairwise_singleton _ _, Nat.le_refl _, fun q hq => ?_⟩
  obtain rfl := List.mem_singleton.1 hq
  exact ⟨by show k'.size ≤ _; omega, trivial⟩

set_option maxRecDepth 100000 in
set_option maxHeartbeats 1000000 in
theorem mtAwake_any (w : World) : Calls Tryz.prog 10 #[] w fun e w' => e = .returned (.bool true) ∧ Chg No w w' := by
  have hb1 := build26_k 1
  have hb2 := build26_b 1 true
  go_enter Tryz.func10, Tryz.ntmps10
  go_wp2_with fail
  refine (pathMap_any (ok := No) (cs := cells7 1 false 0 0 ByteArray.empty (.slice none 0 0) (.slice none 0 0)) (j := .bool false) ⟨#[97, 46, 98]⟩ (by decide) (.bool (rowNil _ _ _) (rowNil _ _ _))).mono ?_
  rintro e w1 ⟨ca, rfl, hva, hc1⟩
  have HVA := Lib.hid hva
  have HC1 := Lib.hid hc1
  clear hva hc1
  go_wp2_with fail
  refine (pathMap_any (ok := No) (cs := cells7 1 true 0 0 ByteArray.empty (.slice none 0 0) (.slice none 0 0)) (j := .bool true) ⟨#[97, 46, 99]⟩ (by decide) (.bool (rowNil _ _ _) (rowNil _ _ _))).mono ?_
  rintro e w2 ⟨cb, rfl, hvb, hc2⟩
  have HVB := Lib.hid hvb
  have HC2 := Lib.hid hc2
  clear hvb hc2 hb1 hb2
  go_wp2_with fail
  have hca := HVA.out
  have hcb := HVB.out
  rw [pjB] at hca
  rw [pjC] at hcb
  have HM := Lib.hid (mergeMapsTop_any 1 1 (by decide) (d := 3) (by decide) (ok := fun _ => True) ((hca.chg HC2.out (fun _ _ e => e)).mono (fun _ _ _ => trivial)) (hcb.mono (fun _ _ _ => trivial)) (wf1 _ _ (by decide) (by decide) _) (wf1 _ _ (by decide) (by decide) _) (by decide) (by decide))
  clear hca hcb
  refine HM.out.mono ?_
  rintro e w3 ⟨cm, rfl, hvm, hc3⟩
  have hlm := hvm.length
  have hom := hvm.one
  have HVM := Lib.hid hvm
  have HC3 := Lib.hid hc3
  clear hvm hc3
  go_wp2_with (first | (with_reducible refine wpList_storeNew rfl agg26 rfl rfl rfl rfl hlm hom ?_) | (with_reducible refine wpList_loadAgg rfl agg26 rfl rfl (Blk.new w3 cm 26).cells hlm ?_))
  refine (tableAt_any (ok := fun _ => True) ⟨#[97]⟩ (by decide) ((HVM.out.chg ((Chg.refl No w3).alloc (.cells cm.toArray 26)) (fun _ _ e => e)).mono (fun _ _ _ => trivial))).mono ?_
  rintro e w4 ⟨hc4, hm⟩
  rw [mTAB] at hm
  obtain ⟨cx, rfl, hvx⟩ := hm
  have HC4 := Lib.hid (((Chg.refl No w3).alloc (.cells cm.toArray 26)).trans' hc4)
  have hlx := hvx.length
  have hox := hvx.one
  have HVX := Lib.hid hvx
  clear hc4
  have hkv : ∃ xb xi xf xt xa xc xlv, cx = cells7 7 xb xi xf xt (.slice xa 2 xc) xlv := by
    cases hvx with
    | table hk hl hn hr =>
      obtain ⟨-, -, xa, xc, rfl, -, -⟩ := hk
      exact ⟨_, _, _, _, _, _, _, rfl⟩
  obtain ⟨xb, xi, xf, xt, xa, xc, xlv, rfl⟩ := hkv
  have hk5 : (w4.alloc (.cells (cells7 7 xb xi xf xt (.slice xa 2 xc) xlv).toArray 26)).cell? ⟨w4.heap.size, 5, none⟩ = some (.slice xa 2 xc) := (Blk.new w4 (cells7 7 xb xi xf xt (.slice xa 2 xc) xlv) 26).cell 5
  clear hvx
  go_wp2_with (first | (with_reducible refine wpList_storeNew rfl agg26 rfl rfl rfl rfl hlx hox ?_))
  go_ret
  exact ⟨rfl, ((((HC1.out.trans' HC2.out).trans' HC3.out).trans' HC4.out).alloc _)⟩

end Go.Proofs.YtljaoopfomcaoaaGreatDoor
