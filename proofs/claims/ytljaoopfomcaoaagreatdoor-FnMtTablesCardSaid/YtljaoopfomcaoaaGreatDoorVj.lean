/-
  The walk of Same: two readings of one value are the same.
-/
import Derived.Test.YtljaoopfomcaoaaGreatDoorVi
set_option linter.unusedVariables false
set_option linter.unusedSimpArgs false
namespace Go.Proofs.YtljaoopfomcaoaaGreatDoor
open Go.RowKit

set_option maxRecDepth 100000 in
set_option maxHeartbeats 1000000 in
theorem same_any (N : Nat) (hN : N < 1099511627776) (d : Nat) : ∀ (ok : Nat → Prop) (j : J) (ca cb : List Value) (w : World), ValJ ok w ca j → ValJ ok w cb j → Wf N d j →
    Calls Tryz.prog 19 #[.agg ca.toArray, .agg cb.toArray] w fun e w' => e = .returned (.bool true) ∧ Chg No w w' := by
  induction d with
  | zero => intro ok j ca cb w _ _ h; exact h.elim
  | succ d ih =>
    intro ok j ca cb w ha hb wf
    have WF := Lib.hid wf
    have IH := Lib.hid ih
    have HA := Lib.hid ha
    have HB := Lib.hid hb
    clear wf ih
    have facts : ∀ (k : Int) (b : Bool) (i : Int) (f : Nat) (t : K) (kv lv : Value) (b' : Bool) (i' : Int) (f' : Nat) (t' : K) (kv' lv' : Value) (W : World), ((w.alloc (.cells (cells7 k b i f t kv lv).toArray 26)).alloc (.cells (cells7 k b' i' f' t' kv' lv').toArray 26)) = W →
        Blk W w.heap.size (cells7 k b i f t kv lv) 26 ∧ Blk W (w.heap.size + 1) (cells7 k b' i' f' t' kv' lv') 26 ∧ Chg No w W := by
      rintro k b i f t kv lv b' i' f' t' kv' lv' W rfl
      exact ⟨(Blk.new _ _ _).alloc _, Blk.newAt (by simp) _ _, ((Chg.refl No w).alloc _).alloc _⟩
    cases ha with
    | @null b i f t kv lv hk hl =>
      cases hb with
      | @null b' i' f' t' kv' lv' hk' hl' =>
        obtain ⟨-, -, la, lc, rfl, -, -⟩ := hl
        obtain ⟨-, -, ma, mc, rfl, -, -⟩ := hl'
        have HF := Lib.hid (facts (0) (b) i f t kv (.slice la 0 lc) (b') i' f' t' kv' (.slice ma 0 mc))
        simp only [List.length_nil]
        clear hk hk' facts
        go_enter Tryz.func19, Tryz.ntmps19
        unfold cells7
        go_upto_region 1 with fail
        generalize hgw : World.alloc _ _ = W
        obtain ⟨b0, b1, c2⟩ := HF.out W hgw
        clear hgw HF
        have HB0 := Lib.hid b0
        have HB1 := Lib.hid b1
        have HC2 := Lib.hid c2
        have k0 : W.cell? ⟨w.heap.size, 0, none⟩ = some (.int .i64 0) := b0.cell 0
        have k6 : W.cell? ⟨w.heap.size, 6, none⟩ = some (.slice la 0 lc) := b0.cell 6
        have q0 : W.cell? ⟨w.heap.size + 1, 0, none⟩ = some (.int .i64 0) := b1.cell 0
        have q6 : W.cell? ⟨w.heap.size + 1, 6, none⟩ = some (.slice ma 0 mc) := b1.cell 6
        clear b0 b1 c2
        go_wp2
        refine wp_loop_rounds 1 ?_
        rw [rounds_succ]
        go_wp2
        go_ret
        exact ⟨rfl, HC2.out⟩
    | @bool b1 i f t kv lv hk hl =>
      cases hb with
      | @bool _ i' f' t' kv' lv' hk' hl' =>
        obtain ⟨-, -, la, lc, rfl, -, -⟩ := hl
        obtain ⟨-, -, ma, mc, rfl, -, -⟩ := hl'
        have HF := Lib.hid (facts (1) (b1) i f t kv (.slice la 0 lc) (b1) i' f' t' kv' (.slice ma 0 mc))
        simp only [List.length_nil]
        clear hk hk' facts
        go_enter Tryz.func19, Tryz.ntmps19
        unfold cells7
        go_upto_region 1 with fail
        generalize hgw : World.alloc _ _ = W
        obtain ⟨b0, b1, c2⟩ := HF.out W hgw
        clear hgw HF
        have HB0 := Lib.hid b0
        have HB1 := Lib.hid b1
        have HC2 := Lib.hid c2
        have k0 : W.cell? ⟨w.heap.size, 0, none⟩ = some (.int .i64 1) := b0.cell 0
        have k6 : W.cell? ⟨w.heap.size, 6, none⟩ = some (.slice la 0 lc) := b0.cell 6
        have q0 : W.cell? ⟨w.heap.size + 1, 0, none⟩ = some (.int .i64 1) := b1.cell 0
        have q6 : W.cell? ⟨w.heap.size + 1, 6, none⟩ = some (.slice ma 0 mc) := b1.cell 6
        have k1 := b0.cell 1
        have q1 := b1.cell 1
        simp only [cells7, List.getElem?_cons_succ, List.getElem?_cons_zero] at k1 q1
        clear b0 b1 c2
        go_wp2
        go_ret
        exact ⟨rfl, HC2.out⟩
    | @int b i1 f t kv lv hk hl =>
      cases hb with
      | @int b' _ f' t' kv' lv' hk' hl' =>
        obtain ⟨-, -, la, lc, rfl, -, -⟩ := hl
        obtain ⟨-, -, ma, mc, rfl, -, -⟩ := hl'
        have HF := Lib.hid (facts (2) (b) i1 f t kv (.slice la 0 lc) (b') i1 f' t' kv' (.slice ma 0 mc))
        simp only [List.length_nil]
        clear hk hk' facts
        go_enter Tryz.func19, Tryz.ntmps19
        unfold cells7
        go_upto_region 1 with fail
        generalize hgw : World.alloc _ _ = W
        obtain ⟨b0, b1, c2⟩ := HF.out W hgw
        clear hgw HF
        have HB0 := Lib.hid b0
        have HB1 := Lib.hid b1
        have HC2 := Lib.hid c2
        have k0 : W.cell? ⟨w.heap.size, 0, none⟩ = some (.int .i64 2) := b0.cell 0
        have k6 : W.cell? ⟨w.heap.size, 6, none⟩ = some (.slice la 0 lc) := b0.cell 6
        have q0 : W.cell? ⟨w.heap.size + 1, 0, none⟩ = some (.int .i64 2) := b1.cell 0
        have q6 : W.cell? ⟨w.heap.size + 1, 6, none⟩ = some (.slice ma 0 mc) := b1.cell 6
        have k2 := b0.cell 2
        have q2 := b1.cell 2
        simp only [cells7, List.getElem?_cons_succ, List.getElem?_cons_zero] at k2 q2
        clear b0 b1 c2
        go_wp2
        go_ret
        exact ⟨rfl, HC2.out⟩
    | @float b i f1 t kv lv hk hl =>
      cases hb with
      | @float b' i' _ t' kv' lv' hk' hl' =>
        obtain ⟨-, -, la, lc, rfl, -, -⟩ := hl
        obtain ⟨-, -, ma, mc, rfl, -, -⟩ := hl'
        have HF := Lib.hid (facts (4) (b) i f1 t kv (.slice la 0 lc) (b') i' f1 t' kv' (.slice ma 0 mc))
        simp only [List.length_nil]
        clear hk hk' facts
        go_enter Tryz.func19, Tryz.ntmps19
        unfold cells7
        go_upto_region 1 with fail
        generalize hgw : World.alloc _ _ = W
        obtain ⟨b0, b1, c2⟩ := HF.out W hgw
        clear hgw HF
        have HB0 := Lib.hid b0
        have HB1 := Lib.hid b1
        have HC2 := Lib.hid c2
        have k0 : W.cell? ⟨w.heap.size, 0, none⟩ = some (.int .i64 4) := b0.cell 0
        have k6 : W.cell? ⟨w.heap.size, 6, none⟩ = some (.slice la 0 lc) := b0.cell 6
        have q0 : W.cell? ⟨w.heap.size + 1, 0, none⟩ = some (.int .i64 4) := b1.cell 0
        have q6 : W.cell? ⟨w.heap.size + 1, 6, none⟩ = some (.slice ma 0 mc) := b1.cell 6
        have k3 := b0.cell 3
        have q3 := b1.cell 3
        simp only [cells7, List.getElem?_cons_succ, List.getElem?_cons_zero] at k3 q3
        have hfin : (FloatKind.f64.format.order f1 f1 == some .eq) = true := WF.out
        clear b0 b1 c2
        go_wp2
        go_ret
        exact ⟨rfl, HC2.out⟩
    | @text b i f t1 kv lv hk hl =>
      cases hb with
      | @text b' i' f' _ kv' lv' hk' hl' =>
        obtain ⟨-, -, la, lc, rfl, -, -⟩ := hl
        obtain ⟨-, -, ma, mc, rfl, -, -⟩ := hl'
        have HF := Lib.hid (facts (5) (b) i f t1 kv (.slice la 0 lc) (b') i' f' t1 kv' (.slice ma 0 mc))
        simp only [List.length_nil]
        clear hk hk' facts
        go_enter Tryz.func19, Tryz.ntmps19
        unfold cells7
        go_upto_region 1 with fail
        generalize hgw : World.alloc _ _ = W
        obtain ⟨b0, b1, c2⟩ := HF.out W hgw
        clear hgw HF
        have HB0 := Lib.hid b0
        have HB1 := Lib.hid b1
        have HC2 := Lib.hid c2
        have k0 : W.cell? ⟨w.heap.size, 0, none⟩ = some (.int .i64 5) := b0.cell 0
        have k6 : W.cell? ⟨w.heap.size, 6, none⟩ = some (.slice la 0 lc) := b0.cell 6
        have q0 : W.cell? ⟨w.heap.size + 1, 0, none⟩ = some (.int .i64 5) := b1.cell 0
        have q6 : W.cell? ⟨w.heap.size + 1, 6, none⟩ = some (.slice ma 0 mc) := b1.cell 6
        have k4 := b0.cell 4
        have q4 := b1.cell 4
        simp only [cells7, List.getElem?_cons_succ, List.getElem?_cons_zero] at k4 q4
        clear b0 b1 c2
        go_wp2
        go_ret
        exact ⟨rfl, HC2.out⟩
    | @list b i f t kv lv rows xs hk hl hn hr =>
      cases hb with
      | @list b' i' f' t' kv' lv' rows' _ hk' hl' hn' hr' =>
        have HRA := Lib.hid hl
        have HRB := Lib.hid hl'
        have hl1 := hl.1
        obtain ⟨-, -, la, lc, rfl, -, -⟩ := hl
        obtain ⟨-, -, ma, mc, rfl, -, -⟩ := hl'
        rw [hn] at HRA hl1
        rw [hn'] at HRB
        rw [hn, hn']
        unfold maxLen at hl1
        have HF := Lib.hid (facts 6 b i f t kv (.slice la xs.length lc) b' i' f' t' kv' (.slice ma xs.length mc))
        have HNA := Lib.hid hn
        have HNB := Lib.hid hn'
        have HEA := Lib.hid hr
        have HEB := Lib.hid hr'
        have WX := Lib.hid WF.out.2
        clear hk hk' facts hn hn' hr hr'
        go_enter Tryz.func19, Tryz.ntmps19
        unfold cells7
        go_upto_region 1 with fail
        generalize hgw : World.alloc _ _ = W
        obtain ⟨b0, b1, c2⟩ := HF.out W hgw
        clear hgw HF
        have HB0 := Lib.hid b0
        have HB1 := Lib.hid b1
        have HC2 := Lib.hid c2
        have k0 : W.cell? ⟨w.heap.size, 0, none⟩ = some (.int .i64 6) := b0.cell 0
        have k6 : W.cell? ⟨w.heap.size, 6, none⟩ = some (.slice la xs.length lc) := b0.cell 6
        have q0 : W.cell? ⟨w.heap.size + 1, 0, none⟩ = some (.int .i64 6) := b1.cell 0
        have q6 : W.cell? ⟨w.heap.size + 1, 6, none⟩ = some (.slice ma xs.length mc) := b1.cell 6
        clear b0 b1 c2
        go_wp2_with fail
        clear k0 k6 q0 q6
        go_loopw [7] (fun ct wr => ∃ n : Nat, n ≤ xs.length ∧ ct = .int .i64 n ∧ Chg No W wr) (fun ct _ => xs.length - (intOf ct).toNat)
        case atStart => exact ⟨0, Nat.zero_le _, rfl, Chg.refl _ _⟩
        case round =>
          obtain ⟨n, hn, rfl, hcr⟩ := hrel
          have HCR := Lib.hid hcr
          have k0 := (HB0.out.chg hcr id).cell 0
          have k6 := (HB0.out.chg hcr id).cell 6
          simp only [cells7, List.getElem?_cons_succ, List.getElem?_cons_zero] at k0 k6
          clear hcr
          by_cases hlt : n < xs.length
          · obtain ⟨x, hx⟩ : ∃ x, xs[n]? = some x := ⟨_, List.getElem?_eq_getElem hlt⟩
            obtain ⟨ra, hra⟩ : ∃ r, rows[n]? = some r := ⟨_, List.getElem?_eq_getElem (by rw [HNA.out]; exact hlt)⟩
            obtain ⟨rb, hrb⟩ : ∃ r, rows'[n]? = some r := ⟨_, List.getElem?_eq_getElem (by rw [HNB.out]; exact hlt)⟩
            obtain ⟨lb, lo, rfl, -, hla⟩ := HRA.out.at (i := n) (r := ra) hra
            obtain ⟨mb, mo, rfl, -, hlb⟩ := HRB.out.at (i := n) (r := rb) hrb
            have HLA := Lib.hid hla
            have HLB := Lib.hid hlb
            have HVA := Lib.hid (HEA.out n ra x hra hx)
            have HVB := Lib.hid (HEB.out n rb x hrb hx)
            have HX := Lib.hid hx
            have h64 : (n : Int) < (xs.length : Int) := by omega
            clear hla hlb hra hrb hx
            go_upto_region 24 with fail
            clear k0 k6
            refine wp_region_inv (FI [.eq (.pointer (some ⟨w.heap.size, 6, none⟩)), .eq (.slice (some ⟨lb, lo, none⟩) xs.length lc), .eq (.int .i64 n), .eq (.pointer (some ⟨lb, lo + n * 7, none⟩)), .eq (.agg ra.toArray), .eq (.pointer (some ⟨w.heap.size + 1, 6, none⟩)), .eq (.slice (some ⟨mb, mo, none⟩) xs.length mc), .eq (.int .i64 n), .eq (.pointer (some ⟨mb, mo + n * 7, none⟩)), .eq (.agg rb.toArray), .eq (.bool true), .eq (.bool false)])
              (fun _ w' => Chg No wr w') (by kernel_rfl) (by kernel_rfl) ((Chg.refl No wr).drew) ?_ ?_
            · refine ⟨?_, ?_, ?_, ?_, ?_, ?_, ?_, ?_, ?_, ?_, ?_, ?_, trivial⟩
              · intro done a w1 K hd hcl hsl hot hdep hG hK
                have e2 : a.tmps[2]?.getD undef = .pointer (some ⟨w.heap.size, 0, none⟩) := hot 2 rfl
                clear hcl hsl hot hdep
                go_simp
                exact hK _ _ rfl hG (fun _ _ _ _ h => h)
              · intro done a w1 K hd hcl hsl hot hdep hG hK
                have e94 : a.tmps[94]?.getD undef = .pointer (some ⟨w.heap.size, 6, none⟩) := hsl 0 94 rfl (hdep 0 rfl)
                have c6 : w1.cell? ⟨w.heap.size, 6, none⟩ = some (.slice (some ⟨lb, lo, none⟩) xs.length lc) := ((HB0.out.chg HCR.out id).chg hG id).cell 6
                clear hcl hsl hot hdep
                go_simp
                exact hK _ _ rfl hG (fun _ _ _ _ h => h)
              · intro done a w1 K hd hcl hsl hot hdep hG hK
                have e7 : a.tmps[7]?.getD undef = .int .i64 (n : Int) := hot 7 rfl
                clear hcl hsl hot hdep
                go_simp
                exact hK _ _ rfl hG (fun _ _ _ _ h => h)
              · intro done a w1 K hd hcl hsl hot hdep hG hK
                have e95 : a.tmps[95]?.getD undef = .slice (some ⟨lb, lo, none⟩) xs.length lc := hsl 1 95 rfl (hdep 1 rfl)
                have e96 : a.tmps[96]?.getD undef = .int .i64 (n : Int) := hsl 2 96 rfl (hdep 2 rfl)
                clear hcl hsl hot hdep
                go_simp
                exact hK _ _ rfl hG (fun _ _ _ _ h => h)
              · intro done a w1 K hd hcl hsl hot hdep hG hK
                have e97 : a.tmps[97]?.getD undef = .pointer (some ⟨lb, lo + n * 7, none⟩) := hsl 3 97 rfl (hdep 3 rfl)
                refine if_wanted rfl ?_
                refine wp_loadAgg agg26 rfl (by simpa [Act.eval] using e97) (((HLA.out.chg HC2.out id).chg HCR.out id).chg hG id) HVA.out.length ?_
                exact hK _ _ rfl hG (fun _ _ _ _ h => h)
              · intro done a w1 K hd hcl hsl hot hdep hG hK
                have e3 : a.tmps[3]?.getD undef = .pointer (some ⟨w.heap.size + 1, 0, none⟩) := hot 3 rfl
                clear hcl hsl hot hdep
                go_simp
                exact hK _ _ rfl hG (fun _ _ _ _ h => h)
              · intro done a w1 K hd hcl hsl hot hdep hG hK
                have e99 : a.tmps[99]?.getD undef = .pointer (some ⟨w.heap.size + 1, 6, none⟩) := hsl 5 99 rfl (hdep 5 rfl)
                have c6 : w1.cell? ⟨w.heap.size + 1, 6, none⟩ = some (.slice (some ⟨mb, mo, none⟩) xs.length mc) := ((HB1.out.chg HCR.out id).chg hG id).cell 6
                clear hcl hsl hot hdep
                go_simp
                exact hK _ _ rfl hG (fun _ _ _ _ h => h)
              · intro done a w1 K hd hcl hsl hot hdep hG hK
                have e7 : a.tmps[7]?.getD undef = .int .i64 (n : Int) := hot 7 rfl
                clear hcl hsl hot hdep
                go_simp
                exact hK _ _ rfl hG (fun _ _ _ _ h => h)
              · intro done a w1 K hd hcl hsl hot hdep hG hK
                have e100 : a.tmps[100]?.getD undef = .slice (some ⟨mb, mo, none⟩) xs.length mc := hsl 6 100 rfl (hdep 6 rfl)
                have e101 : a.tmps[101]?.getD undef = .int .i64 (n : Int) := hsl 7 101 rfl (hdep 7 rfl)
                clear hcl hsl hot hdep
                go_simp
                exact hK _ _ rfl hG (fun _ _ _ _ h => h)
              · intro done a w1 K hd hcl hsl hot hdep hG hK
                have e102 : a.tmps[102]?.getD undef = .pointer (some ⟨mb, mo + n * 7, none⟩) := hsl 8 102 rfl (hdep 8 rfl)
                refine if_wanted rfl ?_
                refine wp_loadAgg agg26 rfl (by simpa [Act.eval] using e102) (((HLB.out.chg HC2.out id).chg HCR.out id).chg hG id) HVB.out.length ?_
                exact hK _ _ rfl hG (fun _ _ _ _ h => h)
              · intro done a w1 K hd hcl hsl hot hdep hG hK
                have e98 : a.tmps[98]?.getD undef = .agg ra.toArray := hsl 4 98 rfl (hdep 4 rfl)
                have e103 : a.tmps[103]?.getD undef = .agg rb.toArray := hsl 9 103 rfl (hdep 9 rfl)
                refine if_wanted rfl ?_
                have hcall := IH.out (okB ok w) x ra rb w1 (HVA.out.bel.chg ((HC2.out.trans' HCR.out).trans' hG) (fun _ _ e => e)) (HVB.out.bel.chg ((HC2.out.trans' HCR.out).trans' hG) (fun _ _ e => e)) (WX.out x (List.mem_of_getElem? HX.out))
                refine wp_callV Tryz.call19 rfl (by simpa [Act.eval] using e98) (by simpa [Act.eval] using e103) hcall ?_
                rintro e w2 ⟨rfl, hc2⟩
                exact ⟨_, rfl, hK _ _ rfl (hG.trans' hc2) (fun _ _ _ _ h => h.keepNo hc2)⟩
              · intro done a w1 K hd hcl hsl hot hdep hG hK
                have e104 : a.tmps[104]?.getD undef = .bool true := hsl 10 104 rfl (hdep 10 rfl)
                clear hcl hsl hot hdep
                go_simp
                exact hK _ _ rfl hG (fun _ _ _ _ h => h)
            · intro vs w2 hvs _ hG
              have e105 : vs 11 = .bool false := hvs 11 _ rfl (by decide)
              have HCW := Lib.hid (HCR.out.trans' hG)
              clear hG hvs
              simp only [putAll, Act.put, List.setIfInBounds_toArray, List.set_cons_succ, List.set_cons_zero, e105]
              go_wp2_with fail
              go_roundw
              case rel => exact ⟨n + 1, by omega, by go_num, HCW.out⟩
              case measure => simp [intOf]; omega
          · have h64 : ¬ (n : Int) < (xs.length : Int) := by omega
            go_wp2
            go_ret
            exact ⟨rfl, HC2.out.trans' HCR.out⟩
    | @table b i f t kv lv rows kvs hk hl hn hr =>
      cases hb with
      | @table b' i' f' t' kv' lv' rows' _ hk' hl' hn' hr' =>
        have HRA := Lib.hid hl
        have HRB := Lib.hid hl'
        have HKA := Lib.hid hk
        have HKB := Lib.hid hk'
        have hl1 := hl.1
        have hk1 := hk.1
        obtain ⟨-, -, la, lc, rfl, -, -⟩ := hl
        obtain ⟨-, -, ma, mc, rfl, -, -⟩ := hl'
        obtain ⟨-, -, ka, kc, rfl, -, -⟩ := hk
        obtain ⟨-, -, ja, jc, rfl, -, -⟩ := hk'
        obtain ⟨xs, hxs⟩ : ∃ xs : List J, xs = kvs.map (·.2) := ⟨_, rfl⟩
        have hxl : kvs.length = xs.length := by simp [hxs]
        rw [hn, hxl] at HRA hl1
        rw [hn', hxl] at HRB
        rw [hn, hn', hxl]
        simp only [List.length_map] at HKA HKB hk1 ⊢
        unfold maxLen at hl1 hk1
        have HF := Lib.hid (facts 7 b i f t (.slice ka kvs.length kc) (.slice la xs.length lc) b' i' f' t' (.slice ja kvs.length jc) (.slice ma xs.length mc))
        have hmem : ∀ (n : Nat) (x : J), xs[n]? = some x → ∃ p, kvs[n]? = some p ∧ p.2 = x := fun n x h => by
          rw [hxs, List.getElem?_map] at h
          cases hp : kvs[n]? with
          | none => rw [hp] at h; cases h
          | some p => rw [hp] at h; exact ⟨p, rfl, Option.some.inj h⟩
        have HNA := Lib.hid (hn.trans hxl)
        have HNB := Lib.hid (hn'.trans hxl)
        have HEA := Lib.hid (show ∀ (n : Nat) (r : List Value) (x : J), rows[n]? = some r → xs[n]? = some x → ValJ ok w r x from fun n r x h1 h2 => by
          obtain ⟨p, hp, rfl⟩ := hmem n x h2
          exact hr n r p h1 hp)
        have HEB := Lib.hid (show ∀ (n : Nat) (r : List Value) (x : J), rows'[n]? = some r → xs[n]? = some x → ValJ ok w r x from fun n r x h1 h2 => by
          obtain ⟨p, hp, rfl⟩ := hmem n x h2
          exact hr' n r p h1 hp)
        have WX := Lib.hid (show ∀ x ∈ xs, Wf N d x from fun x hx => by
          rw [hxs] at hx
          obtain ⟨p, hp, rfl⟩ := List.mem_map.1 hx
          exact (WF.out.2.2 p hp).2)
        clear facts hn hn' hr hr' hmem hxs hxl
        go_enter Tryz.func19, Tryz.ntmps19
        unfold cells7
        go_upto_region 1 with fail
        generalize hgw : World.alloc _ _ = W
        obtain ⟨b0, b1, c2⟩ := HF.out W hgw
        clear hgw HF
        have HB0 := Lib.hid b0
        have HB1 := Lib.hid b1
        have HC2 := Lib.hid c2
        have k0 : W.cell? ⟨w.heap.size, 0, none⟩ = some (.int .i64 7) := b0.cell 0
        have k6 : W.cell? ⟨w.heap.size, 6, none⟩ = some (.slice la xs.length lc) := b0.cell 6
        have q0 : W.cell? ⟨w.heap.size + 1, 0, none⟩ = some (.int .i64 7) := b1.cell 0
        have q6 : W.cell? ⟨w.heap.size + 1, 6, none⟩ = some (.slice ma xs.length mc) := b1.cell 6
        have k5 := b0.cell 5
        have q5 := b1.cell 5
        simp only [cells7, List.getElem?_cons_succ, List.getElem?_cons_zero] at k5 q5
        clear b0 b1 c2
        go_wp2_with fail
        clear k0 k6 q0 q6 k5 q5
        go_loopw [69] (fun ct wr => ∃ n : Nat, n ≤ kvs.length ∧ ct = .int .i64 n ∧ Chg No W wr) (fun ct _ => kvs.length - (intOf ct).toNat)
        case atStart => exact ⟨0, Nat.zero_le _, rfl, Chg.refl _ _⟩
        case round =>
          obtain ⟨n, hn, rfl, hcr⟩ := hrel
          have HCR := Lib.hid hcr
          have q5 := (HB1.out.chg hcr id).cell 5
          simp only [cells7, List.getElem?_cons_succ, List.getElem?_cons_zero] at q5
          by_cases hlt : n < kvs.length
          · obtain ⟨p, hp⟩ : ∃ p, kvs[n]? = some p := ⟨_, List.getElem?_eq_getElem hlt⟩
            obtain ⟨kb, ko, rfl, -, hka⟩ := HKA.out.at (i := n) (r := [.string p.1]) (by simp [hp])
            obtain ⟨jb, jo, rfl, -, hkb⟩ := HKB.out.at (i := n) (r := [.string p.1]) (by simp [hp])
            have hka := ((hka.chg HC2.out id).chg hcr id).one
            have hkb := ((hkb.chg HC2.out id).chg hcr id).one
            simp only [Nat.mul_one] at hka hkb
            have h64 : (n : Int) < (kvs.length : Int) := Int.ofNat_lt.2 hlt
            clear hp hcr
            go_wp2_with fail
            go_roundw
            case rel => exact ⟨n + 1, by omega, by go_num, HCR.out⟩
            case measure => simp [intOf]; omega
          · have h64 : ¬ (n : Int) < (kvs.length : Int) := fun h => hlt (Int.ofNat_lt.1 h)
            have k0 := (HB0.out.chg hcr id).cell 0
            simp only [cells7, List.getElem?_cons_succ, List.getElem?_cons_zero] at k0
            clear hcr
            go_wp2_with fail
            clear k0 q5
            go_loopw [7] (fun ct wr => ∃ n : Nat, n ≤ xs.length ∧ ct = .int .i64 n ∧ Chg No W wr) (fun ct _ => xs.length - (intOf ct).toNat)
            case atStart => exact ⟨0, Nat.zero_le _, rfl, HCR.out⟩
            case round =>
              obtain ⟨n, hn, rfl, hcr⟩ := hrel
              have HCR := Lib.hid hcr
              have k0 := (HB0.out.chg hcr id).cell 0
              have k6 := (HB0.out.chg hcr id).cell 6
              simp only [cells7, List.getElem?_cons_succ, List.getElem?_cons_zero] at k0 k6
              clear hcr
              by_cases hlt : n < xs.length
              · obtain ⟨x, hx⟩ : ∃ x, xs[n]? = some x := ⟨_, List.getElem?_eq_getElem hlt⟩
                obtain ⟨ra, hra⟩ : ∃ r, rows[n]? = some r := ⟨_, List.getElem?_eq_getElem (by rw [HNA.out]; exact hlt)⟩
                obtain ⟨rb, hrb⟩ : ∃ r, rows'[n]? = some r := ⟨_, List.getElem?_eq_getElem (by rw [HNB.out]; exact hlt)⟩
                obtain ⟨lb, lo, rfl, -, hla⟩ := HRA.out.at (i := n) (r := ra) hra
                obtain ⟨mb, mo, rfl, -, hlb⟩ := HRB.out.at (i := n) (r := rb) hrb
                have HLA := Lib.hid hla
                have HLB := Lib.hid hlb
                have HVA := Lib.hid (HEA.out n ra x hra hx)
                have HVB := Lib.hid (HEB.out n rb x hrb hx)
                have HX := Lib.hid hx
                have h64 : (n : Int) < (xs.length : Int) := by omega
                clear hla hlb hra hrb hx
                go_upto_region 24 with fail
                clear k0 k6
                refine wp_region_inv (FI [.eq (.pointer (some ⟨w.heap.size, 6, none⟩)), .eq (.slice (some ⟨lb, lo, none⟩) xs.length lc), .eq (.int .i64 n), .eq (.pointer (some ⟨lb, lo + n * 7, none⟩)), .eq (.agg ra.toArray), .eq (.pointer (some ⟨w.heap.size + 1, 6, none⟩)), .eq (.slice (some ⟨mb, mo, none⟩) xs.length mc), .eq (.int .i64 n), .eq (.pointer (some ⟨mb, mo + n * 7, none⟩)), .eq (.agg rb.toArray), .eq (.bool true), .eq (.bool false)])
                  (fun _ w' => Chg No wr w') (by kernel_rfl) (by kernel_rfl) ((Chg.refl No wr).drew) ?_ ?_
                · refine ⟨?_, ?_, ?_, ?_, ?_, ?_, ?_, ?_, ?_, ?_, ?_, ?_, trivial⟩
                  · intro done a w1 K hd hcl hsl hot hdep hG hK
                    have e2 : a.tmps[2]?.getD undef = .pointer (some ⟨w.heap.size, 0, none⟩) := hot 2 rfl
                    clear hcl hsl hot hdep
                    go_simp
                    exact hK _ _ rfl hG (fun _ _ _ _ h => h)
                  · intro done a w1 K hd hcl hsl hot hdep hG hK
                    have e94 : a.tmps[94]?.getD undef = .pointer (some ⟨w.heap.size, 6, none⟩) := hsl 0 94 rfl (hdep 0 rfl)
                    have c6 : w1.cell? ⟨w.heap.size, 6, none⟩ = some (.slice (some ⟨lb, lo, none⟩) xs.length lc) := ((HB0.out.chg HCR.out id).chg hG id).cell 6
                    clear hcl hsl hot hdep
                    go_simp
                    exact hK _ _ rfl hG (fun _ _ _ _ h => h)
                  · intro done a w1 K hd hcl hsl hot hdep hG hK
                    have e7 : a.tmps[7]?.getD undef = .int .i64 (n : Int) := hot 7 rfl
                    clear hcl hsl hot hdep
                    go_simp
                    exact hK _ _ rfl hG (fun _ _ _ _ h => h)
                  · intro done a w1 K hd hcl hsl hot hdep hG hK
                    have e95 : a.tmps[95]?.getD undef = .slice (some ⟨lb, lo, none⟩) xs.length lc := hsl 1 95 rfl (hdep 1 rfl)
                    have e96 : a.tmps[96]?.getD undef = .int .i64 (n : Int) := hsl 2 96 rfl (hdep 2 rfl)
                    clear hcl hsl hot hdep
                    go_simp
                    exact hK _ _ rfl hG (fun _ _ _ _ h => h)
                  · intro done a w1 K hd hcl hsl hot hdep hG hK
                    have e97 : a.tmps[97]?.getD undef = .pointer (some ⟨lb, lo + n * 7, none⟩) := hsl 3 97 rfl (hdep 3 rfl)
                    refine if_wanted rfl ?_
                    refine wp_loadAgg agg26 rfl (by simpa [Act.eval] using e97) (((HLA.out.chg HC2.out id).chg HCR.out id).chg hG id) HVA.out.length ?_
                    exact hK _ _ rfl hG (fun _ _ _ _ h => h)
                  · intro done a w1 K hd hcl hsl hot hdep hG hK
                    have e3 : a.tmps[3]?.getD undef = .pointer (some ⟨w.heap.size + 1, 0, none⟩) := hot 3 rfl
                    clear hcl hsl hot hdep
                    go_simp
                    exact hK _ _ rfl hG (fun _ _ _ _ h => h)
                  · intro done a w1 K hd hcl hsl hot hdep hG hK
                    have e99 : a.tmps[99]?.getD undef = .pointer (some ⟨w.heap.size + 1, 6, none⟩) := hsl 5 99 rfl (hdep 5 rfl)
                    have c6 : w1.cell? ⟨w.heap.size + 1, 6, none⟩ = some (.slice (some ⟨mb, mo, none⟩) xs.length mc) := ((HB1.out.chg HCR.out id).chg hG id).cell 6
                    clear hcl hsl hot hdep
                    go_simp
                    exact hK _ _ rfl hG (fun _ _ _ _ h => h)
                  · intro done a w1 K hd hcl hsl hot hdep hG hK
                    have e7 : a.tmps[7]?.getD undef = .int .i64 (n : Int) := hot 7 rfl
                    clear hcl hsl hot hdep
                    go_simp
                    exact hK _ _ rfl hG (fun _ _ _ _ h => h)
                  · intro done a w1 K hd hcl hsl hot hdep hG hK
                    have e100 : a.tmps[100]?.getD undef = .slice (some ⟨mb, mo, none⟩) xs.length mc := hsl 6 100 rfl (hdep 6 rfl)
                    have e101 : a.tmps[101]?.getD undef = .int .i64 (n : Int) := hsl 7 101 rfl (hdep 7 rfl)
                    clear hcl hsl hot hdep
                    go_simp
                    exact hK _ _ rfl hG (fun _ _ _ _ h => h)
                  · intro done a w1 K hd hcl hsl hot hdep hG hK
                    have e102 : a.tmps[102]?.getD undef = .pointer (some ⟨mb, mo + n * 7, none⟩) := hsl 8 102 rfl (hdep 8 rfl)
                    refine if_wanted rfl ?_
                    refine wp_loadAgg agg26 rfl (by simpa [Act.eval] using e102) (((HLB.out.chg HC2.out id).chg HCR.out id).chg hG id) HVB.out.length ?_
                    exact hK _ _ rfl hG (fun _ _ _ _ h => h)
                  · intro done a w1 K hd hcl hsl hot hdep hG hK
                    have e98 : a.tmps[98]?.getD undef = .agg ra.toArray := hsl 4 98 rfl (hdep 4 rfl)
                    have e103 : a.tmps[103]?.getD undef = .agg rb.toArray := hsl 9 103 rfl (hdep 9 rfl)
                    refine if_wanted rfl ?_
                    have hcall := IH.out (okB ok w) x ra rb w1 (HVA.out.bel.chg ((HC2.out.trans' HCR.out).trans' hG) (fun _ _ e => e)) (HVB.out.bel.chg ((HC2.out.trans' HCR.out).trans' hG) (fun _ _ e => e)) (WX.out x (List.mem_of_getElem? HX.out))
                    refine wp_callV Tryz.call19 rfl (by simpa [Act.eval] using e98) (by simpa [Act.eval] using e103) hcall ?_
                    rintro e w2 ⟨rfl, hc2⟩
                    exact ⟨_, rfl, hK _ _ rfl (hG.trans' hc2) (fun _ _ _ _ h => h.keepNo hc2)⟩
                  · intro done a w1 K hd hcl hsl hot hdep hG hK
                    have e104 : a.tmps[104]?.getD undef = .bool true := hsl 10 104 rfl (hdep 10 rfl)
                    clear hcl hsl hot hdep
                    go_simp
                    exact hK _ _ rfl hG (fun _ _ _ _ h => h)
                · intro vs w2 hvs _ hG
                  have e105 : vs 11 = .bool false := hvs 11 _ rfl (by decide)
                  have HCW := Lib.hid (HCR.out.trans' hG)
                  clear hG hvs
                  simp only [putAll, Act.put, List.setIfInBounds_toArray, List.set_cons_succ, List.set_cons_zero, e105]
                  go_wp2_with fail
                  go_roundw
                  case rel => exact ⟨n + 1, by omega, by go_num, HCW.out⟩
                  case measure => simp [intOf]; omega
              · have h64 : ¬ (n : Int) < (xs.length : Int) := by omega
                go_wp2
                go_ret
                exact ⟨rfl, HC2.out.trans' HCR.out⟩

end Go.Proofs.YtljaoopfomcaoaaGreatDoor
