/-
  The walk of the package's mergeMaps.
-/
import Derived.Test.YtljaoopfomcaoaaGreatDoorVd
import Derived.Test.YtljaoopfomcaoaaGreatDoorMa
set_option linter.unusedVariables false
set_option linter.unusedSimpArgs false
namespace Go.Proofs.YtljaoopfomcaoaaGreatDoor
open Go.RowKit

theorem isT_table {j : J} (h : isT j = true) : ∃ t, j = .table t := by
  cases j <;> simp [isT] at h
  exact ⟨_, rfl⟩

theorem mergedAt_plain {a : T} {k : K} {j : J} (h : isT j = false) : mergedAt a k j = j := by
  cases j <;> first | rfl | simp [isT] at h

theorem mergedAt_none {a : T} {k : K} {j : J} (h : get a k = none) : mergedAt a k j = j := by
  cases j <;> simp [mergedAt, h]

theorem mergedAt_other {a : T} {k : K} {j x : J} (h : get a k = some x) (hx : isT x = false) : mergedAt a k j = j := by
  cases j <;> simp only [mergedAt, h]
  cases x <;> first | rfl | simp [isT] at hx

/-- What lay there before, and what is newer than block r. -/
abbrev okN (ok : Nat → Prop) (w : World) (r : Nat) : Nat → Prop := fun x => okB ok w x ∨ r < x

theorem AnyJ.old {ok : Nat → Prop} {w wr : World} {v : Value} {j : J} (h : AnyJ ok w v j) (hc : Chg No w wr) (g : Nat) : AnyJ (okN ok w g) wr v j :=
  ((h.mono (ok' := okB ok w) (fun b hb hb2 => ⟨hb2, hb⟩)).chg hc (fun _ _ e => e)).mono (fun b _ hb2 => .inl hb2)

theorem AnyJ.bel {ok : Nat → Prop} {w : World} {v : Value} {j : J} (h : AnyJ ok w v j) : AnyJ (okB ok w) w v j := h.mono (fun b hb hb2 => ⟨hb2, hb⟩)

/-- A table among interfaces. -/
structure TabB (ok : Nat → Prop) (w : World) (b n : Nat) (f : K → Option Value) (kvs : T) : Prop where
  map : MapB w b n f
  own : ok b
  dom : ∀ k, (f k).isSome = (get kvs k).isSome
  val : ∀ (k : K) (u : Value) (x : J), f k = some u → get kvs k = some x → AnyJ ok w u x

theorem AnyJ.tab {ok : Nat → Prop} {w : World} {v : Value} {kvs : T} (h : AnyJ ok w v (.table kvs)) : ∃ b n f, v = .iface 67 (.map (some b)) ∧ TabB ok w b n f kvs := by
  cases h with
  | table h1 h2 h3 h4 => exact ⟨_, _, _, rfl, h1, h2, h3, h4⟩

theorem TabB.any {ok : Nat → Prop} {w : World} {b n : Nat} {f : K → Option Value} {kvs : T} (h : TabB ok w b n f kvs) : AnyJ ok w (.iface 67 (.map (some b))) (.table kvs) :=
  AnyJ.table h.map h.own h.dom h.val

theorem TabB.fit {ok : Nat → Prop} {w : World} {b n : Nat} {f : K → Option Value} {kvs : T} (h : TabB ok w b n f kvs) : TabB ok w b kvs.length f kvs := ⟨h.map.fit h.dom, h.own, h.dom, h.val⟩

theorem TabB.some {ok : Nat → Prop} {w : World} {b n : Nat} {f : K → Option Value} {kvs : T} (h : TabB ok w b n f kvs) {k : K} {u : Value} (hf : f k = some u) : ∃ x, get kvs k = some x ∧ AnyJ ok w u x := by
  have h1 := h.dom k
  rw [hf] at h1
  cases hx : get kvs k with
  | none => rw [hx] at h1; cases h1
  | some x => exact ⟨x, rfl, h.val k u x hf hx⟩

theorem TabB.none {ok : Nat → Prop} {w : World} {b n : Nat} {f : K → Option Value} {kvs : T} (h : TabB ok w b n f kvs) {k : K} (hf : f k = none) : get kvs k = none := by
  have h1 := h.dom k
  rw [hf] at h1
  cases hx : get kvs k with
  | none => rfl
  | some x => rw [hx] at h1; cases h1

/-- The second loop under way. -/
structure MM (ok : Nat → Prop) (w : World) (a b : T) (fa fb : K → Option Value) (bb g r na nb : Nat) (wx : World) (left : K → Bool) (cnt no : Nat) (fo : K → Option Value) : Prop where
  rng : RangeB wx bb r nb fb left cnt
  num : no + cnt ≤ na + nb
  out : MapB wx g no fo
  hit : ∀ k j, left k = false → get b k = some j → ∃ u, fo k = some u ∧ AnyJ (okN ok w r) wx u (mergedAt a k j)
  miss : ∀ k, (left k = true ∨ get b k = Option.none) → fo k = fa k
  chg : Chg No w wx
  gr : g < r
  wg : w.heap.size ≤ g

theorem MM.step {ok : Nat → Prop} {w : World} {a b : T} {fa fb : K → Option Value} {bb g r na nb : Nat} {wx w2 : World} {left : K → Bool} {cnt no cnt' : Nat} {fo : K → Option Value} (h : MM ok w a b fa fb bb g r na nb wx left cnt no fo)
    {k : K} {u : Value} {j : J} (hrg : RangeB w2 bb r nb fb (fun z => left z && !(z == k)) cnt') (hlt : cnt' < cnt) (hout : MapB w2 g (no + 1) (fun z => if z = k then some u else fo z)) (hc : Chg (fun x => x = g ∨ x = r) wx w2)
    (hj : get b k = some j) (hv : AnyJ (okN ok w r) w2 u (mergedAt a k j)) : MM ok w a b fa fb bb g r na nb w2 (fun z => left z && !(z == k)) cnt' (no + 1) (fun z => if z = k then some u else fo z) := by
  have hgr := h.gr
  have hwg := h.wg
  refine ⟨hrg, by have := h.num; omega, hout, fun k' j' hl hb => ?_, fun k' hk => ?_, h.chg.trans hc (fun i hi e => by omega), hgr, hwg⟩
  · by_cases e : k' = k
    · subst e
      rw [hj] at hb
      cases hb
      exact ⟨u, if_pos rfl, hv⟩
    · have hl' : left k' = false := by simpa [e] using hl
      obtain ⟨u', h1, h2⟩ := h.hit k' j' hl' hb
      refine ⟨u', by simp only [if_neg e]; exact h1, h2.keep hc (fun x _ hx e2 => ?_)⟩
      rcases hx with hx | hx
      · have := hx.2; omega
      · omega
  · have e : k' ≠ k := by
      rintro rfl
      rcases hk with hk | hk
      · simp at hk
      · rw [hj] at hk; cases hk
    simp only [if_neg e]
    refine h.miss k' ?_
    rcases hk with hk | hk
    · exact .inl (by simpa [e] using hk)
    · exact .inr hk

theorem MM.done {ok : Nat → Prop} {w : World} {a b : T} {fa fb : K → Option Value} {ba bb g r na nb : Nat} {wx : World} {left : K → Bool} {cnt no : Nat} {fo : K → Option Value} (h : MM ok w a b fa fb bb g r na nb wx left cnt no fo) (hl : ∀ k, left k = false)
    (ha : TabB ok w ba na fa a) : AnyJ (fun x => ok x ∨ w.heap.size ≤ x) wx (.iface 67 (.map (some g))) (.table (merged a b)) := by
  have hgr := h.gr
  have hwg := h.wg
  refine .table h.out (.inr hwg) (fun k => ?_) (fun k u x hf hg => ?_)
  · rw [get_mergedAt]
    cases hb : get b k with
    | none => simp only; rw [h.miss k (.inr hb), ha.dom]
    | some j =>
      obtain ⟨u, h1, -⟩ := h.hit k j (hl k) hb
      simp only; rw [h1]; rfl
  · rw [get_mergedAt] at hg
    cases hb : get b k with
    | none =>
      rw [hb] at hg
      rw [h.miss k (.inr hb)] at hf
      exact ((ha.val k u x hf hg).keep h.chg (fun _ _ _ e => e)).mono (fun _ _ e => .inl e)
    | some j =>
      obtain ⟨u', h1, h2⟩ := h.hit k j (hl k) hb
      rw [hb] at hg
      rw [hf] at h1
      cases h1
      cases hg
      refine h2.mono (fun y _ hy => ?_)
      rcases hy with hy | hy
      · exact .inl hy.1
      · exact .inr (by omega)

/-- mergeMaps' outcome. -/
def MergedPost (ok : Nat → Prop) (w : World) (j : J) (e : Ending) (w' : World) : Prop :=
  ∃ r, e = .returned (.map (some r)) ∧ AnyJ (fun x => ok x ∨ w.heap.size ≤ x) w' (.iface 67 (.map (some r))) j ∧ Chg No w w'

set_option maxRecDepth 100000 in
set_option maxHeartbeats 1000000 in
theorem mergeMaps_any (n m : Nat) (hnm : n + m < 1099511627776) (d : Nat) : ∀ (ok : Nat → Prop) (a b : T) (va vb : Value) (w : World), AnyJ ok w (.iface 67 va) (.table a) → AnyJ ok w (.iface 67 vb) (.table b) → Wf n d (.table a) → Wf m d (.table b) →
    Calls Tryz.prog 95 #[va, vb] w (MergedPost ok w (.table (merged a b))) := by
  induction d with
  | zero => intro ok a b va vb w _ _ h; exact h.elim
  | succ d ih =>
    intro ok a b va vb w ha hb wa wb
    obtain ⟨ba, na, fa, ea, ta⟩ := ha.tab
    obtain ⟨bb, nb, fb, eb, tb⟩ := hb.tab
    cases ea
    cases eb
    replace ta := ta.fit
    replace tb := tb.fit
    obtain ⟨na, hna⟩ : ∃ na, na = a.length := ⟨_, rfl⟩
    obtain ⟨nb, hnb⟩ : ∃ nb, nb = b.length := ⟨_, rfl⟩
    rw [← hna] at ta
    rw [← hnb] at tb
    have HN := Lib.hid (show na + nb < 1099511627776 by have h1 := wa.2.1; have h2 := wb.2.1; omega)
    clear hna hnb
    have HA := Lib.hid ta
    have HB := Lib.hid tb
    have WA := Lib.hid wa
    have WB := Lib.hid wb
    have IH := Lib.hid ih
    have hma := ta.map
    have hla := hma.lt
    have hlb := tb.map.lt
    clear ha hb wa wb ih ta tb
    go_enter Tryz.func95, Tryz.ntmps95
    obtain ⟨g, hg⟩ : ∃ g, g = w.heap.size := ⟨_, rfl⟩
    obtain ⟨lc, -, hlen⟩ := hma.len
    have hmk := run_makeMap67
    go_wp2_with (first | (at_range; refine wpList_rangeB rfl rfl rfl (hma.alloc _) ?_; intro w0 cnt0 hrg0 hcn0 hc0 hs0; go_frame))
    have hgz : (w.alloc (.map #[] 0)).heap.size = g + 1 := by simp [hg]
    rw [hgz] at hrg0 hs0 ⊢
    rw [← hg] at hla hlb ⊢
    have HG := Lib.hid hg
    have HS0 := Lib.hid hs0
    have HC0 := Lib.hid hc0
    have hout0 : MapB w0 g 0 (fun _ => none) := by
      have h := MapB.made w
      rw [← hg] at h
      exact h.chg hc0 id
    clear hg hs0 hgz hc0 hlen
    go_loopw [6] (fun _ wr => ∃ (left : K → Bool) (cnt no : Nat) (fo : K → Option Value), RangeB wr ba (g + 1) na fa left cnt ∧ no + cnt ≤ na ∧ MapB wr g no fo ∧ (∀ k, fo k = if left k then none else fa k) ∧ Chg No w wr) (fun _ wr => wr.rangeLeft ba (g + 1))
    case atStart =>
      refine ⟨_, _, 0, _, hrg0, by omega, hout0, fun k => ?_, ((Chg.refl No w).alloc _).trans' HC0.out⟩
      cases h : fa k <;> simp
    case round =>
      obtain ⟨left, cnt, no, fo, hrg, hcs, hout, hA, hcw⟩ := hrel
      have HA2 := Lib.hid hA
      have HCW := Lib.hid hcw
      clear hA hcw hrg0 hout0 hcn0 hma
      go_wp2_with (first | (at_next; refine wpList_nextB rfl rfl rfl hrg ?_ ?_))
      · intro hc0 hl0
        have hfo : fo = fa := funext fun k => by rw [HA2.out, hl0]; rfl
        subst hfo
        have hmb := HB.out.map.chg HCW.out id
        have hgl := hrg.lt
        clear hl0 HA2
        go_wp2_with (first | (at_range; refine wpList_rangeB rfl rfl rfl hmb ?_; intro wq cnt2 hrg2 hcn2 hcq hsq; go_frame))
        obtain ⟨r2, hr2⟩ : ∃ r2, r2 = wr.heap.size := ⟨_, rfl⟩
        rw [← hr2] at hrg2 ⊢
        have HMM0 := Lib.hid (show MM ok w a b fo fb bb g r2 na nb wq (fun k => (fb k).isSome) cnt2 no fo from
          ⟨hrg2, by omega, hout.chg hcq id, fun k j hl hb => (by
            have h := HB.out.dom k
            rw [hl, hb] at h
            cases h), fun k _ => rfl, HCW.out.trans' hcq, by omega, by have := HG.out; omega⟩)
        have HR2 := Lib.hid hr2
        clear hrg2 hcn2 hcq hsq hout hrg hcs hmb hr2
        go_loopw [8] (fun _ wx => ∃ (left : K → Bool) (cnt no : Nat) (fo2 : K → Option Value), MM ok w a b fo fb bb g r2 na nb wx left cnt no fo2 ∧ r2 < wx.heap.size) (fun _ wx => wx.rangeLeft bb r2)
        case atStart => exact ⟨_, _, _, _, HMM0.out, HMM0.out.rng.lt⟩
        case round =>
          obtain ⟨left, cnt, no, fo2, hmm, hrl⟩ := hrel
          have HMM := Lib.hid hmm
          have hrg := hmm.rng
          clear hmm HMM0
          go_wp2_with (first | (at_next; refine wpList_nextB rfl rfl rfl hrg ?_ ?_))
          · intro hc2 hl2
            have HL2 := Lib.hid hl2
            clear hl2
            go_wp2
            go_ret
            exact ⟨g, rfl, HMM.out.done HL2.out HA.out, HMM.out.chg⟩
          · intro k v w1 cnt1 hk hlk hfv hrg1 hlt hc1 hs1 hen
            obtain ⟨j, hgj, haj⟩ := HB.out.some hfv
            have HK := Lib.hid hk
            have HLK := Lib.hid hlk
            have HJ := Lib.hid hgj
            have HV := Lib.hid haj
            have HLT := Lib.hid hlt
            have HC1 := Lib.hid hc1
            have HS1 := Lib.hid hs1
            have HRG1 := Lib.hid hrg1
            clear hk hlk hfv hgj haj hlt hc1 hs1 hrg1
            have hnz : no < maxLen := by
              have h1 := HMM.out.num
              have h2 := HN.out
              unfold maxLen
              have h3 := HLT.out
              omega
            have hmz := HMM.out.out.chg HC1.out (by have := HMM.out.gr; omega)
            have hcz : Chg (fun x => x = g ∨ x = r2) wr w1 := HC1.out.mono (fun i _ e => .inr e)
            have HFO := Lib.hid (HMM.out.miss k (.inl HLK.out))
            have HVW := Lib.hid (HV.out.old (HMM.out.chg.trans HC1.out (fun i hi e => by have := HMM.out.gr; have := HMM.out.wg; omega)) r2)
            by_cases hj : isT j = true
            · obtain ⟨y, rfl⟩ := isT_table hj
              obtain ⟨by_, ny, fy, rfl, HTY⟩ := HV.out.tab
              have HTY := Lib.hid HTY
              clear hj
              have has : ∀ z, (Instr.typeAssert (.iface 67 (.map (some by_))) 20 67 true).run Tryz.prog z = .ok (.tuple #[.map (some by_), .bool true]) z := fun z => run_assert67 HV.out.any0
              cases hfa : fo k with
              | none =>
                have hga := HA.out.none hfa
                have hval : AnyJ (okN ok w r2) w1 (.iface 67 (.map (some by_))) (mergedAt a k (.table y)) := by rw [mergedAt_none hga]; exact HVW.out
                have hf := HFO.out
                rw [hfa] at hf
                have HF := Lib.hid hf
                have hrz := HRG1.out
                clear hga hf
                go_upto_region 16 with (first | (at_lookup; refine wpList_lookB rfl rfl rfl hmz rfl HK.out ?_; rw [HF.out]; go_frame))
                have HVAL := Lib.hid hval
                have HCZ := Lib.hid hcz
                have HRZ := Lib.hid hrz
                clear hval hcz hrz
                go_wp2_with (first | (at_mapUpdate; refine wpList_putB (u := .iface 67 (.map (some by_))) rfl rfl rfl hmz hnz rfl HK.out rfl ?_; intro w3 hm3 hc3 hs3; go_frame))
                have HC3 := Lib.hid hc3
                have HM3 := Lib.hid hm3
                clear hc3 hm3 hmz
                have hbl := HB.out.map.lt
                have hwg := HMM.out.wg
                have hgr := HMM.out.gr
                have hrg3 := HRZ.out.chg HC3.out (by omega) (by omega)
                go_roundw
                case rel =>
                  refine ⟨_, _, _, _, HMM.out.step hrg3 HLT.out HM3.out (HCZ.out.trans HC3.out (fun i _ e => .inl e)) HJ.out (HVAL.out.keep HC3.out (fun x _ hx e => ?_)), by have := HCZ.out.size; omega⟩
                  rcases hx with hx | hx
                  · have := hx.2; omega
                  · omega
                case measure => rw [hrg3.left_eq, HMM.out.rng.left_eq]; exact HLT.out
              | some u =>
                obtain ⟨x, hgx, hax⟩ := HA.out.some hfa
                have HX := Lib.hid hax
                have HGX := Lib.hid hgx
                have hf := HFO.out
                rw [hfa] at hf
                have HF := Lib.hid hf
                have hrz := HRG1.out
                clear hax hgx hf
                by_cases hx : isT x = true
                · obtain ⟨xt, rfl⟩ := isT_table hx
                  obtain ⟨bx, nx, fx, rfl, HTX⟩ := HX.out.tab
                  have HTX := Lib.hid HTX
                  clear hx
                  have has2 : ∀ z, (Instr.typeAssert (.iface 67 (.map (some bx))) 20 67 true).run Tryz.prog z = .ok (.tuple #[.map (some bx), .bool true]) z := fun z => run_assert67 HX.out.any0
                  go_wp2_with (first | (at_lookup; refine wpList_lookB rfl rfl rfl hmz rfl HK.out ?_; rw [HF.out]; go_frame))
                  have HCW1 := Lib.hid (show Chg No w w1 from HMM.out.chg.trans HC1.out (fun i hi e => by have := HMM.out.gr; have := HMM.out.wg; omega))
                  have HS2 := Lib.hid (show r2 < w1.heap.size by have := HS1.out; omega)
                  refine (IH.out (okB ok w) xt y _ _ _ (HX.out.bel.chg HCW1.out (fun _ _ e => e)) (HV.out.bel.chg HCW1.out (fun _ _ e => e)) (WA.out.get HGX.out).2 (WB.out.get HJ.out).2).mono ?_
                  rintro e w2 ⟨rn, rfl, hva, hc2⟩
                  have hval : AnyJ (okN ok w r2) w2 (.iface 67 (.map (some rn))) (mergedAt a k (.table y)) := by
                    rw [show mergedAt a k (.table y) = .table (merged xt y) by simp only [mergedAt, HGX.out]]
                    refine hva.mono (fun z _ hz => ?_)
                    rcases hz with hz | hz
                    · exact .inl hz
                    · exact .inr (by have := HS2.out; omega)
                  replace hmz := hmz.chg hc2 id
                  replace hcz := hcz.trans' hc2
                  replace hrz := hrz.chg hc2 id id
                  clear hva hc2
                  have HVAL := Lib.hid hval
                  have HCZ := Lib.hid hcz
                  have HRZ := Lib.hid hrz
                  clear hval hcz hrz
                  go_wp2_with (first | (at_mapUpdate; refine wpList_putB (u := .iface 67 (.map (some rn))) rfl rfl rfl hmz hnz rfl HK.out rfl ?_; intro w3 hm3 hc3 hs3; go_frame))
                  have HC3 := Lib.hid hc3
                  have HM3 := Lib.hid hm3
                  clear hc3 hm3 hmz
                  have hbl := HB.out.map.lt
                  have hwg := HMM.out.wg
                  have hgr := HMM.out.gr
                  have hrg3 := HRZ.out.chg HC3.out (by omega) (by omega)
                  go_roundw
                  case rel =>
                    refine ⟨_, _, _, _, HMM.out.step hrg3 HLT.out HM3.out (HCZ.out.trans HC3.out (fun i _ e => .inl e)) HJ.out (HVAL.out.keep HC3.out (fun x _ hx e => ?_)), by have := HCZ.out.size; omega⟩
                    rcases hx with hx | hx
                    · have := hx.2; omega
                    · omega
                  case measure => rw [hrg3.left_eq, HMM.out.rng.left_eq]; exact HLT.out
                · have hx' : isT x = false := by simpa using hx
                  have hval : AnyJ (okN ok w r2) w1 (.iface 67 (.map (some by_))) (mergedAt a k (.table y)) := by rw [mergedAt_other HGX.out hx']; exact HVW.out
                  have has2 : ∀ z, (Instr.typeAssert u 20 67 true).run Tryz.prog z = .ok (.tuple #[mapOf u, .bool false]) z := fun z => hx' ▸ run_assert67 HX.out.any0
                  go_upto_region 16 with (first | (at_lookup; refine wpList_lookB rfl rfl rfl hmz rfl HK.out ?_; rw [HF.out]; go_frame))
                  have HVAL := Lib.hid hval
                  have HCZ := Lib.hid hcz
                  have HRZ := Lib.hid hrz
                  clear hval hcz hrz
                  go_wp2_with (first | (at_mapUpdate; refine wpList_putB (u := .iface 67 (.map (some by_))) rfl rfl rfl hmz hnz rfl HK.out rfl ?_; intro w3 hm3 hc3 hs3; go_frame))
                  have HC3 := Lib.hid hc3
                  have HM3 := Lib.hid hm3
                  clear hc3 hm3 hmz
                  have hbl := HB.out.map.lt
                  have hwg := HMM.out.wg
                  have hgr := HMM.out.gr
                  have hrg3 := HRZ.out.chg HC3.out (by omega) (by omega)
                  go_roundw
                  case rel =>
                    refine ⟨_, _, _, _, HMM.out.step hrg3 HLT.out HM3.out (HCZ.out.trans HC3.out (fun i _ e => .inl e)) HJ.out (HVAL.out.keep HC3.out (fun x _ hx e => ?_)), by have := HCZ.out.size; omega⟩
                    rcases hx with hx | hx
                    · have := hx.2; omega
                    · omega
                  case measure => rw [hrg3.left_eq, HMM.out.rng.left_eq]; exact HLT.out
            · have hj' : isT j = false := by simpa using hj
              have hval : AnyJ (okN ok w r2) w1 v (mergedAt a k j) := by rw [mergedAt_plain hj']; exact HVW.out
              have hrz := HRG1.out
              have has : ∀ z, (Instr.typeAssert v 20 67 true).run Tryz.prog z = .ok (.tuple #[mapOf v, .bool false]) z := fun z => hj' ▸ run_assert67 HV.out.any0
              clear hj
              go_upto_region 16 with fail
              have HVAL := Lib.hid hval
              have HCZ := Lib.hid hcz
              have HRZ := Lib.hid hrz
              clear hval hcz hrz
              go_wp2_with (first | (at_mapUpdate; refine wpList_putB (u := v) rfl rfl rfl hmz hnz rfl HK.out rfl ?_; intro w3 hm3 hc3 hs3; go_frame))
              have HC3 := Lib.hid hc3
              have HM3 := Lib.hid hm3
              clear hc3 hm3 hmz
              have hbl := HB.out.map.lt
              have hwg := HMM.out.wg
              have hgr := HMM.out.gr
              have hrg3 := HRZ.out.chg HC3.out (by omega) (by omega)
              go_roundw
              case rel =>
                refine ⟨_, _, _, _, HMM.out.step hrg3 HLT.out HM3.out (HCZ.out.trans HC3.out (fun i _ e => .inl e)) HJ.out (HVAL.out.keep HC3.out (fun x _ hx e => ?_)), by have := HCZ.out.size; omega⟩
                rcases hx with hx | hx
                · have := hx.2; omega
                · omega
              case measure => rw [hrg3.left_eq, HMM.out.rng.left_eq]; exact HLT.out
      · intro k v w1 cnt1 hk hlk hfv hrg1 hlt hc1 hs1 hen
        have hout1 := hout.chg hc1 (by omega)
        have HC1 := Lib.hid hc1
        have HS1 := Lib.hid hs1
        have HFV := Lib.hid hfv
        have HN1 := HN.out
        have hnz : no < maxLen := by unfold maxLen; omega
        clear hc1 hs1 hfv hlk
        go_wp2_with (first | (at_mapUpdate; refine wpList_putB (u := v) rfl rfl rfl hout1 hnz rfl hk rfl ?_; intro w2 hm2 hc2 hs2; go_frame))
        have hrg2 := hrg1.chg hc2 (by omega) (by omega)
        go_roundw
        case rel =>
          refine ⟨_, cnt1, _, _, hrg2, by omega, hm2, fun z => ?_, (HCW.out.trans HC1.out (fun i hi e => by have := HG.out; omega)).trans hc2 (fun i hi e => by have := HG.out; omega)⟩
          by_cases e : z = k
          · subst e; simp [HFV.out]
          · simp only [if_neg e, HA2.out]
            simp [e]
        case measure => rw [hrg2.left_eq, hrg.left_eq]; exact hlt

set_option maxRecDepth 100000 in
set_option maxHeartbeats 1000000 in
theorem mergeMaps_nil (n : Nat) (hnm : n < 1099511627776) (d : Nat) : ∀ (ok : Nat → Prop) (a : T) (va : Value) (w : World), AnyJ ok w (.iface 67 va) (.table a) → Wf n (d + 1) (.table a) →
    Calls Tryz.prog 95 #[va, .map none] w (MergedPost ok w (.table a)) := by
  intro ok a va w ha wa
  obtain ⟨ba, na, fa, ea, ta⟩ := ha.tab
  cases ea
  replace ta := ta.fit
  obtain ⟨na, hna⟩ : ∃ na, na = a.length := ⟨_, rfl⟩
  rw [← hna] at ta
  have HN := Lib.hid (show na < 1099511627776 by have h1 := wa.2.1; omega)
  clear hna
  have HA := Lib.hid ta
  have WA := Lib.hid wa
  have hma := ta.map
  have hla := hma.lt
  clear ha wa ta
  go_enter Tryz.func95, Tryz.ntmps95
  obtain ⟨g, hg⟩ : ∃ g, g = w.heap.size := ⟨_, rfl⟩
  obtain ⟨lc, -, hlen⟩ := hma.len
  have hmk := run_makeMap67
  go_wp2_with (first | (at_range; refine wpList_rangeB rfl rfl rfl (hma.alloc _) ?_; intro w0 cnt0 hrg0 hcn0 hc0 hs0; go_frame))
  have hgz : (w.alloc (.map #[] 0)).heap.size = g + 1 := by simp [hg]
  rw [hgz] at hrg0 hs0 ⊢
  rw [← hg] at hla ⊢
  have HG := Lib.hid hg
  have HS0 := Lib.hid hs0
  have HC0 := Lib.hid hc0
  have hout0 : MapB w0 g 0 (fun _ => none) := by
    have h := MapB.made w
    rw [← hg] at h
    exact h.chg hc0 id
  clear hg hs0 hgz hc0 hlen
  go_loopw [6] (fun _ wr => ∃ (left : K → Bool) (cnt no : Nat) (fo : K → Option Value), RangeB wr ba (g + 1) na fa left cnt ∧ no + cnt ≤ na ∧ MapB wr g no fo ∧ (∀ k, fo k = if left k then none else fa k) ∧ Chg No w wr) (fun _ wr => wr.rangeLeft ba (g + 1))
  case atStart =>
    refine ⟨_, _, 0, _, hrg0, by omega, hout0, fun k => ?_, ((Chg.refl No w).alloc _).trans' HC0.out⟩
    cases h : fa k <;> simp
  case round =>
    obtain ⟨left, cnt, no, fo, hrg, hcs, hout, hA, hcw⟩ := hrel
    have HA2 := Lib.hid hA
    have HCW := Lib.hid hcw
    clear hA hcw hrg0 hout0 hcn0 hma
    go_wp2_with (first | (at_next; refine wpList_nextB rfl rfl rfl hrg ?_ ?_))
    · intro hc0 hl0
      have hfo : fo = fa := funext fun k => by rw [HA2.out, hl0]; rfl
      subst hfo
      have hrgn := run_range_nilMap (P := Tryz.prog) wr 67 9 20 Tryz.underlying67
      have hnx : ∀ ty, (Instr.next (.pointer (some ⟨wr.heap.size, 0, none⟩)) false ty).run Tryz.prog (wr.alloc (.mapIter none 0 #[] 0)) = _ := fun ty => run_next_nilMap _ ty 0 0 #[]
      clear hl0 HA2
      go_wp2
      refine wp_loop_rounds 1 ?_
      rw [rounds_succ]
      go_wp2
      go_ret
      refine ⟨g, rfl, AnyJ.table (hout.alloc _) (.inr (by have := HG.out; omega)) HA.out.dom (fun k u x h1 h2 => ((HA.out.val k u x h1 h2).keep (HCW.out.alloc _) (fun _ _ _ e => e)).mono (fun _ _ e => .inl e)), HCW.out.alloc _⟩
    · intro k v w1 cnt1 hk hlk hfv hrg1 hlt hc1 hs1 hen
      have hout1 := hout.chg hc1 (by omega)
      have HC1 := Lib.hid hc1
      have HS1 := Lib.hid hs1
      have HFV := Lib.hid hfv
      have HN1 := HN.out
      have hnz : no < maxLen := by unfold maxLen; omega
      clear hc1 hs1 hfv hlk
      go_wp2_with (first | (at_mapUpdate; refine wpList_putB (u := v) rfl rfl rfl hout1 hnz rfl hk rfl ?_; intro w2 hm2 hc2 hs2; go_frame))
      have hrg2 := hrg1.chg hc2 (by omega) (by omega)
      go_roundw
      case rel =>
        refine ⟨_, cnt1, _, _, hrg2, by omega, hm2, fun z => ?_, (HCW.out.trans HC1.out (fun i hi e => by have := HG.out; omega)).trans hc2 (fun i hi e => by have := HG.out; omega)⟩
        by_cases e : z = k
        · subst e; simp [HFV.out]
        · simp only [if_neg e, HA2.out]
          simp [e]
      case measure => rw [hrg2.left_eq, hrg.left_eq]; exact hlt

end Go.Proofs.YtljaoopfomcaoaaGreatDoor
