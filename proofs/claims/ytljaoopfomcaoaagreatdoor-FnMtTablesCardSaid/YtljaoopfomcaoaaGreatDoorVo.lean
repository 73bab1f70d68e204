/-
  The walk of tbRight: what it lets in reads as a plain value.
-/
import Derived.Test.YtljaoopfomcaoaaGreatDoorFl
import Derived.BigQuiet
set_option linter.unusedVariables false
set_option linter.unusedSimpArgs false
namespace Go.Proofs.YtljaoopfomcaoaaGreatDoor
open Go.RowKit

/-- Seven cells as they come in: whatever they mean. -/
inductive RawV (ok : Nat → Prop) (w : World) : List Value → Prop where
  | mk {k : Int} {b : Bool} {i : Int} {f : Nat} {t : K} {kv lv : Value} {ks : List K} {rows : List (List Value)} (hk : RowAt ok w kv 1 (kRows ks)) (hks : ∀ x ∈ ks, kOk x) (hl : RowAt ok w lv 7 rows) (hr : ∀ r ∈ rows, RawV ok w r) : RawV ok w (cells7 k b i f t kv lv)

theorem RawV.chg {ok S : Nat → Prop} {w w' : World} {cs : List Value} (h : RawV ok w cs) (hc : Chg S w w') (hs : ∀ b, ok b → ¬ S b) : RawV ok w' cs := by
  induction h with
  | mk hk hks hl _ ih => exact .mk (hk.chg hc hs) hks (hl.chg hc hs) ih

theorem RawV.mono {ok ok' : Nat → Prop} {w : World} {cs : List Value} (h : RawV ok w cs) (hs : ∀ b, b < w.heap.size → ok b → ok' b) : RawV ok' w cs := by
  induction h with
  | mk hk hks hl _ ih => exact .mk (hk.mono hs (by decide)) hks (hl.mono hs (by decide)) ih

theorem RawV.seven {ok : Nat → Prop} {w : World} {cs : List Value} (h : RawV ok w cs) : cs.length = 7 ∧ cs.all (·.oneCell') = true := by
  cases h with
  | mk hk hks hl _ => exact ⟨rfl, cells7_one hk.one hl.one⟩

/-- tbRight's outcome. -/
def RightPost (ok : Nat → Prop) (cs : List Value) (w : World) (p c L : Nat) (e : Ending) (w' : World) : Prop :=
  ∃ r : Bool, e = .returned (.bool r) ∧ Chg (· = p) w w' ∧ (r = true → ∃ j, ValJ ok w' cs j ∧ Wf (sz j) L j ∧ sz j ≤ c ∧ Blk w' p [.int .i64 ((c - sz j : Nat) : Int)] 3)

/-- The elements under way. -/
structure RL (ok : Nat → Prop) (w : World) (p c L : Nat) (rows : List (List Value)) (W wr : World) (n : Nat) (js : List J) : Prop where
  le : n ≤ rows.length
  len : js.length = n
  val : ∀ (i : Nat) (r : List Value) (x : J), rows[i]? = some r → js[i]? = some x → ValJ (okB ok w) wr r x
  wf : ∀ x ∈ js, Wf (sz x) L x
  sz : 1 + szL js ≤ c
  chg : Chg (· = p) W wr
  cnt : Blk wr p [.int .i64 ((c - (1 + szL js) : Nat) : Int)] 3

theorem szL_append (a b : List J) : szL (a ++ b) = szL a + szL b := by
  induction a with
  | nil => simp [szL]
  | cons x r ih => simp [szL, ih]; omega

theorem szL_mem {xs : List J} {x : J} (h : x ∈ xs) : Go.Proofs.YtljaoopfomcaoaaGreatDoor.sz x ≤ szL xs := by
  induction xs with
  | nil => cases h
  | cons y r ih =>
    rcases List.mem_cons.1 h with rfl | h
    · simp [szL]
    · have := ih h; simp [szL]; omega

theorem szT_zip (ks : List K) (js : List J) (h : ks.length = js.length) : szT (ks.zip js) = szL js := by
  induction ks generalizing js with
  | nil => cases js with | nil => rfl | cons _ _ => cases h
  | cons k r ih => cases js with
    | nil => cases h
    | cons x s => simp [szT, szP, szL]; exact ih s (by simpa using h)

theorem drewN_chg {S : Nat → Prop} {a w : World} (h : Chg S a w) (n : Nat) : Chg S a (w.drewN n) := ⟨h.os, h.tape, h.output, h.size, h.block⟩

theorem pw_succ {ks : List K} {m : Nat} {x y : K} (h : (ks.take (m + 1)).Pairwise klt) (hx : ks[m]? = some x) (hy : ks[m + 1]? = some y) (hk : klt x y) : (ks.take (m + 1 + 1)).Pairwise klt := by
  rw [List.take_add_one, hy]
  refine List.pairwise_append.2 ⟨h, by simp, fun a ha b hb => ?_⟩
  have hb : b = y := by simpa using hb
  subst hb
  rw [List.take_add_one, hx] at h ha
  rcases List.mem_append.1 ha with ha | ha
  · exact klt_trans ((List.pairwise_append.1 h).2.2 a ha x (by simp)) hk
  · have ha : a = x := by simpa using ha
    subst ha
    exact hk

theorem RL.step {ok : Nat → Prop} {w : World} {p c L : Nat} {rows : List (List Value)} {W wr : World} {n : Nat} {js : List J} (h : RL ok w p c L rows W wr n js) {r : List Value} (hr : rows[n]? = some r) {j : J} (hnp : ¬ ok p) {w' : World} (hv : ValJ (okB ok w) w' r j) (hw : Wf (Go.Proofs.YtljaoopfomcaoaaGreatDoor.sz j) L j)
    (hs : Go.Proofs.YtljaoopfomcaoaaGreatDoor.sz j ≤ c - (1 + szL js)) (hc : Chg (· = p) wr w') (hb : Blk w' p [.int .i64 ((c - (1 + szL js) - Go.Proofs.YtljaoopfomcaoaaGreatDoor.sz j : Nat) : Int)] 3) : RL ok w p c L rows W w' (n + 1) (js ++ [j]) := by
  have hlt : n < rows.length := (List.getElem?_eq_some_iff.1 hr).1
  have h1 := h.sz
  have hsa : szL (js ++ [j]) = szL js + Go.Proofs.YtljaoopfomcaoaaGreatDoor.sz j := by rw [szL_append]; simp [szL]
  refine ⟨hlt, by simp [h.len], fun i r' x hi hx => ?_, fun x hx => ?_, by rw [hsa]; omega, h.chg.trans hc (fun i _ e => e), by rw [hsa, show c - (1 + (szL js + Go.Proofs.YtljaoopfomcaoaaGreatDoor.sz j)) = c - (1 + szL js) - Go.Proofs.YtljaoopfomcaoaaGreatDoor.sz j by omega]; exact hb⟩
  · by_cases hi2 : i < js.length
    · rw [List.getElem?_append_left hi2] at hx
      exact (h.val i r' x hi hx).chg hc (fun b hb e => hnp (e ▸ hb.1))
    · have : i = js.length := by
        have := (List.getElem?_eq_some_iff.1 hx).1
        simp at this
        omega
      subst this
      rw [List.getElem?_append_right (Nat.le_refl _), Nat.sub_self] at hx
      cases hx
      rw [h.len, hr] at hi
      cases hi
      exact hv
  · rcases List.mem_append.1 hx with hx | hx
    · exact h.wf x hx
    · rw [List.mem_singleton.1 hx]; exact hw

set_option maxRecDepth 100000 in
set_option maxHeartbeats 8000000 in
theorem tbRight_any (L : Nat) : ∀ (ok : Nat → Prop) (cs : List Value) (w : World) (p c : Nat), RawV ok w cs → Blk w p [.int .i64 (c : Int)] 3 → ¬ ok p → c ≤ 1099511627776 → L ≤ 4000 →
    Calls Tryz.prog 56 #[.agg cs.toArray, .int .i64 (L : Int), .pointer (some ⟨p, 0, none⟩)] w (RightPost ok cs w p c L) := by
  induction L with
  | zero =>
    intro ok cs w p c h hp hnp hc hL
    have HRAW := Lib.hid h
    cases h with
    | @mk k b i f t kv lv ks rows hk hks hl hr =>
      have HKR := Lib.hid hk
      have hk1 := hk.1
      have hl1 := hl.1
      have hc0 : (c : Int) ≤ 1099511627776 := by omega
      clear hr
      obtain ⟨-, -, ka, kc, rfl, -, -⟩ := hk
      obtain ⟨-, -, la, lc, rfl, -, -⟩ := hl
      simp only [kRows, List.length_map] at HKR hk1 HRAW
      unfold maxLen at hk1 hl1
      have hpc : w.cell? ⟨p, 0, none⟩ = some (.int .i64 (c : Int)) := hp.cell 0
      have hpf := hp.frozen 0
      have hpl := hp.lt
      have HP := Lib.hid hp
      have hfacts : ∀ W, ((w.setCell ⟨p, 0, none⟩ (.int .i64 ((c : Int) - 1))).alloc (.cells (cells7 k b i f t (.slice ka ks.length kc) (.slice la rows.length lc)).toArray 26)) = W →
          Blk W p [.int .i64 ((c : Int) - 1)] 3 ∧ Chg (· = p) w W ∧ Blk W w.heap.size (cells7 k b i f t (.slice ka ks.length kc) (.slice la rows.length lc)) 26 := by
        rintro W rfl
        obtain ⟨h1, h2, h3⟩ := HP.out.setCell 0 (.int .i64 ((c : Int) - 1))
        refine ⟨h1.alloc _, h2.alloc _, ?_⟩
        have h4 := Blk.new (w.setCell ⟨p, 0, none⟩ (.int .i64 ((c : Int) - 1))) (cells7 k b i f t (.slice ka ks.length kc) (.slice la rows.length lc)) 26
        rwa [h3] at h4
      have HF := Lib.hid hfacts
      clear hfacts hp
      go_enter Tryz.func56, Tryz.ntmps56
      unfold cells7
      go_upto_region 2 with fail
      generalize hgw : World.alloc _ _ = W
      obtain ⟨b1, c1, bx⟩ := HF.out W hgw
      clear hgw HF
      have HB1 := Lib.hid b1
      have HCS := Lib.hid c1
      have HBX := Lib.hid bx
      have q0 : W.cell? ⟨p, 0, none⟩ = some (.int .i64 ((c : Int) - 1)) := b1.cell 0
      have k0 : W.cell? ⟨w.heap.size, 0, none⟩ = some (.int .i64 k) := bx.cell 0
      have k3 : W.cell? ⟨w.heap.size, 3, none⟩ = some (.float .f64 f) := bx.cell 3
      have k5 : W.cell? ⟨w.heap.size, 5, none⟩ = some (.slice ka ks.length kc) := bx.cell 5
      have k6 : W.cell? ⟨w.heap.size, 6, none⟩ = some (.slice la rows.length lc) := bx.cell 6
      clear b1 c1 bx hpc hpf
      by_cases h0 : (c : Int) - 1 < 0
      · go_wp2
        go_ret
        exact ⟨false, rfl, HCS.out, fun h => by cases h⟩
      · go_wp2
        go_ret
        exact ⟨false, rfl, HCS.out, fun h => by cases h⟩
  | succ L ih =>
    intro ok cs w p c h hp hnp hc hL
    have HRAW := Lib.hid h
    have IH := Lib.hid ih
    cases h with
    | @mk k b i f t kv lv ks rows hk hks hl hr =>
      have HKR := Lib.hid hk
      have HLR := Lib.hid hl
      have HRR := Lib.hid hr
      have HKS := Lib.hid hks
      have HNP := Lib.hid hnp
      have HC := Lib.hid hc
      have HL := Lib.hid hL
      have hk1 := hk.1
      have hl1 := hl.1
      have hc0 : (c : Int) ≤ 1099511627776 := by omega
      have hL1 : ¬ (((L + 1 : Nat) : Int)) < 1 := by omega
      clear hr hks hnp ih hL hc
      obtain ⟨-, -, ka, kc, rfl, -, -⟩ := hk
      obtain ⟨-, -, la, lc, rfl, -, -⟩ := hl
      simp only [kRows, List.length_map] at HKR hk1 HRAW
      unfold maxLen at hk1 hl1
      have hpc : w.cell? ⟨p, 0, none⟩ = some (.int .i64 (c : Int)) := hp.cell 0
      have hpf := hp.frozen 0
      have hpl := hp.lt
      have HP := Lib.hid hp
      have hfacts : ∀ W, ((w.setCell ⟨p, 0, none⟩ (.int .i64 ((c : Int) - 1))).alloc (.cells (cells7 k b i f t (.slice ka ks.length kc) (.slice la rows.length lc)).toArray 26)) = W →
          Blk W p [.int .i64 ((c : Int) - 1)] 3 ∧ Chg (· = p) w W ∧ Blk W w.heap.size (cells7 k b i f t (.slice ka ks.length kc) (.slice la rows.length lc)) 26 := by
        rintro W rfl
        obtain ⟨h1, h2, h3⟩ := HP.out.setCell 0 (.int .i64 ((c : Int) - 1))
        refine ⟨h1.alloc _, h2.alloc _, ?_⟩
        have h4 := Blk.new (w.setCell ⟨p, 0, none⟩ (.int .i64 ((c : Int) - 1))) (cells7 k b i f t (.slice ka ks.length kc) (.slice la rows.length lc)) 26
        rwa [h3] at h4
      have HF := Lib.hid hfacts
      clear hfacts hp
      go_enter Tryz.func56, Tryz.ntmps56
      unfold cells7
      go_upto_region 2 with fail
      generalize hgw : World.alloc _ _ = W
      obtain ⟨b1, c1, bx⟩ := HF.out W hgw
      clear hgw HF
      have HB1 := Lib.hid b1
      have HCS := Lib.hid c1
      have HBX := Lib.hid bx
      have q0 : W.cell? ⟨p, 0, none⟩ = some (.int .i64 ((c : Int) - 1)) := b1.cell 0
      have k0 : W.cell? ⟨w.heap.size, 0, none⟩ = some (.int .i64 k) := bx.cell 0
      have k3 : W.cell? ⟨w.heap.size, 3, none⟩ = some (.float .f64 f) := bx.cell 3
      have k5 : W.cell? ⟨w.heap.size, 5, none⟩ = some (.slice ka ks.length kc) := bx.cell 5
      have k6 : W.cell? ⟨w.heap.size, 6, none⟩ = some (.slice la rows.length lc) := bx.cell 6
      clear b1 c1 bx hpc hpf
      by_cases h0 : (c : Int) - 1 < 0
      · go_wp2
        go_ret
        exact ⟨false, rfl, HCS.out, fun h => by cases h⟩
      have HC1 := Lib.hid (show 1 ≤ c by omega)
      have HBN := Lib.hid (show Blk W p [.int .i64 ((c - 1 : Nat) : Int)] 3 by rw [Int.natCast_sub HC1.out]; exact HB1.out)
      by_cases k7 : k = 7
      · subst k7
        have s7 : (6 : Int) < 7 := by decide
        go_wp2_with fail
        clear q0 k0 k3 k5 k6 s7
        go_loopw [7] (fun ct wr => ∃ m : Nat, ct = .int .i64 ((m + 1 : Nat) : Int) ∧ (m + 1 ≤ ks.length ∨ m = 0) ∧ Chg No W wr ∧ (ks.take (m + 1)).Pairwise klt) (fun ct _ => ks.length - (intOf ct).toNat)
        case atStart => exact ⟨0, rfl, .inr rfl, Chg.refl _ _, by cases ks <;> simp⟩
        case round =>
          obtain ⟨m, rfl, hm, hcr, hpw⟩ := hrel
          have HCR := Lib.hid hcr
          have HPW := Lib.hid hpw
          have q5 : wr.cell? ⟨w.heap.size, 5, none⟩ = some (.slice ka ks.length kc) := (HBX.out.chg hcr id).cell 5
          clear hcr hpw
          by_cases hlt : m + 1 < ks.length
          · obtain ⟨x, hx⟩ : ∃ x, ks[m]? = some x := ⟨_, List.getElem?_eq_getElem (by omega)⟩
            obtain ⟨y, hy⟩ : ∃ y, ks[m + 1]? = some y := ⟨_, List.getElem?_eq_getElem hlt⟩
            obtain ⟨kb, ko, rfl, hkok, hka⟩ := HKR.out.at (i := m) (r := [.string x]) (by simp [kRows, hx])
            obtain ⟨kb', ko', he, -, hkb⟩ := HKR.out.at (i := m + 1) (r := [.string y]) (by simp [kRows, hy])
            cases he
            have hka := ((hka.chg HCS.out (fun e => HNP.out (e ▸ hkok))).chg HCR.out id).one
            have hkb := ((hkb.chg HCS.out (fun e => HNP.out (e ▸ hkok))).chg HCR.out id).one
            simp only [Nat.mul_one] at hka hkb
            have h64 : (m : Int) + 1 < (ks.length : Int) := by omega
            have HXY := Lib.hid (And.intro hx hy)
            clear hx hy hm
            by_cases hk : klt x y
            · have hbl : Op.bytesLess x.toList y.toList = true := by rw [bytesLess_klt]; simpa using hk
              have HK := Lib.hid hk
              clear hk
              go_upto_region 17 with fail
              go_quiet (fail)
              go_wp2_with fail
              go_roundw
              case rel => exact ⟨m + 1, by go_num, .inl (by omega), drewN_chg HCR.out _, pw_succ HPW.out HXY.out.1 HXY.out.2 HK.out⟩
              case measure => simp [intOf]; omega
            · have hbl : Op.bytesLess x.toList y.toList = false := by rw [bytesLess_klt]; simpa using hk
              clear hk
              go_upto_region 17 with fail
              go_quiet (fail)
              go_wp2
              go_ret
              exact ⟨false, rfl, drewN_chg (HCS.out.trans' HCR.out) _, fun h => by cases h⟩
          · have h64 : ¬ (m : Int) + 1 < (ks.length : Int) := by omega
            have q6 : wr.cell? ⟨w.heap.size, 6, none⟩ = some (.slice la rows.length lc) := (HBX.out.chg HCR.out id).cell 6
            have HPK := Lib.hid (show ks.Pairwise klt by have h := HPW.out; rwa [List.take_of_length_le (by omega)] at h)
            have HCV := Lib.hid (HCS.out.trans' HCR.out)
            have HBV := Lib.hid (show Blk wr p [.int .i64 ((c - (1 + szL []) : Nat) : Int)] 3 from HBN.out.chg HCR.out id)
            by_cases hkl : ks.length = rows.length
            · have HKL := Lib.hid hkl
              rw [hkl] at q5
              obtain ⟨V, hV⟩ : ∃ V, V = wr := ⟨_, rfl⟩
              rw [hkl] at h64
              clear hkl hm
              go_wp2_with fail
              rw [← hV] at HCV HBV
              clear q5 q6 HPW HCR
              rw [← hV]
              clear hV
              go_loopw [93] (fun ct wr => ∃ (n : Nat) (js : List J), ct = .int .i64 n ∧ RL ok w p c L rows V wr n js) (fun ct _ => rows.length - (intOf ct).toNat)
              case atStart =>
                exact ⟨0, [], rfl, Nat.zero_le _, rfl, fun i r x _ h => (by simp at h), fun x h => (by cases h), HC1.out, Chg.refl _ _, HBV.out⟩
              case round =>
                obtain ⟨n, js, rfl, hrl⟩ := hrel
                have HRL := Lib.hid hrl
                clear hrl
                by_cases hlt : n < rows.length
                · obtain ⟨r, hr0⟩ : ∃ r, rows[n]? = some r := ⟨_, List.getElem?_eq_getElem hlt⟩
                  obtain ⟨lb, lo, rfl, hlok, hlc⟩ := HLR.out.at (i := n) (r := r) hr0
                  have HLC := (hlc.chg HCV.out (fun e => HNP.out (e ▸ hlok))).chg HRL.out.chg (fun e => HNP.out (e ▸ hlok))
                  have hraw := HRR.out r (List.mem_of_getElem? hr0)
                  obtain ⟨hrl7, hro1⟩ := hraw.seven
                  have HRAWr := Lib.hid (((hraw.mono (ok' := okB ok w) (fun b hb h => ⟨h, hb⟩)).chg HCV.out (fun b hb e => HNP.out (e ▸ hb.1))).chg HRL.out.chg (fun b hb e => HNP.out (e ▸ hb.1)))
                  have h64 : (n : Int) < (rows.length : Int) := by omega
                  have hLb : (L : Int) ≤ 4000 := by have := HL.out; omega
                  have HR0 := Lib.hid hr0
                  clear hlc hraw hr0
                  go_wp2_with (first | (with_reducible refine wpList_loadAgg rfl agg26 rfl rfl HLC hrl7 ?_) | (with_reducible refine wpList_storeNew rfl agg26 rfl rfl rfl rfl hrl7 hro1 ?_) | (with_reducible refine wpList_loadAgg rfl agg26 rfl rfl (Blk.new wr r 26).cells hrl7 ?_))
                  refine (IH.out (okB ok w) r (wr.alloc (.cells r.toArray 26)) p (c - (1 + szL js)) (HRAWr.out.chg ((Chg.refl No wr).alloc _) (fun _ _ e => e)) (HRL.out.cnt.alloc _) (fun h => HNP.out h.1) (by have := HC.out; omega) (by have := HL.out; omega)).mono ?_
                  rintro e w4 ⟨rr, rfl, hc4, hpost⟩
                  have HC4 := Lib.hid (((Chg.refl (· = p) wr).alloc (.cells r.toArray 26)).trans hc4 (fun _ _ e => e))
                  have HPOST := Lib.hid hpost
                  clear hc4 hpost HLC hrl7 hro1
                  cases rr with
                  | false =>
                    go_wp2
                    go_ret
                    exact ⟨false, rfl, (HCV.out.trans HRL.out.chg (fun _ _ e => e)).trans HC4.out (fun _ _ e => e), fun h => by cases h⟩
                  | true =>
                    obtain ⟨j, hj1, hj2, hj3, hj4⟩ := HPOST.out rfl
                    have HSTEP := Lib.hid (HRL.out.step HR0.out HNP.out hj1 hj2 hj3 HC4.out hj4)
                    clear hj1 hj2 hj3 hj4
                    go_wp2_with fail
                    go_roundw
                    case rel => exact ⟨n + 1, _, by go_num, HSTEP.out⟩
                    case measure => simp [intOf]; omega
                · have hnl : n = rows.length := Nat.le_antisymm HRL.out.le (Nat.not_lt.1 hlt)
                  subst hnl
                  have hlen : ¬ ((rows.length : Nat) : Int) < (rows.length : Int) := by omega
                  go_wp2
                  go_ret
                  have hrl := HRL.out
                  have hLR := (HLR.out.chg HCV.out (fun b hb e => HNP.out (e ▸ hb))).chg hrl.chg (fun b hb e => HNP.out (e ▸ hb))
                  have hKR := (HKR.out.chg HCV.out (fun b hb e => HNP.out (e ▸ hb))).chg hrl.chg (fun b hb e => HNP.out (e ▸ hb))
                  have hzl : (ks.zip js).length = rows.length := by rw [List.length_zip, HKL.out, hrl.len]; exact Nat.min_self _
                  have hkj : ks.length = js.length := by rw [HKL.out, hrl.len]
                  have hmf : (ks.zip js).map (·.1) = ks := List.map_fst_zip (by omega)
                  have hsz : Go.Proofs.YtljaoopfomcaoaaGreatDoor.sz (.table (ks.zip js)) = 1 + szL js := by simp only [Go.Proofs.YtljaoopfomcaoaaGreatDoor.sz]; rw [szT_zip ks js hkj]
                  refine ⟨true, rfl, HCV.out.trans hrl.chg (fun _ _ e => e), fun _ => ⟨.table (ks.zip js), .table ?_ hLR hzl.symm (fun n r q h1 h2 => ?_), ⟨?_, ?_, fun q hq => ⟨?_, ?_⟩⟩, ?_, ?_⟩⟩
                  · have h1 := hKR
                    rw [← hmf] at h1
                    simpa [kRows, List.map_map, Function.comp_def, hzl, HKL.out] using h1
                  · obtain ⟨q1, q2⟩ := q
                    have h3 := (List.getElem?_zip_eq_some.1 h2).2
                    exact (hrl.val n r q2 h1 h3).mono (fun b _ hb => hb.1)
                  · have h1 := HPK.out
                    rw [← hmf] at h1
                    exact List.pairwise_map.1 h1
                  · rw [hzl, hsz, ← hrl.len]; have := szL_length js; omega
                  · exact HKS.out q.1 (by rw [← hmf]; exact List.mem_map_of_mem hq)
                  · have hq2 : q.2 ∈ js := by
                      have h1 := List.mem_map_of_mem (f := (·.2)) hq
                      rwa [List.map_snd_zip (by omega)] at h1
                    exact (hrl.wf q.2 hq2).mono (by have := szL_mem hq2; rw [hsz]; omega) (Nat.le_refl _)
                  · rw [hsz]; exact hrl.sz
                  · rw [hsz]; exact hrl.cnt
            · have hklb : ¬ (ks.length : Int) = (rows.length : Int) := by omega
              go_wp2
              go_ret
              exact ⟨false, rfl, HCV.out.mono (fun _ _ e => e), fun h => by cases h⟩
      · have k7b : (k != 7) = true := by simpa using k7
        by_cases s0 : ks.length = 0
        · have hks0 : ks = [] := List.eq_nil_of_length_eq_zero s0
          subst hks0
          have HK0 := Lib.hid ((show RowAt ok w (.slice ka 0 kc) 1 [] from HKR.out).chg HCS.out (fun b hb e => HNP.out (e ▸ hb)))
          simp only [List.length_nil] at k5 HBX HRAW
          by_cases e6 : k = 6
          · subst e6
            obtain ⟨V, hV⟩ : ∃ V, V = W := ⟨_, rfl⟩
            have HCV := Lib.hid (show Chg (· = p) w V by rw [hV]; exact HCS.out)
            have HBV := Lib.hid (show Blk V p [.int .i64 ((c - (1 + szL []) : Nat) : Int)] 3 by rw [hV]; exact HBN.out)
            clear s0
            go_wp2_with fail
            clear q0 k0 k3 k5 k6
            rw [← hV]
            clear hV
            go_loopw [93] (fun ct wr => ∃ (n : Nat) (js : List J), ct = .int .i64 n ∧ RL ok w p c L rows V wr n js) (fun ct _ => rows.length - (intOf ct).toNat)
            case atStart =>
              exact ⟨0, [], rfl, Nat.zero_le _, rfl, fun i r x _ h => (by simp at h), fun x h => (by cases h), HC1.out, Chg.refl _ _, HBV.out⟩
            case round =>
              obtain ⟨n, js, rfl, hrl⟩ := hrel
              have HRL := Lib.hid hrl
              clear hrl
              by_cases hlt : n < rows.length
              · obtain ⟨r, hr0⟩ : ∃ r, rows[n]? = some r := ⟨_, List.getElem?_eq_getElem hlt⟩
                obtain ⟨lb, lo, rfl, hlok, hlc⟩ := HLR.out.at (i := n) (r := r) hr0
                have HLC := (hlc.chg HCV.out (fun e => HNP.out (e ▸ hlok))).chg HRL.out.chg (fun e => HNP.out (e ▸ hlok))
                have hraw := HRR.out r (List.mem_of_getElem? hr0)
                obtain ⟨hrl7, hro1⟩ := hraw.seven
                have HRAWr := Lib.hid (((hraw.mono (ok' := okB ok w) (fun b hb h => ⟨h, hb⟩)).chg HCV.out (fun b hb e => HNP.out (e ▸ hb.1))).chg HRL.out.chg (fun b hb e => HNP.out (e ▸ hb.1)))
                have h64 : (n : Int) < (rows.length : Int) := by omega
                have hLb : (L : Int) ≤ 4000 := by have := HL.out; omega
                have HR0 := Lib.hid hr0
                clear hlc hraw hr0
                go_wp2_with (first | (with_reducible refine wpList_loadAgg rfl agg26 rfl rfl HLC hrl7 ?_) | (with_reducible refine wpList_storeNew rfl agg26 rfl rfl rfl rfl hrl7 hro1 ?_) | (with_reducible refine wpList_loadAgg rfl agg26 rfl rfl (Blk.new wr r 26).cells hrl7 ?_))
                refine (IH.out (okB ok w) r (wr.alloc (.cells r.toArray 26)) p (c - (1 + szL js)) (HRAWr.out.chg ((Chg.refl No wr).alloc _) (fun _ _ e => e)) (HRL.out.cnt.alloc _) (fun h => HNP.out h.1) (by have := HC.out; omega) (by have := HL.out; omega)).mono ?_
                rintro e w4 ⟨rr, rfl, hc4, hpost⟩
                have HC4 := Lib.hid (((Chg.refl (· = p) wr).alloc (.cells r.toArray 26)).trans hc4 (fun _ _ e => e))
                have HPOST := Lib.hid hpost
                clear hc4 hpost HLC hrl7 hro1
                cases rr with
                | false =>
                  go_wp2
                  go_ret
                  exact ⟨false, rfl, (HCV.out.trans HRL.out.chg (fun _ _ e => e)).trans HC4.out (fun _ _ e => e), fun h => by cases h⟩
                | true =>
                  obtain ⟨j, hj1, hj2, hj3, hj4⟩ := HPOST.out rfl
                  have HSTEP := Lib.hid (HRL.out.step HR0.out HNP.out hj1 hj2 hj3 HC4.out hj4)
                  clear hj1 hj2 hj3 hj4
                  go_wp2_with fail
                  go_roundw
                  case rel => exact ⟨n + 1, _, by go_num, HSTEP.out⟩
                  case measure => simp [intOf]; omega
              · have hnl : n = rows.length := Nat.le_antisymm HRL.out.le (Nat.not_lt.1 hlt)
                subst hnl
                have hlen : ¬ ((rows.length : Nat) : Int) < (rows.length : Int) := by omega
                go_wp2
                go_ret
                have hrl := HRL.out
                have hLR := (HLR.out.chg HCV.out (fun b hb e => HNP.out (e ▸ hb))).chg hrl.chg (fun b hb e => HNP.out (e ▸ hb))
                have hKR := (HKR.out.chg HCV.out (fun b hb e => HNP.out (e ▸ hb))).chg hrl.chg (fun b hb e => HNP.out (e ▸ hb))
                exact ⟨true, rfl, HCV.out.trans hrl.chg (fun _ _ e => e), fun _ => ⟨.list js, .list hKR hLR hrl.len.symm (fun n r x h1 h2 => (hrl.val n r x h1 h2).mono (fun b _ hb => hb.1)), ⟨by have := szL_length js; simp only [Go.Proofs.YtljaoopfomcaoaaGreatDoor.sz]; omega, fun x hx => (hrl.wf x hx).mono (by have := szL_mem hx; simp only [Go.Proofs.YtljaoopfomcaoaaGreatDoor.sz]; omega) (Nat.le_refl _)⟩, hrl.sz, hrl.cnt⟩⟩
          have e6b : (k == 6) = false := by simpa using e6
          by_cases r0 : rows.length = 0
          · have hr0 : rows = [] := List.eq_nil_of_length_eq_zero r0
            subst hr0
            have HL0 := Lib.hid ((show RowAt ok w (.slice la 0 lc) 7 [] from HLR.out).chg HCS.out (fun b hb e => HNP.out (e ▸ hb)))
            simp only [List.length_nil] at k6 HBX HRAW
            clear r0 s0
            by_cases k6' : k < 6
            · by_cases e0 : k = 0
              · subst e0
                go_wp2
                go_ret
                exact ⟨true, rfl, HCS.out, fun _ => ⟨.null, .null HK0.out HL0.out, trivial, HC1.out, HBN.out⟩⟩
              have e0b : (k == 0) = false := by simpa using e0
              by_cases e1 : k = 1
              · subst e1
                go_wp2
                go_ret
                exact ⟨true, rfl, HCS.out, fun _ => ⟨.bool b, .bool HK0.out HL0.out, trivial, HC1.out, HBN.out⟩⟩
              have e1b : (k == 1) = false := by simpa using e1
              by_cases e2 : k = 2
              · subst e2
                go_wp2
                go_ret
                exact ⟨true, rfl, HCS.out, fun _ => ⟨.int i, .int HK0.out HL0.out, trivial, HC1.out, HBN.out⟩⟩
              have e2b : (k == 2) = false := by simpa using e2
              by_cases e5 : k = 5
              · subst e5
                go_wp2
                go_ret
                exact ⟨true, rfl, HCS.out, fun _ => ⟨.text t, .text HK0.out HL0.out, trivial, HC1.out, HBN.out⟩⟩
              have e5b : (k == 5) = false := by simpa using e5
              by_cases e4 : k = 4
              · subst e4
                obtain ⟨r, w1, hrun, hw1, himp⟩ := float_self f W
                have HIMP := Lib.hid himp
                clear himp
                rcases hw1 with rfl | rfl
                · go_wp2
                  go_ret
                  exact ⟨_, rfl, HCS.out, fun h => ⟨.float f, .float HK0.out HL0.out, HIMP.out h, HC1.out, HBN.out⟩⟩
                · go_wp2
                  go_ret
                  exact ⟨_, rfl, HCS.out.drew, fun h => ⟨.float f, .float (HK0.out.chg ((Chg.refl No W).drew) (fun _ _ e => e)) (HL0.out.chg ((Chg.refl No W).drew) (fun _ _ e => e)), HIMP.out h, HC1.out, HBN.out.drew⟩⟩
              have e4b : (k == 4) = false := by simpa using e4
              have k7c : (k == 7) = false := by simpa using k7
              go_wp2
              go_ret
              exact ⟨false, rfl, HCS.out, fun h => by cases h⟩
            · go_wp2
              go_ret
              exact ⟨false, rfl, HCS.out, fun h => by cases h⟩
          · have r1 : (0 : Int) < (rows.length : Int) := by omega
            have r1n : 0 < rows.length := by omega
            have r1l : ¬ rows = [] := fun e => by rw [e] at r1n; exact absurd r1n (by decide)
            clear r0 s0
            by_cases k6' : k < 6
            · go_wp2
              go_ret
              exact ⟨false, rfl, HCS.out, fun h => by cases h⟩
            · go_wp2
              go_ret
              exact ⟨false, rfl, HCS.out, fun h => by cases h⟩
        · have s1 : (0 : Int) < (ks.length : Int) := by omega
          have s1n : 0 < ks.length := by omega
          have s1l : ¬ ks = [] := fun e => by rw [e] at s1n; exact absurd s1n (by decide)
          clear s0
          by_cases k6' : k < 6
          · by_cases r0 : rows.length = 0
            · have r1l : rows = [] := List.eq_nil_of_length_eq_zero r0
              clear r0
              go_wp2
              go_ret
              exact ⟨false, rfl, HCS.out, fun h => by cases h⟩
            · have r1 : (0 : Int) < (rows.length : Int) := by omega
              have r1n : 0 < rows.length := by omega
              have r1l : ¬ rows = [] := fun e => by rw [e] at r1n; exact absurd r1n (by decide)
              clear r0
              go_wp2
              go_ret
              exact ⟨false, rfl, HCS.out, fun h => by cases h⟩
          · go_wp2
            go_ret
            exact ⟨false, rfl, HCS.out, fun h => by cases h⟩

end Go.Proofs.YtljaoopfomcaoaaGreatDoor
