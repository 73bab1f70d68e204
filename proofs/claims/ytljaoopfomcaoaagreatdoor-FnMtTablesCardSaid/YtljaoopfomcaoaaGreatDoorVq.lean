/-
  The walks of Right, zzFits3, zzFits2 and mtTables.
-/
import Derived.Test.YtljaoopfomcaoaaGreatDoorVo
set_option linter.unusedVariables false
set_option linter.unusedSimpArgs false
namespace Go.Proofs.YtljaoopfomcaoaaGreatDoor
open Go.RowKit

theorem RawV.cells {ok : Nat → Prop} {w : World} {cs : List Value} (h : RawV ok w cs) : ∃ k b i f t kv lv, cs = cells7 k b i f t kv lv := by
  cases h; exact ⟨_, _, _, _, _, _, _, rfl⟩

theorem ValJ.kindN {ok : Nat → Prop} {w : World} {k b i f t kv lv} {j : J} (h : ValJ ok w (cells7 k b i f t kv lv) j) : (k = 0 → j = .null) ∧ (k = 7 → isT j = true) ∧ (j = .null → k = 0) ∧ (isT j = true → k = 7) := by
  cases h <;> simp [isT]

/-- A truth value comes back; nothing that was there has changed. -/
def BoolPost (w : World) (R : Bool → World → Prop) (e : Ending) (w' : World) : Prop := ∃ r : Bool, e = .returned (.bool r) ∧ Chg No w w' ∧ R r w'

set_option maxRecDepth 100000 in
theorem right_any {ok : Nat → Prop} {cs : List Value} {w : World} (h : RawV ok w cs) (n : Nat) (hn : n ≤ 1099511627776) :
    Calls Tryz.prog 17 #[.agg cs.toArray, .int .i64 (n : Int)] w (BoolPost w fun r w' => r = true → ∃ j, ValJ ok w' cs j ∧ Wf (sz j) 50 j ∧ sz j ≤ n) := by
  have H := Lib.hid h
  have HN := Lib.hid hn
  obtain ⟨k, b, i, f, t, kv, lv, rfl⟩ := h.cells
  have hfacts : ∀ W, (w.alloc (.cells (cells7 k b i f t kv lv).toArray 26)).alloc (.cells [.int .i64 (n : Int)].toArray 3) = W →
      Blk W w.heap.size (cells7 k b i f t kv lv) 26 ∧ Blk W (w.heap.size + 1) [.int .i64 (n : Int)] 3 ∧ Chg No w W := by
    rintro W rfl
    exact ⟨(Blk.new _ _ _).alloc _, Blk.newAt (by simp) _ _, ((Chg.refl No w).alloc _).alloc _⟩
  have HF := Lib.hid hfacts
  clear h hn hfacts
  go_enter Tryz.func17, Tryz.ntmps17
  unfold cells7
  go_upto_region 2 with fail
  generalize hgw : World.alloc _ _ = W
  obtain ⟨b0, b1, c1⟩ := HF.out W hgw
  clear hgw HF
  have HB1 := Lib.hid b1
  have HC1 := Lib.hid c1
  clear b1 c1
  go_wp2_with (first | (with_reducible refine wpList_loadAgg rfl agg26 rfl rfl b0.cells rfl ?_))
  have hcall := tbRight_any 50 (okB ok w) (cells7 k b i f t kv lv) W (w.heap.size + 1) n ((H.out.mono (ok' := okB ok w) (fun b hb h => ⟨h, hb⟩)).chg HC1.out (fun _ _ e => e)) HB1.out (fun h => by have := h.2; omega) HN.out (by decide)
  refine Calls.mono hcall ?_
  rintro e w5 ⟨r, rfl, hc5, hp5⟩
  have HC5 := Lib.hid hc5
  have HP5 := Lib.hid hp5
  clear hcall hc5 hp5
  go_wp2_with fail
  go_ret
  refine ⟨r, rfl, HC1.out.trans HC5.out (fun i hi e => by omega), fun h => ?_⟩
  obtain ⟨j, h1, h2, h3, -⟩ := HP5.out h
  exact ⟨j, h1.mono (fun b _ hb => hb.1), h2, h3⟩

set_option maxRecDepth 100000 in
theorem zzFits3_any {ok : Nat → Prop} {ks : List K} {v : Value} {w : World} (h : RowAt ok w v 1 (kRows ks)) : Calls Tryz.prog 33 #[v] w (BoolPost w fun _ _ => True) := by
  have H := Lib.hid h
  have h1 := h.1
  obtain ⟨-, -, a, c, rfl, -, -⟩ := h
  simp only [kRows, List.length_map] at H h1
  unfold maxLen at h1
  by_cases hb : (2147483647 : Int) < (ks.length : Int)
  · go_enter Tryz.func33, Tryz.ntmps33
    simp only [kRows, List.length_map]
    go_wp2
    go_ret
    exact ⟨false, rfl, Chg.refl _ _, trivial⟩
  · go_enter Tryz.func33, Tryz.ntmps33
    simp only [kRows, List.length_map]
    go_wp2_with fail
    go_loopw [10] (fun ct wr => ∃ n : Nat, ct = .int .i64 n ∧ n ≤ ks.length ∧ Chg No w wr) (fun ct _ => ks.length - (intOf ct).toNat)
    case atStart => exact ⟨0, rfl, Nat.zero_le _, Chg.refl _ _⟩
    case round =>
      obtain ⟨n, rfl, hn, hc⟩ := hrel
      have HC := Lib.hid hc
      by_cases hlt : n < ks.length
      · obtain ⟨x, hx⟩ : ∃ x, ks[n]? = some x := ⟨_, List.getElem?_eq_getElem hlt⟩
        obtain ⟨kb, ko, rfl, -, hka⟩ := H.out.at (i := n) (r := [.string x]) (by simp [hx])
        have hka := (hka.chg hc id).one
        simp only [Nat.mul_one] at hka
        have h64 : (n : Int) < (ks.length : Int) := by omega
        clear hx hc
        by_cases hs : (2147483647 : Int) < (x.size : Int)
        · go_wp2
          go_ret
          exact ⟨false, rfl, HC.out, trivial⟩
        · go_wp2_with fail
          go_roundw
          case rel => exact ⟨n + 1, by go_num, by omega, HC.out⟩
          case measure => simp [intOf]; omega
      · have h64 : ¬ (n : Int) < (ks.length : Int) := by omega
        go_wp2
        go_ret
        exact ⟨true, rfl, HC.out, trivial⟩

set_option maxRecDepth 100000 in
theorem zzFits2_any {ok : Nat → Prop} {cs : List Value} {w : World} (h : RawV ok w cs) : Calls Tryz.prog 7 #[.agg cs.toArray] w (BoolPost w fun _ _ => True) := by
  cases h with
  | @mk k b i f t kv lv ks rows hk hks hl hr =>
    have HK := Lib.hid hk
    have hl1 := hl.1
    obtain ⟨-, -, la, lc, rfl, -, -⟩ := hl
    unfold maxLen at hl1
    clear hk hks hr
    have hfacts : ∀ W, (w.alloc (.cells (cells7 k b i f t kv (.slice la rows.length lc)).toArray 26)) = W →
        Blk W w.heap.size (cells7 k b i f t kv (.slice la rows.length lc)) 26 ∧ Chg No w W := by
      rintro W rfl
      exact ⟨Blk.new _ _ _, (Chg.refl No w).alloc _⟩
    have HF := Lib.hid hfacts
    clear hfacts
    go_enter Tryz.func7, Tryz.ntmps7
    unfold cells7
    go_upto_region 1 with fail
    generalize hgw : World.alloc _ _ = W
    obtain ⟨b0, c1⟩ := HF.out W hgw
    clear hgw HF
    have HB0 := Lib.hid b0
    have HC1 := Lib.hid c1
    have k4 : W.cell? ⟨w.heap.size, 4, none⟩ = some (.string t) := b0.cell 4
    have k5 : W.cell? ⟨w.heap.size, 5, none⟩ = some kv := b0.cell 5
    clear b0 c1
    by_cases ht : (2147483647 : Int) < (t.size : Int)
    · go_wp2
      go_ret
      exact ⟨false, rfl, HC1.out, trivial⟩
    · go_wp2_with fail
      refine (zzFits3_any ((HK.out.mono (ok' := okB ok w) (fun b hb h => ⟨h, hb⟩) (by decide)).chg HC1.out (fun _ _ e => e))).mono ?_
      rintro e w5 ⟨r, rfl, hc5, -⟩
      have HC5 := Lib.hid hc5
      have k6 : w5.cell? ⟨w.heap.size, 6, none⟩ = some (.slice la rows.length lc) := (HB0.out.chg hc5 id).cell 6
      clear hc5 k4 k5
      cases r with
      | false =>
        go_wp2
        go_ret
        exact ⟨false, rfl, HC1.out.trans' HC5.out, trivial⟩
      | true =>
        by_cases hr : (2147483647 : Int) < (rows.length : Int)
        · go_wp2
          go_ret
          exact ⟨false, rfl, HC1.out.trans' HC5.out, trivial⟩
        · go_wp2
          go_ret
          exact ⟨true, rfl, HC1.out.trans' HC5.out, trivial⟩

/-- The tables under way. -/
structure TL (ok : Nat → Prop) (rows : List (List Value)) (w wr : World) (n : Nat) (js : List J) : Prop where
  le : n ≤ rows.length
  len : js.length = n
  val : ∀ (i : Nat) (r : List Value) (x : J), rows[i]? = some r → js[i]? = some x → ValJ (okB ok w) wr r x
  good : ∀ x ∈ js, Wf 300 50 x ∧ (x = .null ∨ isT x = true) ∧ sz x ≤ 300
  chg : Chg No w wr

theorem TL.step {ok : Nat → Prop} {rows : List (List Value)} {w wr w' : World} {n : Nat} {js : List J} (h : TL ok rows w wr n js) {r : List Value} (hr : rows[n]? = some r) {j : J} (hv : ValJ (okB ok w) w' r j)
    (hw : Wf (sz j) 50 j) (hs : sz j ≤ 300) (hk : j = .null ∨ isT j = true) (hc : Chg No wr w') : TL ok rows w w' (n + 1) (js ++ [j]) := by
  have hlt : n < rows.length := (List.getElem?_eq_some_iff.1 hr).1
  refine ⟨hlt, by simp [h.len], fun i r' x hi hx => ?_, fun x hx => ?_, h.chg.trans' hc⟩
  · by_cases hi2 : i < js.length
    · rw [List.getElem?_append_left hi2] at hx
      exact (h.val i r' x hi hx).chg hc (fun _ _ e => e)
    · have : i = js.length := by
        have := (List.getElem?_eq_some_iff.1 hx).1
        simp at this
        omega
      subst this
      rw [List.getElem?_append_right (Nat.le_refl _), Nat.sub_self] at hx
      cases hx
      rw [h.len, hr] at hi
      cases hi
      exact hv
  · rcases List.mem_append.1 hx with hx | hx
    · exact h.good x hx
    · rw [List.mem_singleton.1 hx]; exact ⟨hw.mono hs (Nat.le_refl _), hk, hs⟩

set_option maxRecDepth 100000 in
set_option maxHeartbeats 1000000 in
theorem mtTables_any {ok : Nat → Prop} {lv : Value} {rows : List (List Value)} {w : World} (hl : RowAt ok w lv 7 rows) (hr : ∀ r ∈ rows, RawV ok w r) :
    Calls Tryz.prog 20 #[lv] w (BoolPost w fun r w' => r = true → rows.length ≤ 8 ∧ ∃ xs : List J, TL ok rows w w' rows.length xs) := by
  have HLR := Lib.hid hl
  have HRR := Lib.hid hr
  have hl1 := hl.1
  obtain ⟨-, -, la, lc, rfl, -, -⟩ := hl
  unfold maxLen at hl1
  clear hr
  by_cases h8 : (8 : Int) < (rows.length : Int)
  · go_enter Tryz.func20, Tryz.ntmps20
    go_wp2
    go_ret
    exact ⟨false, rfl, Chg.refl _ _, fun h => by cases h⟩
  · go_enter Tryz.func20, Tryz.ntmps20
    go_wp2_with fail
    go_loopw [10] (fun ct wr => ∃ (n : Nat) (js : List J), ct = .int .i64 n ∧ TL ok rows w wr n js) (fun ct _ => rows.length - (intOf ct).toNat)
    case atStart => exact ⟨0, [], rfl, Nat.zero_le _, rfl, fun i r x _ h => (by simp at h), fun x h => (by cases h), Chg.refl _ _⟩
    case round =>
      obtain ⟨n, js, rfl, htl⟩ := hrel
      have HTL := Lib.hid htl
      clear htl
      by_cases hlt : n < rows.length
      · obtain ⟨r, hr0⟩ : ∃ r, rows[n]? = some r := ⟨_, List.getElem?_eq_getElem hlt⟩
        obtain ⟨lb, lo, rfl, hlok, hlc⟩ := HLR.out.at (i := n) (r := r) hr0
        have HLC := hlc.chg HTL.out.chg id
        have hraw := HRR.out r (List.mem_of_getElem? hr0)
        obtain ⟨k, b, i, f, t, kv, lv, rfl⟩ := hraw.cells
        obtain ⟨hrl7, hro1⟩ := hraw.seven
        have HRAWr := Lib.hid ((hraw.mono (ok' := okB ok w) (fun b hb h => ⟨h, hb⟩)).chg HTL.out.chg (fun _ _ e => e))
        have h64 : (n : Int) < (rows.length : Int) := by omega
        have HR0 := Lib.hid hr0
        clear hlc hraw hr0
        go_wp2_with (first | (with_reducible refine wpList_loadAgg rfl agg26 rfl rfl HLC hrl7 ?_) | (with_reducible refine wpList_storeNew rfl agg26 rfl rfl rfl rfl hrl7 hro1 ?_) | (with_reducible refine wpList_loadAgg rfl agg26 rfl rfl (Blk.new wr (cells7 k b i f t kv lv) 26).cells hrl7 ?_))
        refine (right_any (HRAWr.out.chg ((Chg.refl No wr).alloc (.cells (cells7 k b i f t kv lv).toArray 26)) (fun _ _ e => e)) 300 (by decide)).mono ?_
        rintro e w4 ⟨rr, rfl, hc4, hpost⟩
        have HPOST := Lib.hid hpost
        have hb4 := (Blk.new wr (cells7 k b i f t kv lv) 26).chg hc4 id
        have HB4 := Lib.hid hb4
        have q0 : w4.cell? ⟨wr.heap.size, 0, none⟩ = some (.int .i64 k) := hb4.cell 0
        have HC4 := Lib.hid (((Chg.refl No wr).alloc (.cells (cells7 k b i f t kv lv).toArray 26)).trans' hc4)
        clear hc4 hpost HLC hrl7 hro1 hb4
        cases rr with
        | false =>
          go_wp2
          go_ret
          exact ⟨false, rfl, HTL.out.chg.trans' HC4.out, fun h => by cases h⟩
        | true =>
          obtain ⟨j, hj1, hj2, hj3⟩ := HPOST.out rfl
          have hkind := hj1.kindN
          have HKIND := Lib.hid hkind
          have HSTEP := Lib.hid (fun (hk : j = .null ∨ isT j = true) (w' : World) (hc : Chg No w4 w') => HTL.out.step HR0.out (hj1.chg hc (fun _ _ e => e)) hj2 hj3 hk (HC4.out.trans' hc))
          clear hj1 hj2 hj3 hkind
          by_cases hk0 : k = 0
          · subst hk0
            go_wp2_with fail
            go_roundw
            case rel => exact ⟨n + 1, _, by go_num, HSTEP.out (.inl (HKIND.out.1 trivial)) _ (Chg.refl _ _)⟩
            case measure => simp [intOf]; omega
          · have hk0b : (k != 0) = true := by simpa using hk0
            have q1 : w4.cell? ⟨wr.heap.size, 1, none⟩ = some (.bool b) := HB4.out.cell 1
            have q2 : w4.cell? ⟨wr.heap.size, 2, none⟩ = some (.int .i64 i) := HB4.out.cell 2
            have q3 : w4.cell? ⟨wr.heap.size, 3, none⟩ = some (.float .f64 f) := HB4.out.cell 3
            have q4 : w4.cell? ⟨wr.heap.size, 4, none⟩ = some (.string t) := HB4.out.cell 4
            have q5 : w4.cell? ⟨wr.heap.size, 5, none⟩ = some kv := HB4.out.cell 5
            have q6 : w4.cell? ⟨wr.heap.size, 6, none⟩ = some lv := HB4.out.cell 6
            go_wp2_with fail
            refine (isTable_any k i b f t kv lv w4).mono ?_
            rintro e w5 ⟨rfl, hc5⟩
            have HC5 := Lib.hid hc5
            clear hc5
            by_cases hk7 : k = 7
            · subst hk7
              go_wp2_with fail
              go_roundw
              case rel => exact ⟨n + 1, _, by go_num, HSTEP.out (.inr (HKIND.out.2.1 trivial)) _ HC5.out⟩
              case measure => simp [intOf]; omega
            · have hk7b : (k == 7) = false := by simpa using hk7
              go_wp2
              go_ret
              exact ⟨false, rfl, (HTL.out.chg.trans' HC4.out).trans' HC5.out, fun h => by cases h⟩
      · have hnl : n = rows.length := Nat.le_antisymm HTL.out.le (Nat.not_lt.1 hlt)
        subst hnl
        have hlen : ¬ ((rows.length : Nat) : Int) < (rows.length : Int) := by omega
        go_wp2
        go_ret
        exact ⟨true, rfl, HTL.out.chg, fun _ => ⟨by omega, js, HTL.out⟩⟩

end Go.Proofs.YtljaoopfomcaoaaGreatDoor
