/-
  The walks of PathMap, TableAt and mtAwake.
-/
import Derived.Test.YtljaoopfomcaoaaGreatDoorNa
import Derived.Test.YtljaoopfomcaoaaGreatDoorVi
set_option linter.unusedVariables false
set_option linter.unusedSimpArgs false
namespace Go.Proofs.YtljaoopfomcaoaaGreatDoor
open Go.RowKit

/-- A value within tables of one key each. -/
def nest (l : List K) (j : J) : J := l.foldr (fun k a => .table [(k, a)]) j

def dotK : K := ⟨#[46]⟩

def pathJ (path : K) (j : J) : J := if path = dotK then j else nest (parts path 46) j

theorem nest_drop {l : List K} {m : Nat} {k : K} (h : l[m]? = some k) (j : J) : nest (l.drop m) j = .table [(k, nest (l.drop (m + 1)) j)] := by
  obtain ⟨hlt, rfl⟩ := List.getElem?_eq_some_iff.1 h
  rw [List.drop_eq_getElem_cons hlt]; rfl

theorem parts_length (s : K) (c : Nat) : (parts s c).length ≤ s.size + 1 := partsGo_length s c _ _ _

/-- The box in block g is to be filled with what reads as j. -/
structure PG (g : Nat) (cs : List Value) (ok' : Nat → Prop) (j : J) (wr w : World) (ds : Bool) : Prop where
  size : wr.heap.size ≤ w.heap.size
  chg : Chg (· = g) wr w
  box : ∃ c, Blk w g c 26 ∧ (ds = false → c = cs) ∧ (ds = true → ValJ ok' w c j)

theorem PG.start {g : Nat} {cs : List Value} {ok' : Nat → Prop} {j : J} {wr : World} (hb : Blk wr g cs 26) : PG g cs ok' j wr wr.drew false :=
  ⟨Nat.le_refl _, (Chg.refl _ wr).drew, cs, hb.drew, fun _ => rfl, fun e => by cases e⟩

theorem PG.chgNo {g : Nat} {cs : List Value} {ok' : Nat → Prop} {j : J} {wr w w' : World} {ds : Bool} (h : PG g cs ok' j wr w ds) (hc : Chg No w w') : PG g cs ok' j wr w' ds := by
  obtain ⟨c, h1, h2, h3⟩ := h.box
  exact ⟨Nat.le_trans h.size hc.size, h.chg.trans' hc, c, h1.chg hc id, h2, fun e => (h3 e).chg hc (fun _ _ e => e)⟩

theorem PG.fill {g : Nat} {cs c : List Value} {ok' : Nat → Prop} {j : J} {wr w w' : World} {ds : Bool} (h : PG g cs ok' j wr w ds) (hb : Blk w' g c 26) (hc : Chg (· = g) w w') (hv : ValJ ok' w c j) (hn : ¬ ok' g) : PG g cs ok' j wr w' true :=
  ⟨Nat.le_trans h.size hc.size, h.chg.trans hc (fun _ _ e => e), c, hb, fun e => (by cases e), fun _ => hv.chg hc (fun b hb e => hn (e ▸ hb))⟩


/-- What a path's value may lie in: what lay there, and what is newer than the two boxes. -/
abbrev okX (ok : Nat → Prop) (w : World) (g : Nat) : Nat → Prop := fun b => okB ok w b ∨ g + 1 < b

set_option maxRecDepth 100000 in
set_option maxHeartbeats 1000000 in
theorem pathMap_any (path : K) (hp : path.size < 1099511627776) {ok : Nat → Prop} {cs : List Value} {j : J} {w : World} (h : ValJ ok w cs j) :
    Calls Tryz.prog 40 #[.string path, .agg cs.toArray] w fun e w' => ∃ cs', e = .returned (.agg cs'.toArray) ∧ ValJ (fun b => ok b ∨ w.heap.size ≤ b) w' cs' (pathJ path j) ∧ Chg No w w' := by
  have HV := Lib.hid h
  have HP := Lib.hid hp
  obtain ⟨kk, kb, ki, kf, kt, kv, lv, rfl⟩ := h.seven
  have hfacts : ∀ W, (w.alloc (.cells (cells7 kk kb ki kf kt kv lv).toArray 26)).alloc (.cells zero7.toArray 26) = W →
      Blk W w.heap.size (cells7 kk kb ki kf kt kv lv) 26 ∧ Blk W (w.heap.size + 1) zero7 26 ∧ Chg No w W ∧ W.heap.size = w.heap.size + 2 := by
    rintro W rfl
    exact ⟨(Blk.new _ _ _).alloc _, Blk.newAt (by simp) _ _, ((Chg.refl No w).alloc _).alloc _, by simp⟩
  have HF := Lib.hid hfacts
  clear h hp hfacts
  go_enter Tryz.func40, Tryz.ntmps40
  unfold cells7
  go_upto_region 1 with fail
  generalize hgw : World.alloc _ _ = W
  obtain ⟨b0, b1, c1, hws⟩ := HF.out W hgw
  clear hgw HF
  obtain ⟨g, hg⟩ : ∃ g, g = w.heap.size := ⟨_, rfl⟩
  rw [← hg] at b0 b1 hws ⊢
  have HG := Lib.hid hg
  have HWS := Lib.hid hws
  have HC1 := Lib.hid c1
  have HB0 := Lib.hid b0
  have HB1 := Lib.hid b1
  have HVX := Lib.hid (show ValJ (okX ok w g) W (cells7 kk kb ki kf kt kv lv) j from ((HV.out.mono (ok' := okB ok w) (fun b hb h => ⟨h, hb⟩)).chg c1 (fun _ _ e => e)).mono (fun b _ h => .inl h))
  have notX : ¬ okX ok w g g := fun e => by rcases e with e | e <;> first | omega | (have := e.2; omega)
  have NOTX := Lib.hid notX
  have notY : ¬ okX ok w g (g + 1) := fun e => by rcases e with e | e <;> first | omega | (have := e.2; omega)
  have NOTY := Lib.hid notY
  clear c1 hg hws notX notY b0 b1
  by_cases hdot : path = dotK
  · have hpe : (path.toList == [46]) = true := by rw [hdot, show dotK.toList = [46] from by rw [ByteArray.toList_eq]; rfl]; rfl
    have HD := Lib.hid hdot
    clear hdot
    have b0 := HB0.out
    have b1 := HB1.out
    have hone := HVX.out.one
    go_wp2_with (first | (with_reducible refine wpList_loadAgg rfl agg26 rfl rfl b0.cells rfl ?_) | (with_reducible refine wpList_storeBlk rfl agg26 rfl rfl rfl b1 rfl rfl hone ?_; intro w2 hb2 hc2 hs2))
    refine bodyPost_ret (results_blk rfl agg26 rfl hb2 rfl) rfl ⟨_, rfl, ?_, HC1.out.trans hc2 (fun i hi e => by have := HG.out; omega)⟩
    rw [pathJ, if_pos HD.out]
    exact (HVX.out.chg hc2 (fun b hb e => NOTY.out (e ▸ hb))).mono (fun b _ hb => hb.imp (fun h => h.1) (fun h => by have := HG.out; omega))
  · have hpe : (path.toList == [46]) = false := by
      have h1 := toList_beq path dotK
      rw [decide_eq_false hdot, show dotK.toList = [46] from by rw [ByteArray.toList_eq]; rfl] at h1
      exact h1
    have HD := Lib.hid hdot
    clear hdot
    go_wp2_with fail
    refine (names_any path HP.out W).mono ?_
    rintro e w1 ⟨v, rfl, hown, hc⟩
    have hrow := hown.rowAt.mono (ok' := fun b => g + 1 < b) (fun b _ hb => by have := (hown.elem hb).1; have := HWS.out; omega) (by decide)
    obtain ⟨na, nc, rfl⟩ := hown.slice1
    obtain ⟨L, hL⟩ : ∃ L, L = parts path 46 := ⟨_, rfl⟩
    rw [← hL] at hrow ⊢
    have hll : (kRows L).length = L.length := by simp [kRows]
    have hlen : L.length ≤ 1099511627776 := by rw [hL]; have := parts_length path 46; have := HP.out; omega
    have hlen64 : (L.length : Int) ≤ 1099511627776 := by omega
    rw [hll] at hrow ⊢
    have HROW := Lib.hid hrow
    have HC := Lib.hid hc
    have HLE := Lib.hid hL
    have HB0 := Lib.hid (HB0.out.chg hc id)
    have HB1 := Lib.hid (HB1.out.chg hc id)
    have HVX := Lib.hid (HVX.out.chg hc (fun _ _ e => e))
    have hs1 := hc.size
    have HW1 := Lib.hid (show g + 1 < w1.heap.size by have := HWS.out; omega)
    clear hrow hown hc hL hll hs1 hlen
    go_wp2_with fail
    go_loopw [6] (fun ct wr => ∃ (m : Nat) (c : List Value), ct = .int .i64 ((m : Int) - 1) ∧ m ≤ L.length ∧ Blk wr g c 26 ∧ ValJ (okX ok w g) wr c (nest (L.drop m) j) ∧ Chg (· = g) w1 wr) (fun ct _ => (intOf ct + 1).toNat)
    case atStart => exact ⟨L.length, _, by go_num, Nat.le_refl _, HB0.out, (by rw [List.drop_length]; exact HVX.out), Chg.refl _ _⟩
    case round =>
      obtain ⟨m, c, rfl, hm, hbx, hvc, hcr⟩ := hrel
      have HBX := Lib.hid hbx
      have HVC := Lib.hid hvc
      have HCR := Lib.hid hcr
      clear hbx hvc hcr
      cases m with
      | zero =>
        have b0 := HBX.out
        have b1 := HB1.out.chg HCR.out (by omega)
        have hone := HVC.out.one
        have hc7 := HVC.out.length
        go_wp2_with (first | (with_reducible refine wpList_loadAgg rfl agg26 rfl rfl b0.cells hc7 ?_) | (with_reducible refine wpList_storeBlk rfl agg26 rfl rfl rfl b1 rfl hc7 hone ?_; intro w2 hb2 hc2 hs2))
        refine bodyPost_ret (results_blk rfl agg26 rfl hb2 hc7) rfl ⟨c, rfl, ?_, ((HC1.out.trans' HC.out).trans HCR.out (fun i hi e => by have := HG.out; omega)).trans hc2 (fun i hi e => by have := HG.out; omega)⟩
        have h1 := HVC.out
        rw [List.drop_zero] at h1
        rw [pathJ, if_neg HD.out, ← HLE.out]
        exact (h1.chg hc2 (fun b hb e => NOTY.out (e ▸ hb))).mono (fun b _ hb => hb.imp (fun h => h.1) (fun h => by have := HG.out; omega))
      | succ m =>
        rw [show (((m + 1 : Nat) : Int)) - 1 = (m : Int) by omega]
        obtain ⟨k, hk⟩ : ∃ k, L[m]? = some k := ⟨_, List.getElem?_eq_getElem (by omega)⟩
        obtain ⟨nb, no, rfl, hnb, hkc⟩ := HROW.out.at (i := m) (r := [.string k]) (by simp [kRows, hk])
        have hkc := (hkc.chg HCR.out (fun e => by omega)).one
        simp only [Nat.mul_one] at hkc
        have HKC := Lib.hid hkc
        have HNB := Lib.hid hnb
        have HK0 := Lib.hid hk
        have HGR := Lib.hid (show g + 1 < wr.heap.size by have := HCR.out.size; have := HW1.out; omega)
        have h64 : (m : Int) < (L.length : Int) := by omega
        have notX := NOTX.out
        clear hkc hnb hk
        go_upto_region 7 with fail
        refine wp_region_inv (FI [.eq (.slice (some ⟨nb, no, none⟩) L.length nc), .eq (.int .i64 (m : Int)), .eq (.pointer (some ⟨nb, no + m, none⟩)), .eq (.string k), .temp wr.heap.size [.string k] 9, .eq (.agg c.toArray), .temp wr.heap.size c 26, .val (okX ok w g) (.table [(k, nest (L.drop (m + 1)) j)]), .any])
          (fun done w' => PG g c (okX ok w g) (.table [(k, nest (L.drop (m + 1)) j)]) wr w' (done 8)) (by kernel_rfl) (by kernel_rfl) (PG.start HBX.out) ?_ ?_
        · refine ⟨?_, ?_, ?_, ?_, ?_, ?_, ?_, ?_, ?_, trivial⟩
          · intro done a w1 K hd hcl hsl hot hdep hG hK
            have e5 : a.tmps[5]?.getD undef = .slice (some ⟨nb, no, none⟩) L.length nc := hot 5 rfl
            clear hcl hsl hot hdep
            go_simp
            exact hK _ _ rfl (by simpa [dn] using hG) (fun _ _ _ _ h => h)
          · intro done a w1 K hd hcl hsl hot hdep hG hK
            have e6 : a.tmps[6]?.getD undef = .int .i64 (m : Int) := hot 6 rfl
            clear hcl hsl hot hdep
            go_simp
            exact hK _ _ rfl (by simpa [dn] using hG) (fun _ _ _ _ h => h)
          · intro done a w1 K hd hcl hsl hot hdep hG hK
            have e19 : a.tmps[19]?.getD undef = .slice (some ⟨nb, no, none⟩) L.length nc := hsl 0 19 rfl (hdep 0 rfl)
            have e20 : a.tmps[20]?.getD undef = .int .i64 (m : Int) := hsl 1 20 rfl (hdep 1 rfl)
            clear hcl hsl hot hdep
            go_simp
            exact hK _ _ rfl (by simpa [dn] using hG) (fun _ _ _ _ h => h)
          · intro done a w1 K hd hcl hsl hot hdep hG hK
            have e21 : a.tmps[21]?.getD undef = .pointer (some ⟨nb, no + m, none⟩) := hsl 2 21 rfl (hdep 2 rfl)
            have c9 : w1.cell? ⟨nb, no + m, none⟩ = some (.string k) := hG.chg.cell HKC.out (fun e => by have := HNB.out; simp only at e; omega)
            clear hcl hsl hot hdep
            go_simp
            exact hK _ _ rfl (by simpa [dn] using hG) (fun _ _ _ _ h => h)
          · intro done a w1 K hd hcl hsl hot hdep hG hK
            have e22 : a.tmps[22]?.getD undef = .string k := hsl 3 22 rfl (hdep 3 rfl)
            clear hcl hsl hot hdep
            go_simp
            refine hK _ _ ⟨_, rfl, hG.size, Blk.new _ [.string k] _⟩ (by simpa [dn] using hG.chgNo ((Chg.refl _ _).alloc _)) (fun _ _ _ _ h => h.keepNo ((Chg.refl _ _).alloc _))
          · intro done a w1 K hd hcl hsl hot hdep hG hK
            have e3 : a.tmps[3]?.getD undef = .pointer (some ⟨g, 0, none⟩) := hot 3 rfl
            have n8 : done 8 = false := by
              cases hh0 : done 8 with
              | false => rfl
              | true =>
                have hh1 := hcl 8 7 rfl hh0
                have hh2 := hcl 7 6 rfl hh1
                have hh3 := hcl 6 5 rfl hh2
                rw [hd] at hh3; cases hh3
            rw [n8] at hG
            obtain ⟨c', hb, h1, -⟩ := hG.box
            obtain rfl := h1 rfl
            refine if_wanted rfl ?_
            refine wp_loadAgg agg26 rfl (by simpa [Act.eval] using e3) hb.cells HVC.out.length ?_
            exact hK _ _ rfl (by simpa [dn, n8] using hG) (fun _ _ _ _ h => h)
          · intro done a w1 K hd hcl hsl hot hdep hG hK
            have e24 : a.tmps[24]?.getD undef = .agg c.toArray := hsl 5 24 rfl (hdep 5 rfl)
            refine if_wanted rfl ?_
            refine wp_build24V rfl (by simpa [Act.eval] using e24) HVC.out.length ?_
            refine hK _ _ ⟨_, rfl, hG.size, Blk.new _ c _⟩ (by simpa [dn] using hG.chgNo ((Chg.refl _ _).alloc _)) (fun _ _ _ _ h => h.keepNo ((Chg.refl _ _).alloc _))
          · intro done a w1 K hd hcl hsl hot hdep hG hK
            obtain ⟨t1, e23, hl1, hb1⟩ := hsl 4 23 rfl (hdep 4 rfl)
            obtain ⟨t2, e25, hl2, hb2⟩ := hsl 6 25 rfl (hdep 6 rfl)
            have hval : ValJ (okX ok w g) w1 (cells7 7 false 0 0 ByteArray.empty (.slice (some ⟨t1, 0, none⟩) 1 1) (.slice (some ⟨t2, 0, none⟩) 1 1)) (.table [(k, nest (L.drop (m + 1)) j)]) := ValJ.table (kvs := [(k, nest (L.drop (m + 1)) j)]) ((hb1.row1 rfl).mono (fun b _ hb => .inr (by have := HGR.out; omega)) (by simp)) ((hb2.row1 HVC.out.length).mono (fun b _ hb => .inr (by have := HGR.out; omega)) (by simp)) rfl (fun n r p h1 h2 => by
              cases n with
              | zero => simp at h1 h2; subst h1; subst h2; exact HVC.out.chg hG.chg (fun b hb e => notX (e ▸ hb))
              | succ n => simp at h1)
            have HVAL := Lib.hid hval
            clear hval hl1 hl2 hb1 hb2
            have n8 := hG
            clear hcl hsl hot hdep
            have hbd := build26_kl 7
            go_simp
            exact hK _ _ ⟨_, rfl, HVAL.out⟩ (by simpa [dn] using hG) (fun _ _ _ _ h => h)
          · intro done a w1 K hd hcl hsl hot hdep hG hK
            have e3 : a.tmps[3]?.getD undef = .pointer (some ⟨g, 0, none⟩) := hot 3 rfl
            obtain ⟨c2, e26, hv2⟩ := hsl 7 26 rfl (hdep 7 rfl)
            rw [hd] at hG
            obtain ⟨c', hb, h1, -⟩ := hG.box
            obtain rfl := h1 rfl
            refine if_wanted rfl ?_
            refine wp_storeBlk agg26 rfl (by simpa [Act.eval] using e3) (by simpa [Act.eval] using e26) hb HVC.out.length hv2.length hv2.one ?_
            intro w2 hb2 hC hs2
            refine hK undef _ trivial (by simpa [dn] using hG.fill hb2 hC hv2 notX) ?_
            refine fun j hj _ u hu => hu.keep hC (safe_of (i := 8) (fun j hl hj => ?_) j hj)
            match j, hj with
            | 0, _ => exact trivial
            | 1, _ => exact trivial
            | 2, _ => exact trivial
            | 3, _ => exact trivial
            | 4, _ => exact fun k hk => by have := HGR.out; omega
            | 5, _ => exact trivial
            | 6, _ => exact fun k hk => by have := HGR.out; omega
            | 7, _ => exact fun b hb e => notX (e ▸ hb)
            | 8, hj => exact absurd rfl hj
            | j + 9, _ => exact absurd hl (by simp)
        · intro vs w2 hvs hvn hG
          obtain ⟨c2, hb2, -, hv2⟩ := hG.box
          have HB2 := Lib.hid hb2
          have HV2 := Lib.hid (hv2 rfl)
          have HC2 := Lib.hid (HCR.out.trans hG.chg (fun _ _ e => e))
          clear hb2 hv2 hG hvs hvn
          simp only [putAll, Act.put, List.setIfInBounds_toArray, List.set_cons_succ, List.set_cons_zero]
          go_wp2_with fail
          go_roundw
          case rel => exact ⟨m, c2, rfl, by omega, HB2.out, (by rw [nest_drop HK0.out]; exact HV2.out), HC2.out⟩
          case measure => simp [intOf]

end Go.Proofs.YtljaoopfomcaoaaGreatDoor
