/-
  The walks of the reference's small functions on values: IsTable, At.
-/
import Derived.Test.YtljaoopfomcaoaaGreatDoorOp
set_option linter.unusedVariables false
set_option linter.unusedSimpArgs false
namespace Go.Proofs.YtljaoopfomcaoaaGreatDoor
open Go.RowKit

theorem isTable_any (k i : Int) (b : Bool) (f : Nat) (t : ByteArray) (ks ls : Value) (w : World) :
    Calls Tryz.prog 21 #[.agg (cells7 k b i f t ks ls).toArray] w fun e w' => e = .returned (.bool (k == 7)) ∧ Chg No w w' := by
  unfold cells7
  go_enter Tryz.func21, Tryz.ntmps21
  go_wp2
  go_ret
  exact ⟨rfl, (Chg.refl _ _).alloc _⟩

def AtPost (ok : Nat → Prop) (j : J) (key : K) (w : World) (e : Ending) (w' : World) : Prop :=
  Chg No w w' ∧ match atJ j key with
    | some x => ∃ cs, e = .returned (.tuple #[.agg cs.toArray, .bool true]) ∧ ValJ ok w' cs x
    | none => e = .returned (.tuple #[.agg zero7.toArray, .bool false])

theorem at_table (ok : Nat → Prop) (kvs : T) (key : K) (b : Bool) (i : Int) (f : Nat) (t : K) (kv lv : Value) (w : World) (h : ValJ ok w (cells7 7 b i f t kv lv) (.table kvs)) :
    Calls Tryz.prog 50 #[.agg (cells7 7 b i f t kv lv).toArray, .string key] w (AtPost ok (.table kvs) key w) := by
  cases h with
  | @table _ _ _ _ _ _ rows _ hk hl hn hr =>
  have HK := Lib.hid hk
  have HL := Lib.hid hl
  have hk1 := hk.1
  obtain ⟨-, -, ka, kc, rfl, -, -⟩ := hk
  obtain ⟨-, -, la, lc, rfl, -, -⟩ := hl
  simp only [List.length_map] at hk1 HK ⊢
  unfold maxLen at hk1
  have HR := Lib.hid hr
  have HN := Lib.hid hn
  clear hr hn
  go_enter Tryz.func50, Tryz.ntmps50
  unfold cells7
  go_wp2_with fail
  go_loopw [11] (fun c wr => ∃ n : Nat, n ≤ kvs.length ∧ c = .int .i64 n ∧ (∀ p ∈ kvs.take n, p.1 ≠ key) ∧ Chg No w wr ∧
      Blk wr w.heap.size (cells7 7 b i f t (Value.slice ka (List.length kvs) kc) (Value.slice la rows.length lc)) 26 ∧ Blk wr (w.heap.size + 1) zero7 26) (fun c _ => kvs.length - (intOf c).toNat)
  case atStart => exact ⟨0, Nat.zero_le _, rfl, by simp, ((Chg.refl _ _).alloc _).alloc _, (Blk.new _ _ _).alloc _, Blk.newAt (by simp) _ _⟩
  case round =>
    obtain ⟨n, hn, rfl, hnot, hc, hbx, hrs⟩ := hrel
    have HC := Lib.hid hc
    have HNOT := Lib.hid hnot
    clear hnot hc
    by_cases hlt : n < kvs.length
    · obtain ⟨p, hp⟩ : ∃ p, kvs[n]? = some p := ⟨_, List.getElem?_eq_getElem hlt⟩
      obtain ⟨kb, ko, rfl, hok, hkc⟩ := HK.out.at (i := n) (r := [.string p.1]) (by simp [hp])
      have hkc := (hkc.chg HC.out id).one
      simp only [Nat.mul_one] at hkc
      have HP := Lib.hid hp
      clear hp
      go_wp2_with (first | (refine wpList_loadAgg rfl agg26 rfl rfl hbx.cells rfl ?_))
      refine (isTable_any _ _ _ _ _ _ _ _).mono ?_
      rintro e w1 ⟨rfl, hc1⟩
      have hbx1 := hbx.chg hc1 id
      have hrs1 := hrs.chg hc1 id
      have HC1 := Lib.hid (HC.out.trans' hc1)
      clear hc1 hbx hrs
      have h6 : w1.cell? ⟨w.heap.size, 6, none⟩ = some (.slice la rows.length lc) := hbx1.cell 6
      have hlt2 : n < rows.length := by rw [HN.out]; exact hlt
      obtain ⟨r, hr⟩ : ∃ r, rows[n]? = some r := ⟨_, List.getElem?_eq_getElem hlt2⟩
      obtain ⟨lb, lo, rfl, hlok, hlc⟩ := HL.out.at (i := n) (r := r) hr
      have HLC := hlc.chg HC1.out id
      have HV := Lib.hid (HR.out n r p hr HP.out)
      have hrl : r.length = 7 := HV.out.length
      have h1 := HV.out.one
      clear hr hlc
      by_cases hpk : p.1 = key
      · have hpk2 : (p.1.toList == key.toList) = true := by rw [toList_beq]; simpa using hpk
        have HPK := Lib.hid hpk
        clear hpk
        go_wp2_with (first | (refine wpList_loadAgg rfl agg26 rfl rfl HLC hrl ?_) | (refine wpList_storeBlk rfl agg26 rfl rfl rfl hrs1 rfl hrl h1 ?_; intro w2 hb2 hc2 hs2))
        have hc3 : Chg No w w2 := HC1.out.trans hc2 (by intro i hi e; omega)
        refine bodyPost_ret (results_blk_tmp rfl agg26 rfl hb2 hrl) rfl ⟨hc3, ?_⟩
        rw [show atJ (.table kvs) key = some p.2 from get_first HP.out HPK.out HNOT.out]
        exact ⟨r, rfl, HV.out.chg hc3 (fun _ _ e => e)⟩
      · have hpk2 : (p.1.toList == key.toList) = false := by rw [toList_beq]; simpa using hpk
        have HPK := Lib.hid hpk
        clear hpk
        go_wp2_with fail
        go_roundw
        case rel => exact ⟨n + 1, by omega, by go_num, take_not HP.out HPK.out HNOT.out, HC1.out, hbx1, hrs1⟩
        case measure => simp [intOf]; omega
    · go_wp2_with (first | (refine wpList_storeBlk rfl agg26 rfl rfl rfl hrs rfl rfl rfl ?_; intro w2 hb2 hc2 hs2))
      have hc3 : Chg No w w2 := HC.out.trans hc2 (by intro i hi e; omega)
      refine bodyPost_ret (results_blk_tmp rfl agg26 rfl hb2 rfl) rfl ⟨hc3, ?_⟩
      have HN2 := HNOT.out
      rw [List.take_of_length_le (by omega)] at HN2
      rw [show atJ (.table kvs) key = none from get_none_of HN2]
      rfl

end Go.Proofs.YtljaoopfomcaoaaGreatDoor
