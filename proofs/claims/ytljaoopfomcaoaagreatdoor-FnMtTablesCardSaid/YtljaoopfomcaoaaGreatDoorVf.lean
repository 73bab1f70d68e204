/-
  The walks of table, ZzMergeMaps.
-/
import Derived.Test.YtljaoopfomcaoaaGreatDoorVe
import Derived.BigQuiet
set_option linter.unusedVariables false
set_option linter.unusedSimpArgs false
namespace Go.Proofs.YtljaoopfomcaoaaGreatDoor
open Go.RowKit

theorem build_int0 (w : World) : (Go.zeroValue 3).run Tryz.prog w = .ok (.int .i64 0) w := Tryz.zeroValue3 w

theorem Chg.drewN (w : World) (n : Nat) : Chg No w (w.drewN n) := ⟨rfl, rfl, rfl, Nat.le_refl _, fun _ _ _ => rfl⟩

set_option maxRecDepth 100000 in
/-- A table of a table. -/
theorem table_table {ok : Nat → Prop} {w : World} {kvs : T} {cs : List Value} {N d : Nat} (hN : N < 1099511627776) (hv : ValJ ok w cs (.table kvs)) (wf : Wf N d (.table kvs)) (hsz : sz (.table kvs) ≤ 2000) (hd : d ≤ 61) :
    Calls Tryz.prog 45 #[.agg cs.toArray] w fun e w' => ∃ b, e = .returned (.tuple #[.map (some b), .bool true]) ∧ AnyJ (fun x => w.heap.size ≤ x) w' (.iface 67 (.map (some b))) (.table kvs) ∧ Chg No w w' := by
  obtain ⟨b, i, f, t, kv, lv, rfl⟩ := hv.table7
  have HV := Lib.hid hv
  have WF := Lib.hid wf
  have HSZ := Lib.hid hsz
  clear hv wf hsz
  go_enter Tryz.func45, Tryz.ntmps45
  unfold cells7
  have hb0 := Blk.new w (cells7 7 b i f t kv lv) 26
  have hbl := hb0.lt
  go_wp2_with (first | (with_reducible refine wpList_loadAgg rfl agg26 rfl rfl (hb0.alloc _).cells rfl ?_))
  have hp := Blk.new (w.alloc (.cells (cells7 7 b i f t kv lv).toArray 26)) [.int .i64 0] 3
  have hcall := anyOf_any N hN d (okB ok w) (.table kvs) (cells7 7 b i f t kv lv) ((w.alloc (.cells (cells7 7 b i f t kv lv).toArray 26)).alloc (.cells [.int .i64 0].toArray 3)) (w.heap.size + 1) 0 0 (HV.out.keepP (((Chg.refl No w).alloc _).alloc _) (fun _ _ _ e => e)) WF.out (by simpa using hp) (fun h => by have := h.2; omega) (by have := HSZ.out; omega) (by omega)
  refine hcall.mono ?_
  rintro e w3 ⟨v, rfl, hva, hc3, -⟩
  obtain ⟨bm, nm, fm, rfl, htb⟩ := hva.tab
  have HVA := Lib.hid hva
  have HC3 := Lib.hid hc3
  have has : ∀ z, (Instr.typeAssert (.iface 67 (.map (some bm))) 20 67 true).run Tryz.prog z = .ok (.tuple #[.map (some bm), .bool true]) z := fun z => run_assert67 HVA.out.any0
  clear hcall hva hc3 htb
  go_wp2_with fail
  go_quiet (fail)
  go_wp2
  go_ret2
  exact ⟨bm, rfl, (HVA.out.chg (Chg.drewN _ _) (fun _ _ e => e)).mono (fun x _ hx => by simp at hx; omega), ((((Chg.refl No w).alloc _).alloc _).trans HC3.out (fun x hx e => absurd hx (by omega))).trans' (Chg.drewN _ _)⟩

set_option maxRecDepth 100000 in
/-- No table of null. -/
theorem table_null {ok : Nat → Prop} {w : World} {cs : List Value} {N d : Nat} (hN : N < 1099511627776) (hv : ValJ ok w cs .null) (wf : Wf N d .null) (hsz : sz .null ≤ 2000) (hd : d ≤ 61) :
    Calls Tryz.prog 45 #[.agg cs.toArray] w fun e w' => e = .returned (.tuple #[.map none, .bool true]) ∧ Chg No w w' := by
  obtain ⟨b, i, f, t, kv, lv, rfl⟩ : ∃ b i f t kv lv, cs = cells7 0 b i f t kv lv := by cases hv; exact ⟨_, _, _, _, _, _, rfl⟩
  have HV := Lib.hid hv
  have WF := Lib.hid wf
  have HSZ := Lib.hid hsz
  clear hv wf hsz
  go_enter Tryz.func45, Tryz.ntmps45
  unfold cells7
  have hb0 := Blk.new w (cells7 0 b i f t kv lv) 26
  have hbl := hb0.lt
  go_wp2_with (first | (with_reducible refine wpList_loadAgg rfl agg26 rfl rfl (hb0.alloc _).cells rfl ?_))
  have hp := Blk.new (w.alloc (.cells (cells7 0 b i f t kv lv).toArray 26)) [.int .i64 0] 3
  have hcall := anyOf_any N hN d (okB ok w) .null (cells7 0 b i f t kv lv) ((w.alloc (.cells (cells7 0 b i f t kv lv).toArray 26)).alloc (.cells [.int .i64 0].toArray 3)) (w.heap.size + 1) 0 0 (HV.out.keepP (((Chg.refl No w).alloc _).alloc _) (fun _ _ _ e => e)) WF.out (by simpa using hp) (fun h => by have := h.2; omega) (by have := HSZ.out; omega) (by omega)
  refine hcall.mono ?_
  rintro e w3 ⟨v, rfl, hva, hc3, -⟩
  obtain rfl : v = .nilIface := by cases hva; rfl
  have has : ∀ z, (Instr.typeAssert .nilIface 20 67 true).run Tryz.prog z = .ok (.tuple #[.map none, .bool false]) z := fun z => by kernel_rfl
  have hk0 : w3.cell? ⟨w.heap.size, 0, none⟩ = some (.int .i64 0) := (((hb0.alloc (.cells [Value.int .i64 0].toArray 3)).chg hc3 (by omega)).cell 0)
  have HC3 := Lib.hid hc3
  clear hcall hva hc3
  go_wp2_with fail
  go_quiet (fail)
  go_wp2
  go_ret2
  exact ⟨rfl, ((((Chg.refl No w).alloc _).alloc _).trans HC3.out (fun x hx e => absurd hx (by omega))).trans' (Chg.drewN _ _)⟩

set_option maxRecDepth 100000 in
/-- ZzMergeMaps hands on to mergeMaps. -/
theorem zzMergeMaps_any {va vb : Value} {w : World} {ok : Nat → Prop} {j : J} (h : Calls Tryz.prog 95 #[va, vb] w (MergedPost ok w j)) : Calls Tryz.prog 61 #[va, vb] w (MergedPost ok w j) := by
  go_enter Tryz.func61, Tryz.ntmps61
  go_wp2_with fail
  refine h.mono ?_
  rintro e w1 ⟨r, rfl, h1, h2⟩
  go_wp2
  go_ret
  exact ⟨r, rfl, h1, h2⟩

end Go.Proofs.YtljaoopfomcaoaaGreatDoor
