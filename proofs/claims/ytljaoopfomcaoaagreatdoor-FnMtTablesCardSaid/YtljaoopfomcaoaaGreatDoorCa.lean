/-
  FnMtTables: for every input the law returns true, and each argument reads behind the call as it read before: the row, and its tied card. No condition is added.
-/
import Derived.Test.YtljaoopfomcaoaaGreatDoorCards
import Derived.Test.YtljaoopfomcaoaaGreatDoorTie
import Derived.Test.YtljaoopfomcaoaaGreatDoorRa
import Derived.Test.YtljaoopfomcaoaaGreatDoorVr
import Derived.ProofKit
import Derived.OpenShut
import Derived.Lay
import Derived.SevenTiedAt
import Derived.Stop.Joined
set_option linter.unusedVariables false
set_option linter.unusedSimpArgs false
namespace Go.Proofs.YtljaoopfomcaoaaGreatDoor
open Go.ChangeShapes Go.WideShapes Go.ChangeAt Go.RowKit

theorem ownKnob_none : ownKnob Tryz.prog.godebug = none := by kernel_rfl

theorem cells_of_slice {P : Program} {w : World} {r : Reach} {base : Nat} {t e : TypeId} {v : Value} (ht : P.underlying t = some (.slice e)) (h : Value.okWide P w r base t v) : v.cells.toList = [v] := by
  cases v with
  | agg cs => simp [Value.okWide, ht, Cell.okWide, Cell.ok] at h
  | _ => rfl

theorem agg_of_struct {P : Program} {w : World} {r : Reach} {base : Nat} {t : TypeId} {fs : Array Field} {v : Value} (ht : P.underlying t = some (.struct fs)) (h : Value.okWide P w r base t v) : ∃ cs : List Value, v = .agg cs.toArray := by
  simp only [Value.okWide, ht] at h
  obtain ⟨cs, rfl, -⟩ := h
  exact ⟨cs.toList, by simp⟩

section
variable {H : Type} {enc : TypeId × Value → H} {W : World}

set_option maxRecDepth 100000 in
/-- An argument of type impl.Value is raw. -/
theorem raw_arg {v : Value} {d : DataW H} {p : List MemPlace} {base : Nat} (hv : Value.okWide Tryz.prog W .any base 26 v) (h : DataW.Trod enc Tryz.prog W 0 (fun _ => true) true 26 v d p) (hw : ∀ n ∈ d.weights Tryz.prog 26, n ≤ reachBytes) :
    ∃ cs : List Value, v = .agg cs.toArray ∧ RawV (okW W) W cs := by
  obtain ⟨cs, rfl⟩ := agg_of_struct Tryz.underlying26 hv
  obtain ⟨fuel, h⟩ := h
  exact ⟨cs, rfl, raw_of_trod fuel cs _ h hw⟩

set_option maxRecDepth 100000 in
/-- An argument of type []impl.Value has raw rows. -/
theorem raws_arg {v : Value} {d : DataW H} {p : List MemPlace} {base : Nat} (hv : Value.okWide Tryz.prog W .any base 24 v) (h : DataW.Trod enc Tryz.prog W 0 (fun _ => true) true 24 v d p) (hw : ∀ n ∈ d.weights Tryz.prog 24, n ≤ reachBytes) :
    ∃ rows, RowAt (okW W) W v 7 rows ∧ ∀ r ∈ rows, RawV (okW W) W r := by
  obtain ⟨fuel, h⟩ := h
  rw [cells_of_slice Tryz.underlying24 hv] at h
  obtain ⟨rows, h1, n, -, h2⟩ := rows_of_trod Tryz.underlying24 cells_of_26 (by decide) h
  exact ⟨rows, h1, fun r hr => by
    obtain ⟨y, hy, hyw⟩ := h2 r hr
    exact raw_of_trod n r y hy (fun m hm => hw m (hyw m hm))⟩

end

theorem types4 : (Tryz.f4.params.toList.all fun t => decide (t < Tryz.prog.types.size)) = true := by kernel_rfl

set_option maxRecDepth 100000 in
theorem tables_contract (H : Type) (enc : TypeId × Value → H) (W : World) (base : Nat) (args : Array Value) (ds gs : List (DataW H)) (before : List MemPlace)
    (hval : ∀ (j : Nat) t v, Tryz.f4.params[j]? = some t → args[j]? = some v → Value.okWide Tryz.prog W .any base t v)
    (hW : DataW.Whole enc Tryz.prog Tryz.f4.params.toList Rows.fnMtTablesSpec.vars false W args.toList ds gs before)
    (hsz : (DataW.weightsEach Tryz.prog (Tryz.f4.params.toList ++ Rows.fnMtTablesSpec.plain.varTypes Tryz.prog) (ds ++ gs)).all (· ≤ reachBytes) = true) :
    Calls Tryz.prog 4 args W fun e W' => ∃ v, e = .returned v ∧ Rows.fnMtTablesSpec.post enc Tryz.prog Tryz.f4 false true false false W args v W' := by
  have hW' := hW
  obtain ⟨p, q, hA0, hV, rfl, -, -⟩ := hW
  have hA : DataW.TrodAll enc Tryz.prog W 0 (fun _ => true) true Tryz.f4.params.toList args.toList ds p := hA0
  rw [Tryz.params4] at hA hval
  obtain ⟨v0, vs0, d0, ds0, p0, q0, hargs, rfl, rfl, h0, r0⟩ := trodAll_cons hA
  obtain ⟨v1, vs1, d1, ds1, p1, q1, rfl, rfl, rfl, h1, r1⟩ := trodAll_cons r0
  obtain ⟨v2, vs2, d2, ds2, p2, q2, rfl, rfl, rfl, h2, r2⟩ := trodAll_cons r1
  obtain ⟨rfl, rfl, rfl⟩ := trodAll_nil r2
  obtain rfl : args = #[v0, v1, v2] := by cases args; simp_all
  obtain ⟨rfl, rfl⟩ := trodVars_none hV
  have hw : ∀ (j : Nat) (t : TypeId) (d : DataW H), [26, 26, 24][j]? = some t → [d0, d1, d2][j]? = some d → ∀ n ∈ d.weights Tryz.prog t, n ≤ reachBytes := by
    intro j t d hj hd n hn
    have h3 := List.all_eq_true.1 hsz n (DataW.weights_mem_each (j := j) (t := t) (d := d) (by
      rw [Tryz.params4]
      exact (List.getElem?_append_left (by have := (List.getElem?_eq_some_iff.1 hj).1; simpa using this)).trans hj) (by rw [List.append_nil]; exact hd) n hn)
    simpa using h3
  obtain ⟨ca, rfl, hra⟩ := raw_arg (hval 0 26 v0 rfl rfl) h0 (hw 0 26 d0 rfl rfl)
  obtain ⟨cb, rfl, hrb⟩ := raw_arg (hval 1 26 v1 rfl rfl) h1 (hw 1 26 d1 rfl rfl)
  obtain ⟨rows, hl, hr⟩ := raws_arg (hval 2 24 v2 rfl rfl) h2 (hw 2 24 d2 rfl rfl)
  refine (tables_any hra hrb hl hr).mono fun e W' ⟨he, hc⟩ => ?_
  subst he
  refine ⟨_, rfl, post_chg (fun t ht => by simpa using List.all_eq_true.1 types4 t ht) rfl hW' hc (fun _ _ _ => trodAll_mk1 (shut_bool Tryz.underlying4 _)) rfl rfl (ok_one (by kernel_rfl) rfl (okWide_bool_mk Tryz.underlying4 _))⟩

/-! ### The row -/

theorem tables_named : Tryz.pinned.checked.prog.funcNamed Rows.fnMtTablesRow.func = some 4 := by kernel_rfl
theorem tables_facts : joinedFacts Tryz.pinned.checked.prog 4 Tryz.f4 (OpenSpec.ofChange Rows.fnMtTablesSpec).bare Rows.fnMtTablesRow = true := by kernel_rfl
theorem tables_inst : Tryz.f4.isInstance Tryz.pinned.checked.prog Rows.fnMtTablesRow.origin Rows.fnMtTablesRow.targs := of_decide_eq_true (by kernel_rfl)
theorem tables_wrap : Tryz.f4.isWrapper Tryz.pinned.checked.prog Rows.fnMtTablesRow.wrapper Rows.fnMtTablesRow.mainSum := by
  unfold Func.isWrapper; first | (rw [if_pos (by decide +kernel)]; kernel_rfl) | (rw [if_neg (by decide +kernel)]; exact ⟨rfl, rfl⟩)

/-- The world that the witness begins in. -/
noncomputable abbrev world0 (os : Os) : World := World.laidAll Tryz.prog os Rows.fnMtTablesRow.laid
abbrev args0 : Array Value := #[.agg zero7.toArray, .agg zero7.toArray, .slice none 0 0]

theorem shaped0 (os : Os) (args : Array Value) : ((world0 os).forCall (fun _ _ => 0) ⟨#[], args, []⟩).Shaped Tryz.prog := World.shaped_of_ZipB (by kernel_rfl) (by kernel_rfl)
theorem laid0 (os : Os) (args : Array Value) : laidMetH Tryz.prog Rows.fnMtTablesRow.laid ((world0 os).forCall (fun _ _ => 0) ⟨#[], args, []⟩).memory := by
  rw [MakeChecks.laidMetH_plain _ _ _ (by kernel_rfl)]
  exact laidMet_laidAll _ (by kernel_rfl) (by kernel_rfl)
theorem okArgs0 (os : Os) : Input.okWideB Tryz.prog ((world0 os).forCall (fun _ _ => 0) ⟨#[], args0, []⟩) 4 ⟨#[], args0, []⟩ = true := by kernel_rfl
theorem preArgs0 (os : Os) {H : Type} (enc : TypeId × Value → H) : Rows.fnMtTablesSpec.preB enc Tryz.prog Tryz.f4 Rows.fnMtTablesRow.domain false ((world0 os).forCall (fun _ _ => 0) ⟨#[], args0, []⟩).memory args0 8 = true := by kernel_rfl
theorem sizedArgs0 (os : Os) {H : Type} (enc : TypeId × Value → H) : Rows.fnMtTablesSpec.sizedB enc Tryz.prog Tryz.f4 false ((world0 os).forCall (fun _ _ => 0) ⟨#[], args0, []⟩).memory args0 8 = true := by kernel_rfl

set_option maxRecDepth 100000 in
theorem tables_lifted (os : Os) (started : os.Started) (H : Type) (enc : TypeId × Value → H) :
    ReturnsInHanded {} Tryz.checked os 4 .any (fun w args => (Rows.fnMtTablesSpec.pre enc Tryz.prog Tryz.f4 Rows.fnMtTablesRow.domain false w args ∧ laidMetH Tryz.prog Rows.fnMtTablesRow.laid w) ∧ sizedMet enc Tryz.prog Tryz.f4 (OpenSpec.ofChange Rows.fnMtTablesSpec) false w args)
      (Rows.fnMtTablesSpec.post enc Tryz.prog Tryz.f4 false true false false) := by
  refine returnsInHanded_of_change_and (C := Tryz.checked) (X := fun w _ => laidMetH Tryz.prog Rows.fnMtTablesRow.laid w) (fun _ _ _ hh h => h.of_heap hh) ownKnob_none started (by kernel_rfl) Tryz.func4
    (ChangeSpec.witness_shaped (enc := enc) (C := Tryz.checked) (os := os) (X := fun w _ => laidMetH Tryz.prog Rows.fnMtTablesRow.laid w) false (world0 os) args0 8 (World.laidAll_os _ _ _)
      (shaped0 os args0) (okArgs0 os) (preArgs0 os enc) (sizedArgs0 os enc) (laid0 os args0)) ?_
  intro W base args ds gs before hval hW _ hsz _ _
  exact tables_contract H enc W base args ds gs before hval hW hsz

set_option maxRecDepth 100000 in
theorem tables_pre (H : Type) (enc : TypeId × Value → H) : Rows.fnMtTablesRow.pre enc Tryz.prog Tryz.f4 (OpenSpec.ofChange Rows.fnMtTablesSpec) = fun w args => (Rows.fnMtTablesSpec.pre enc Tryz.prog Tryz.f4 Rows.fnMtTablesRow.domain false w args ∧ laidMetH Tryz.prog Rows.fnMtTablesRow.laid w) ∧ sizedMet enc Tryz.prog Tryz.f4 (OpenSpec.ofChange Rows.fnMtTablesSpec) false w args := by
  rw [OpenClaim.pre_eq_preRow]
  rfl

theorem tables_holds : Rows.FnMtTablesSaid :=
  OpenClaim.holds_of_cond 4 Tryz.f4 rfl rfl rfl rfl rfl rfl rfl ⟨rfl, rfl, rfl, rfl, rfl⟩ rfl rfl rfl rfl rfl tables_named Tryz.func4 tables_facts tables_inst tables_wrap
    (fun os started H enc _ F => by
      have h := tables_lifted os started H enc
      rw [← tables_pre] at h
      exact h)

set_option maxRecDepth 100000 in
theorem tables_card_holds : Rows.FnMtTablesCardSaid :=
  Claim7.holds_tied_plain_at .later [] _ _ _ _ tables_holds (fun _ h => by cases h) (by kernel_rfl) (fun _ h => by cases h) fnMtTables_row_tie rfl ⟨rfl, rfl⟩ (by kernel_rfl) rfl
    (fun f fn hf hfn => by
      obtain rfl : f = 4 := Option.some.inj ((show Tryz.prog.funcNamed "given.example/pub-monody/laws.FnMtTables" = some 4 by kernel_rfl).symm.trans hf) |>.symm
      obtain rfl : fn = Tryz.f4 := (Option.some.inj (Tryz.func4.symm.trans hfn)).symm
      refine ⟨by kernel_rfl, fun j t ht => ?_⟩
      rw [Tryz.params4] at ht
      have hm : t ∈ [26, 26, 24] := by simpa using Array.mem_of_getElem? ht
      have hall : ([26, 26, 24].all fun u => !Tryz.prog.wantsStandIn u) = true := by kernel_rfl
      exact (show Tryz.prog.wantsStandIn t = false by simpa using List.all_eq_true.1 hall t hm))
    (by kernel_rfl)
#print axioms tables_card_holds
end Go.Proofs.YtljaoopfomcaoaaGreatDoor
