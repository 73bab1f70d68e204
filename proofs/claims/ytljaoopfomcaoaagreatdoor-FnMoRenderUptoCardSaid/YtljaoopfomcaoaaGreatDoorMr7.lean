/-
  FnMoRender: where what is read is of bulk at most 1048576, the law returns true, and each argument reads behind the call as it read before: the row, and its tied card. No condition is added.
-/
import Derived.Test.YtljaoopfomcaoaaGreatDoorMr6
import Derived.Test.YtljaoopfomcaoaaGreatDoorCards
import Derived.Test.YtljaoopfomcaoaaGreatDoorTie
import Derived.ProofKit
import Derived.OpenShut
import Derived.Lay
import Derived.SevenTiedAt
import Derived.Stop.Joined
import Derived.Deep.DeepHandedRow
set_option linter.unusedVariables false
set_option linter.unusedSimpArgs false
set_option maxRecDepth 100000
set_option maxHeartbeats 4000000
namespace Go.Proofs.YtljaoopfomcaoaaGreatDoor
open Go.ChangeShapes Go.WideShapes Go.ChangeAt Go.RowKit
namespace Render
theorem ownKnob_none : ownKnob Tryz.prog.godebug = none := by kernel_rfl
theorem agg_of_struct {P : Program} {w : World} {r : Reach} {base : Nat} {t : TypeId} {fs : Array Field} {v : Value} (ht : P.underlying t = some (.struct fs)) (h : Value.okWide P w r base t v) : ∃ cs : List Value, v = .agg cs.toArray := by
 simp only [Value.okWide, ht] at h
 obtain ⟨cs, rfl, -⟩ := h
 exact ⟨cs.toList, by simp⟩
theorem list5 {cs : List Value} (h : cs.length = 5) : ∃ a b c d e, cs = [a, b, c, d, e] := by
 match cs, h with
 | [a, b, c, d, e], _ => exact ⟨a, b, c, d, e, rfl⟩
section
variable {H : Type} {enc : TypeId × Value -> H} {W : World}
theorem cells_of_55 : Tryz.prog.cellsOf 55 = 5 := by kernel_rfl
theorem raw_arg {v : Value} {d : DataW H} {p : List MemPlace} {base : Nat} (hv : Value.okWide Tryz.prog W .any base 26 v) (h : DataW.Trod enc Tryz.prog W 0 (fun _ => true) true 26 v d p) (hw : ∀ n ∈ d.weights Tryz.prog 26, n ≤ reachBytes) :
  ∃ cs : List Value, v = .agg cs.toArray /\ RawV (okW W) W cs := by
 obtain ⟨cs, rfl⟩ := agg_of_struct Tryz.underlying26 hv
 obtain ⟨fuel, h⟩ := h
 exact ⟨cs, rfl, raw_of_trod fuel cs _ h hw⟩
theorem rawC_arg {v : Value} {d : DataW H} {p : List MemPlace} {base : Nat} (hv : Value.okWide Tryz.prog W .any base 30 v) (h : DataW.Trod enc Tryz.prog W 0 (fun _ => true) true 30 v d p) (hw : ∀ n ∈ d.weights Tryz.prog 30, n ≤ reachBytes) (hb : Rows.uptoBulk d ≤ 1048576) :
  ∃ cs : List Value, v = .agg cs.toArray /\ RawC (okW W) W cs := by
 obtain ⟨cs, rfl⟩ := agg_of_struct Tryz.underlying30 hv
 obtain ⟨fuel, h⟩ := h
 exact ⟨cs, rfl, rawC_of_trod fuel cs _ h hw hb⟩
theorem release_arg {v : Value} {d : DataW H} {p : List MemPlace} {base : Nat} (hv : Value.okWide Tryz.prog W .any base 55 v) (h : DataW.Trod enc Tryz.prog W 0 (fun _ => true) true 55 v d p) (hb : Rows.uptoBulk d ≤ 1048576) :
  ∃ (nm ns : K) (rev : Int) (up ins : Bool), v = .agg (cellsR nm ns rev up ins).toArray /\ kSm nm /\ kSm ns := by
 obtain ⟨cs, rfl⟩ := agg_of_struct Tryz.underlying55 hv
 obtain ⟨fuel, h⟩ := h
 obtain ⟨n, rfl, hl, hf⟩ := fieldB_of_trod Tryz.underlying55 h
 simp only [Value.cells] at hl hf
 rw [cells_of_55] at hl
 obtain ⟨c0, c1, c2, c3, c4, rfl⟩ := list5 hl
 obtain ⟨y0, h0, -, b0⟩ := hf 0 _ 9 0 1 rfl rfl rfl cells_of_9
 obtain ⟨y1, h1, -, b1⟩ := hf 1 _ 9 1 1 rfl rfl rfl cells_of_9
 obtain ⟨y2, h2, -, b2⟩ := hf 2 _ 3 2 1 rfl rfl rfl cells_of_3
 obtain ⟨y3, h3, -, -⟩ := hf 3 _ 4 3 1 rfl rfl rfl cells_of_4
 obtain ⟨y4, h4, -, -⟩ := hf 4 _ 4 4 1 rfl rfl rfl cells_of_4
 simp only [List.drop_succ_cons, List.drop_zero, List.take_succ_cons, List.take_zero] at h0 h1 h2 h3 h4
 have b0' : Rows.uptoBulk y0.1 ≤ 1048576 := Nat.le_trans b0 hb
 have b1' : Rows.uptoBulk y1.1 ≤ 1048576 := Nat.le_trans b1 hb
 obtain ⟨k0, e0, s0⟩ := textB_of_trod h0 b0'
 obtain ⟨k1, e1, s1⟩ := textB_of_trod h1 b1'
 obtain ⟨i, e2, -, -⟩ := DataW.trod_int Tryz.underlying3 h2
 obtain ⟨b, e3, -⟩ := DataW.trod_bool Tryz.underlying4 h3
 obtain ⟨b', e4, -⟩ := DataW.trod_bool Tryz.underlying4 h4
 cases e0; cases e1; cases e2; cases e3; cases e4
 exact ⟨k0, k1, i, b, b', rfl, s0, s1⟩
end
theorem types5 : (Tryz.f5.params.toList.all fun t => decide (t < Tryz.prog.types.size)) = true := by kernel_rfl
theorem render_contract (H : Type) (enc : TypeId × Value -> H) (W : World) (base : Nat) (args : Array Value) (ds gs : List (DataW H)) (before : List MemPlace)
  (hval : ∀ (j : Nat) t v, Tryz.f5.params[j]? = some t -> args[j]? = some v -> Value.okWide Tryz.prog W .any base t v)
  (hW : DataW.Whole enc Tryz.prog Tryz.f5.params.toList Rows.fnMoRenderSpec.vars false W args.toList ds gs before)
  (hsm : Rows.uptoSmall H (ds ++ gs) = true)
  (hsz : (DataW.weightsEach Tryz.prog (Tryz.f5.params.toList ++ Rows.fnMoRenderSpec.plain.varTypes Tryz.prog) (ds ++ gs)).all (· ≤ reachBytes) = true) :
  Calls Tryz.prog 5 args W fun e W' => ∃ v, e = .returned v /\ Rows.fnMoRenderSpec.post enc Tryz.prog Tryz.f5 false true false false W args v W' := by
 have hW' := hW
 obtain ⟨p, q, hA0, hV, rfl, -, -⟩ := hW
 have hA : DataW.TrodAll enc Tryz.prog W 0 (fun _ => true) true Tryz.f5.params.toList args.toList ds p := hA0
 rw [Tryz.params5] at hA hval
 obtain ⟨v0, vs0, d0, ds0, p0, q0, hargs, rfl, rfl, h0, r0⟩ := trodAll_cons hA
 obtain ⟨v1, vs1, d1, ds1, p1, q1, rfl, rfl, rfl, h1, r1⟩ := trodAll_cons r0
 obtain ⟨v2, vs2, d2, ds2, p2, q2, rfl, rfl, rfl, h2, r2⟩ := trodAll_cons r1
 obtain ⟨rfl, rfl, rfl⟩ := trodAll_nil r2
 obtain rfl : args = #[v0, v1, v2] := by cases args; simp_all
 obtain ⟨rfl, rfl⟩ := trodVars_none hV
 have hw : ∀ (j : Nat) (t : TypeId) (d : DataW H), [30, 26, 55][j]? = some t -> [d0, d1, d2][j]? = some d -> ∀ n ∈ d.weights Tryz.prog t, n ≤ reachBytes := by
  intro j t d hj hd n hn
  have h3 := List.all_eq_true.1 hsz n (DataW.weights_mem_each (j := j) (t := t) (d := d) (by
   rw [Tryz.params5]
   exact (List.getElem?_append_left (by have := (List.getElem?_eq_some_iff.1 hj).1; simpa using this)).trans hj) (by rw [List.append_nil]; exact hd) n hn)
  simpa using h3
 have hsm' : Rows.uptoBulkAll ([d0, d1, d2] ++ []) ≤ 1048576 := of_decide_eq_true hsm
 rw [List.append_nil] at hsm'
 have hb0 : Rows.uptoBulk d0 ≤ 1048576 := Nat.le_trans (bulkAll_mem (l := [d0, d1, d2]) (by simp)) hsm'
 have hb2 : Rows.uptoBulk d2 ≤ 1048576 := Nat.le_trans (bulkAll_mem (l := [d0, d1, d2]) (by simp)) hsm'
 obtain ⟨ca, rfl, hra⟩ := rawC_arg (hval 0 30 v0 rfl rfl) h0 (hw 0 30 d0 rfl rfl) hb0
 obtain ⟨cb, rfl, hrb⟩ := raw_arg (hval 1 26 v1 rfl rfl) h1 (hw 1 26 d1 rfl rfl)
 obtain ⟨nm, ns, rev, up, ins, rfl, hs1, hs2⟩ := release_arg (hval 2 55 v2 rfl rfl) h2 hb2
 refine (fnMoRender_of moAwake_any (okW W) ca cb nm ns rev up ins W hra hrb hs1 hs2).mono fun e W' he => ?_
 obtain ⟨r, rfl, hc, rfl⟩ := he
 refine ⟨_, rfl, post_chg (fun t ht => by simpa using List.all_eq_true.1 types5 t ht) rfl hW' hc (fun _ _ _ => trodAll_mk1 (shut_bool Tryz.underlying4 _)) rfl rfl (ok_one (by kernel_rfl) rfl (okWide_bool_mk Tryz.underlying4 _))⟩
theorem render_named : Tryz.pinned.checked.prog.funcNamed Rows.fnMoRenderUptoRow.func = some 5 := by kernel_rfl
theorem render_facts : joinedFacts Tryz.pinned.checked.prog 5 Tryz.f5 (Rows.OpenSpec.upto Rows.fnMoRenderSpec).bare Rows.fnMoRenderUptoRow = true := by kernel_rfl
theorem render_inst : Tryz.f5.isInstance Tryz.pinned.checked.prog Rows.fnMoRenderUptoRow.origin Rows.fnMoRenderUptoRow.targs := of_decide_eq_true (by kernel_rfl)
theorem render_wrap : Tryz.f5.isWrapper Tryz.pinned.checked.prog Rows.fnMoRenderUptoRow.wrapper Rows.fnMoRenderUptoRow.mainSum := by
 unfold Func.isWrapper; first | (rw [if_pos (by decide +kernel)]; kernel_rfl) | (rw [if_neg (by decide +kernel)]; exact ⟨rfl, rfl⟩)
noncomputable abbrev world0 (os : Os) : World := World.laidAll Tryz.prog os Rows.fnMoRenderUptoRow.laid
abbrev args0 : Array Value := #[.agg (cells11 ByteArray.empty ByteArray.empty 0 false 0 0 ByteArray.empty (.slice none 0 0) (.slice none 0 0) (.slice none 0 0) (.slice none 0 0)).toArray, .agg zero7.toArray, .agg (cellsR ByteArray.empty ByteArray.empty 0 false false).toArray]
theorem vars0 (os : Os) (args : Array Value) : ((world0 os).forCall (fun _ _ => 0) ⟨#[], args, []⟩).variablesB Tryz.prog = true := by kernel_rfl
theorem rest0 (os : Os) (args : Array Value) : (((world0 os).forCall (fun _ _ => 0) ⟨#[], args, []⟩).heap.toList.drop Tryz.prog.globals.size).take ((begin Tryz.prog (fun _ _ => 0) default).world.heap.size - Tryz.prog.globals.size) = (begin Tryz.prog (fun _ _ => 0) default).world.heap.toList.drop Tryz.prog.globals.size := by kernel_rfl
theorem laid0 (os : Os) (args : Array Value) : laidMetH Tryz.prog Rows.fnMoRenderUptoRow.laid ((world0 os).forCall (fun _ _ => 0) ⟨#[], args, []⟩).memory := by
 rw [MakeChecks.laidMetH_plain _ _ _ (by kernel_rfl)]
 exact laidMet_laidAll _ (by kernel_rfl) (by kernel_rfl)
theorem okArgs0 (os : Os) : Input.okWideB Tryz.prog ((world0 os).forCall (fun _ _ => 0) ⟨#[], args0, []⟩) 5 ⟨#[], args0, []⟩ = true := by kernel_rfl
theorem wholeArgs0 (os : Os) {H : Type} (enc : TypeId × Value -> H) : (DataW.whole enc Tryz.prog ((world0 os).forCall (fun _ _ => 0) ⟨#[], args0, []⟩).memory Tryz.f5.params.toList (Rows.OpenSpec.upto Rows.fnMoRenderSpec).vars false args0.toList 8).any (fun x => Rows.fnMoRenderUptoRow.domain.all (PathCond.test Tryz.prog ⟨Tryz.f5.params.toList, x.1, (Rows.OpenSpec.upto Rows.fnMoRenderSpec).bare.plain.varTypes Tryz.prog, x.2.1⟩) && Rows.uptoSmall H (x.1 ++ x.2.1)) = true := by kernel_rfl
theorem sizedArgs0 (os : Os) {H : Type} (enc : TypeId × Value -> H) : (Rows.OpenSpec.upto Rows.fnMoRenderSpec).bare.sizedB enc Tryz.prog Tryz.f5 false ((world0 os).forCall (fun _ _ => 0) ⟨#[], args0, []⟩).memory args0 8 = true := by kernel_rfl
theorem rowArgs0 (os : Os) {H : Type} (enc : TypeId × Value -> H) : (Rows.OpenSpec.upto Rows.fnMoRenderSpec).preRow enc Tryz.prog Tryz.f5 Rows.fnMoRenderUptoRow.domain false Rows.fnMoRenderUptoRow.laid ((world0 os).forCall (fun _ _ => 0) ⟨#[], args0, []⟩).memory args0 := by
 obtain ⟨h, hp⟩ := (Option.any_eq_true_iff_get _ _).1 (wholeArgs0 os enc)
 rw [Bool.and_eq_true] at hp
 exact OpenSpec.preRow_of_cond 8 (Option.some_get h).symm hp.1 (fun k hk => by cases hk; exact hp.2) (sizedArgs0 os enc) (laid0 os args0)
theorem render_lifted (os : Os) (started : os.Started) (H : Type) (enc : TypeId × Value -> H) (F : Stop.Interp) :
  ReturnsInHanded {} Tryz.checked os 5 .any ((Rows.OpenSpec.upto Rows.fnMoRenderSpec).preRow enc Tryz.prog Tryz.f5 Rows.fnMoRenderUptoRow.domain false Rows.fnMoRenderUptoRow.laid)
   (((Rows.OpenSpec.upto Rows.fnMoRenderSpec).at F).post enc Tryz.prog Tryz.f5 false true false false) := by
 refine returnsInHanded_of_row (C := Tryz.checked) (s := Rows.OpenSpec.upto Rows.fnMoRenderSpec) ownKnob_none started (by kernel_rfl) Tryz.func5
  (witness_row_at (enc := enc) (C := Tryz.checked) false (world0 os) args0 (World.laidAll_os _ _ _) (vars0 os args0) (rest0 os args0) (okArgs0 os) (rowArgs0 os enc)) ?_
 intro W base args ds gs before hval hW _ hcond hsz _ _ _
 exact render_contract H enc W base args ds gs before hval hW (hcond _ rfl) hsz
theorem render_holds : Rows.FnMoRenderUptoSaid :=
 OpenClaim.holds_of_cond 5 Tryz.f5 rfl rfl rfl rfl rfl rfl rfl ⟨rfl, rfl, rfl, rfl, rfl⟩ rfl rfl rfl rfl rfl render_named Tryz.func5 render_facts render_inst render_wrap
  (fun os started H enc _ F => by rw [OpenClaim.pre_eq_preRow]; exact render_lifted os started H enc F)
end Render
theorem render_card_holds : Rows.FnMoRenderUptoCardSaid :=
 Claim7.holds_tied_plain_at .later [] _ _ _ _ Render.render_holds (fun _ h => by cases h) (by kernel_rfl) (fun _ h => by cases h) fnMoRenderUpto_row_tie rfl ⟨rfl, rfl⟩ (by kernel_rfl) rfl
  (fun f fn hf hfn => by
   obtain rfl : f = 5 := Option.some.inj ((show Tryz.prog.funcNamed "given.example/pub-monody/laws.FnMoRender" = some 5 by kernel_rfl).symm.trans hf) |>.symm
   obtain rfl : fn = Tryz.f5 := (Option.some.inj (Tryz.func5.symm.trans hfn)).symm
   refine ⟨by kernel_rfl, fun j t ht => ?_⟩
   rw [Tryz.params5] at ht
   have hm : t ∈ [30, 26, 55] := by simpa using Array.mem_of_getElem? ht
   have hall : ([30, 26, 55].all fun u => !Tryz.prog.wantsStandIn u) = true := by kernel_rfl
   exact (show Tryz.prog.wantsStandIn t = false by simpa using List.all_eq_true.1 hall t hm))
  (by kernel_rfl)
#print axioms render_card_holds
end Go.Proofs.YtljaoopfomcaoaaGreatDoor
