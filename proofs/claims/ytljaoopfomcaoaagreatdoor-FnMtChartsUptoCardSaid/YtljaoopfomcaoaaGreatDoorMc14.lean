/-
  FnMtCharts: where what is read is of bulk at most 1048576, the law returns true, and each argument reads behind the call as it read before: the row, and its tied card. No condition is added.
-/
import Derived.Test.YtljaoopfomcaoaaGreatDoorMc13
import Derived.Test.YtljaoopfomcaoaaGreatDoorCards
import Derived.Test.YtljaoopfomcaoaaGreatDoorTie
import Derived.ProofKit
import Derived.OpenShut
import Derived.Lay
import Derived.SevenTiedAt
import Derived.Stop.Joined
import Derived.Deep.DeepHandedRow
set_option linter.unusedVariables false
set_option linter.unusedSimpArgs false
set_option maxRecDepth 100000
set_option maxHeartbeats 4000000
namespace Go.Proofs.YtljaoopfomcaoaaGreatDoor
open Go.ChangeShapes Go.WideShapes Go.ChangeAt Go.RowKit
namespace Ir
theorem BI : ownKnob Tryz.prog.godebug = none := by kernel_rfl
theorem tC {P : Program} {w : World} {r : Reach} {base : Nat} {t : TypeId} {fs : Array Field} {v : Value} (ht : P.underlying t = some (.struct fs)) (h : Value.okWide P w r base t v) : ∃ cs : List Value, v = .agg cs.toArray := by
 simp only [Value.okWide, ht] at h
 obtain ⟨cs, rfl, -⟩ := h
 exact ⟨cs.toList, by simp⟩
section
variable {H : Type} {enc : TypeId × Value → H} {W : World}
theorem KD {v : Value} {d : DataW H} {p : List MemPlace} {base : Nat} (hv : Value.okWide Tryz.prog W .any base 26 v) (h : DataW.Trod enc Tryz.prog W 0 (λ_ => true) true 26 v d p) (hw : ∀ n ∈ d.weights Tryz.prog 26, n <= reachBytes) :
  ∃ cs : List Value, v = .agg cs.toArray ∧ jK (okW W) W cs := by
 obtain ⟨cs, rfl⟩ := tC Tryz.underlying26 hv
 obtain ⟨fuel, h⟩ := h
 exact ⟨cs, rfl, wV fuel cs _ h hw⟩
theorem Jk {v : Value} {d : DataW H} {p : List MemPlace} {base : Nat} (hv : Value.okWide Tryz.prog W .any base 30 v) (h : DataW.Trod enc Tryz.prog W 0 (λ_ => true) true 30 v d p) (hw : ∀ n ∈ d.weights Tryz.prog 30, n <= reachBytes) (hb : Rows.uptoBulk d <= 1048576) :
  ∃ cs : List Value, v = .agg cs.toArray ∧ kG (okW W) W cs := by
 obtain ⟨cs, rfl⟩ := tC Tryz.underlying30 hv
 obtain ⟨fuel, h⟩ := h
 exact ⟨cs, rfl, BH fuel cs _ h hw hb⟩
end
theorem LY : (Tryz.f3.params.toList.all λt => decide (t < Tryz.prog.types.size)) = true := by kernel_rfl
theorem xQ (H : Type) (enc : TypeId × Value → H) (W : World) (base : Nat) (args : Array Value) (ds gs : List (DataW H)) (before : List MemPlace)
  (hval : ∀ (j : Nat) t v, Tryz.f3.params[j]? = some t → args[j]? = some v → Value.okWide Tryz.prog W .any base t v)
  (hW : DataW.Whole enc Tryz.prog Tryz.f3.params.toList Rows.fnMtChartsSpec.vars false W args.toList ds gs before)
  (Om : Rows.uptoSmall H (ds ++ gs) = true)
  (Ns : (DataW.weightsEach Tryz.prog (Tryz.f3.params.toList ++ Rows.fnMtChartsSpec.plain.varTypes Tryz.prog) (ds ++ gs)).all (· <= reachBytes) = true) :
  Calls Tryz.prog 3 args W λe W' => ∃ v, e = .returned v ∧ Rows.fnMtChartsSpec.post enc Tryz.prog Tryz.f3 false true false false W args v W' := by
 have Oo := hW
 obtain ⟨p, q, Oq, hV, rfl, -, -⟩ := hW
 have hA : DataW.TrodAll enc Tryz.prog W 0 (λ_ => true) true Tryz.f3.params.toList args.toList ds p := Oq
 rw [Tryz.params3] at hA hval
 obtain ⟨v0, OO, d0, OQ, p0, q0, Ot, rfl, rfl, h0, r0⟩ := trodAll_cons hA
 obtain ⟨v1, OT, d1, OU, p1, q1, rfl, rfl, rfl, h1, r1⟩ := trodAll_cons r0
 obtain ⟨rfl, rfl, rfl⟩ := trodAll_nil r1
 obtain rfl : args = #[v0, v1] := by cases args; simp_all
 obtain ⟨rfl, rfl⟩ := trodVars_none hV
 have hw : ∀ (j : Nat) (t : TypeId) (d : DataW H), [30, 26][j]? = some t → [d0, d1][j]? = some d → ∀ n ∈ d.weights Tryz.prog t, n <= reachBytes := by
  intro j t d hj hd n hn
  have h3 := List.all_eq_true.1 Ns n (DataW.weights_mem_each (j := j) (t := t) (d := d) (by
   rw [Tryz.params3]
   exact (List.getElem?_append_left (by have := (gS'.1 hj).1; simpa using this)).trans hj) (by rw [List.append_nil]; exact hd) n hn)
  simpa using h3
 have Md : Rows.uptoBulkAll ([d0, d1] ++ []) <= 1048576 := of_decide_eq_true Om
 rw [List.append_nil] at Md
 have Ou : Rows.uptoBulk d0 <= 1048576 := Nat.le_trans (nV (l := [d0, d1]) (by simp)) Md
 obtain ⟨ca, rfl, Ov⟩ := Jk (hval 0 30 v0 rfl rfl) h0 (hw 0 30 d0 rfl rfl) Ou
 obtain ⟨cb, rfl, Nq⟩ := KD (hval 1 26 v1 rfl rfl) h1 (hw 1 26 d1 rfl rfl)
 refine (yX (okW W) ca cb W Ov Nq).mono λe W' he => ?_
 obtain ⟨r, rfl, hc, rfl⟩ := he
 refine ⟨_, rfl, Ji (λt ht => by simpa using List.all_eq_true.1 LY t ht) rfl Oo hc (λ_ _ _ => trodAll_mk1 (shut_bool Tryz.underlying4 _)) rfl rfl (ok_one (by kernel_rfl) rfl (okWide_bool_mk Tryz.underlying4 _))⟩
theorem BJ : Tryz.pinned.checked.prog.funcNamed Rows.fnMtChartsUptoRow.func = some 3 := by kernel_rfl
theorem BK : joinedFacts Tryz.pinned.checked.prog 3 Tryz.f3 (Rows.OpenSpec.upto Rows.fnMtChartsSpec).bare Rows.fnMtChartsUptoRow = true := by kernel_rfl
theorem EC : Tryz.f3.isInstance Tryz.pinned.checked.prog Rows.fnMtChartsUptoRow.origin Rows.fnMtChartsUptoRow.targs := of_decide_eq_true (by kernel_rfl)
theorem ED : Tryz.f3.isWrapper Tryz.pinned.checked.prog Rows.fnMtChartsUptoRow.wrapper Rows.fnMtChartsUptoRow.mainSum := by
 unfold Func.isWrapper; first | (rw [if_pos (by decide +kernel)]; kernel_rfl) | (rw [if_neg (by decide +kernel)]; exact ⟨rfl, rfl⟩)
noncomputable abbrev pq (os : Os) : World := World.laidAll Tryz.prog os Rows.fnMtChartsUptoRow.laid
abbrev mZ : Array Value := #[.agg (az ByteArray.empty ByteArray.empty 0 false 0 0 ByteArray.empty (.slice none 0 0) (.slice none 0 0) (.slice none 0 0) (.slice none 0 0)).toArray, .agg bu.toArray]
theorem Nu (os : Os) (args : Array Value) : ((pq os).forCall (λ_ _ => 0) ⟨#[], args, []⟩).variablesB Tryz.prog = true := by kernel_rfl
theorem Nv (os : Os) (args : Array Value) : (((pq os).forCall (λ_ _ => 0) ⟨#[], args, []⟩).heap.toList.drop Tryz.prog.globals.size).take ((begin Tryz.prog (λ_ _ => 0) default).world.heap.size - Tryz.prog.globals.size) = (begin Tryz.prog (λ_ _ => 0) default).world.heap.toList.drop Tryz.prog.globals.size := by kernel_rfl
theorem Nw (os : Os) (args : Array Value) : laidMetH Tryz.prog Rows.fnMtChartsUptoRow.laid ((pq os).forCall (λ_ _ => 0) ⟨#[], args, []⟩).memory := by
 rw [MakeChecks.laidMetH_plain _ _ _ (by kernel_rfl)]
 exact laidMet_laidAll _ (by kernel_rfl) (by kernel_rfl)
theorem KE (os : Os) : Input.okWideB Tryz.prog ((pq os).forCall (λ_ _ => 0) ⟨#[], mZ, []⟩) 3 ⟨#[], mZ, []⟩ = true := by kernel_rfl
theorem FY (os : Os) {H : Type} (enc : TypeId × Value → H) : (DataW.whole enc Tryz.prog ((pq os).forCall (λ_ _ => 0) ⟨#[], mZ, []⟩).memory Tryz.f3.params.toList (Rows.OpenSpec.upto Rows.fnMtChartsSpec).vars false mZ.toList 8).any (λx => Rows.fnMtChartsUptoRow.domain.all (PathCond.test Tryz.prog ⟨Tryz.f3.params.toList, x.1, (Rows.OpenSpec.upto Rows.fnMtChartsSpec).bare.plain.varTypes Tryz.prog, x.2.1⟩) && Rows.uptoSmall H (x.1 ++ x.2.1)) = true := by kernel_rfl
theorem FZ (os : Os) {H : Type} (enc : TypeId × Value → H) : (Rows.OpenSpec.upto Rows.fnMtChartsSpec).bare.sizedB enc Tryz.prog Tryz.f3 false ((pq os).forCall (λ_ _ => 0) ⟨#[], mZ, []⟩).memory mZ 8 = true := by kernel_rfl
theorem Jl (os : Os) {H : Type} (enc : TypeId × Value → H) : (Rows.OpenSpec.upto Rows.fnMtChartsSpec).preRow enc Tryz.prog Tryz.f3 Rows.fnMtChartsUptoRow.domain false Rows.fnMtChartsUptoRow.laid ((pq os).forCall (λ_ _ => 0) ⟨#[], mZ, []⟩).memory mZ := by
 obtain ⟨h, hp⟩ := (Option.any_eq_true_iff_get _ _).1 (FY os enc)
 rw [Bool.and_eq_true] at hp
 exact OpenSpec.preRow_of_cond 8 (Option.some_get h).symm hp.1 (λk hk => by cases hk; exact hp.2) (FZ os enc) (Nw os mZ)
theorem AX (os : Os) (started : os.Started) (H : Type) (enc : TypeId × Value → H) (F : Stop.Interp) :
  ReturnsInHanded {} Tryz.checked os 3 .any ((Rows.OpenSpec.upto Rows.fnMtChartsSpec).preRow enc Tryz.prog Tryz.f3 Rows.fnMtChartsUptoRow.domain false Rows.fnMtChartsUptoRow.laid)
   (((Rows.OpenSpec.upto Rows.fnMtChartsSpec).at F).post enc Tryz.prog Tryz.f3 false true false false) := by
 refine returnsInHanded_of_row (C := Tryz.checked) (s := Rows.OpenSpec.upto Rows.fnMtChartsSpec) BI started (by kernel_rfl) Tryz.func3
  (witness_row_at (enc := enc) (C := Tryz.checked) false (pq os) mZ (World.laidAll_os _ _ _) (Nu os mZ) (Nv os mZ) (KE os) (Jl os enc)) ?_
 intro W base args ds gs before hval hW _ Ny Ns _ _ _
 exact xQ H enc W base args ds gs before hval hW (Ny _ rfl) Ns
theorem BL : Rows.FnMtChartsUptoSaid :=
 OpenClaim.holds_of_cond 3 Tryz.f3 rfl rfl rfl rfl rfl rfl rfl ⟨rfl, rfl, rfl, rfl, rfl⟩ rfl rfl rfl rfl rfl BJ Tryz.func3 BK EC ED
  (λos started H enc _ F => by rw [OpenClaim.pre_eq_preRow]; exact AX os started H enc F)
end Ir
theorem charts_card_holds : Rows.FnMtChartsUptoCardSaid :=
 Claim7.holds_tied_plain_at .later [] _ _ _ _ Ir.BL (λ_ h => by cases h) (by kernel_rfl) (λ_ h => by cases h) fnMtChartsUpto_row_tie rfl ⟨rfl, rfl⟩ (by kernel_rfl) rfl
  (λf fn hf Ox => by
   obtain rfl : f = 3 := Option.some.inj ((show Tryz.prog.funcNamed "given.example/pub-monody/laws.FnMtCharts" = some 3 by kernel_rfl).symm.trans hf) |>.symm
   obtain rfl : fn = Tryz.f3 := (Option.some.inj (Tryz.func3.symm.trans Ox)).symm
   refine ⟨by kernel_rfl, λj t ht => ?_⟩
   rw [Tryz.params3] at ht
   have hm : t ∈ [30, 26] := by simpa using Array.mem_of_getElem? ht
   have jS : ([30, 26].all λu => !Tryz.prog.wantsStandIn u) = true := by kernel_rfl
   exact (show Tryz.prog.wantsStandIn t = false by simpa using List.all_eq_true.1 jS t hm))
  (by kernel_rfl)
#print axioms charts_card_holds
end Go.Proofs.YtljaoopfomcaoaaGreatDoor
