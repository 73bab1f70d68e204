/-
  The arguments as they are handed in: what reads as an impl.Value is raw; nothing changed, so they read again as they did.
-/
import Derived.Test.YtljaoopfomcaoaaGreatDoorVo
import Derived.ReadAgain
import Derived.Deep.Slices
import Derived.Deep.Strs
import Derived.ChangeBears
import Derived.RowKit
import Derived.SizedLaws
set_option linter.unusedVariables false
set_option linter.unusedSimpArgs false
namespace Go.Proofs.YtljaoopfomcaoaaGreatDoor
open Go.RowKit Go.ChangeShapes Go.WideShapes

section
variable {H : Type} {enc : TypeId × Value → H} {W W' : World}

theorem kids : Kids Tryz.prog (· < Tryz.prog.types.size) := kids_rows (by kernel_rfl) (by kernel_rfl)

theorem Chg.sameAt (hc : Chg No W W') {p : MemPlace} (hp : p.block < W.heap.size) : W.sameAt W' p := by
  have h := hc.block p.block hp id
  cases p with
  | cell b o => exact hc.cellEq (p := ⟨b, o, none⟩) hp id
  | map b => exact h

theorem carryAll {ts : List TypeId} (hc : Chg No W W') : ∀ {ts : List TypeId} {vs : List Value} {ds : List (DataW H)} {ps : List MemPlace},
    DataW.TrodAll enc Tryz.prog W 0 (fun _ => true) true ts vs ds ps → (∀ p ∈ ps, p.block < W.heap.size) → DataW.TrodAll enc Tryz.prog W' 0 (fun _ => true) true ts vs ds ps
  | [], [], [], _, h, _ => h
  | _ :: _, _ :: _, _ :: _, _, ⟨p, q, ⟨n, hn⟩, h2, e⟩, hs =>
    ⟨p, q, ⟨n, DataW.trod_carry n _ _ _ hn (fun x hx => hc.sameAt (hs x (by rw [e]; exact List.mem_append_left _ hx)))⟩,
      carryAll (ts := ts) hc h2 (fun x hx => hs x (by rw [e]; exact List.mem_append_right _ hx)), e⟩

theorem full : ∀ t e, t < Tryz.prog.types.size → Tryz.prog.underlying t = some (.slice e) → 0 < Tryz.prog.cellsOf e := slices_full_of Tryz.prog (by kernel_rfl)

theorem Chg.keptBut (hc : Chg No W W') (may : MemPlace → Prop) : W.keptBut W' may := by
  refine ⟨hc.os, hc.output, fun i hi => ?_⟩
  rw [hc.block i hi id]
  cases h : W.heap[i]? with
  | none => rfl
  | some o => cases o <;> first | exact ⟨rfl, rfl, rfl, fun _ _ => rfl⟩ | exact .inr ⟨rfl, rfl⟩ | rfl

set_option maxRecDepth 100000 in
/-- What an answer leaves that changed nothing that was there. -/
theorem post_chg {f : Func} {s : ChangeSpec} {apart fresh handsOn again : Bool} {args : Array Value} {v : Value} {ds gs : List (DataW H)} {before : List MemPlace}
    (hts : ∀ t ∈ f.params.toList, t < Tryz.prog.types.size) (hvn : s.vars = [])
    (hW : DataW.Whole enc Tryz.prog f.params.toList s.vars apart W args.toList ds gs before) (hc : Chg No W W')
    (hres : ∀ (b : Nat) (sp : Nat → Bool) (hd : Bool), DataW.TrodAll enc Tryz.prog W' b sp hd f.resultTypes.toList (v.resultList f.resultTypes.size) (s.fn H (ds ++ gs)).results [])
    (hea : (s.fn H (ds ++ gs)).args = ds) (hev : (s.fn H (ds ++ gs)).vars = [])
    (hok : ∀ (j : Nat) (t : TypeId) (r : Value), f.resultTypes[j]? = some t → (v.resultList f.resultTypes.size)[j]? = some r → Value.okWide Tryz.prog W' .any 0 t r) :
    s.post enc Tryz.prog f apart fresh handsOn again W args v W' := by
  have hlt := hW.lt
  have hold : ∀ p ∈ before, (fun b => decide (b < W.heap.size)) p.block = true := fun p hp => by simpa using hlt p hp
  have hW0 := hW
  obtain ⟨p, q, hA, hV, e, hz, hn⟩ := hW
  rw [hvn] at hV
  have hgs : gs = [] ∧ q = [] := by
    cases gs with
    | nil => exact ⟨rfl, hV⟩
    | cons a b => exact hV.elim
  obtain ⟨rfl, rfl⟩ := hgs
  rw [List.append_nil] at e
  subst e
  have hcar := carryAll (ts := []) hc hA hlt
  have hargs : ∀ sp : Nat → Bool, (∀ x ∈ before, sp x.block = true) → DataW.TrodAll enc Tryz.prog W' 0 sp true f.params.toList args.toList (s.fn H (ds ++ [])).args before := by
    intro sp hsp
    rw [hea]
    exact DataW.TrodAll.respare kids full hts hcar hsp
  have hvars : ∀ sp : Nat → Bool, DataW.TrodVars enc Tryz.prog W' sp s.vars (s.fn H (ds ++ [])).vars [] := by
    intro sp
    rw [hev, hvn]
    exact rfl
  refine ⟨ds, [], before, [], before, [], hW0, hres _ _ _, hargs _ hold, hvars _, World.keptBut_mono (fun x hx => ⟨hx, .inr (.inl hx)⟩) (hc.keptBut (· ∈ before)), fun _ => ?_⟩
  refine ⟨hok, _, _, ([] ++ before) ++ [], ⟨[] ++ before, [], trodAll_append (hargs _ (fun _ _ => rfl)) (hres _ _ _), hvars _, rfl, ?_, ?_⟩, ?_⟩
  · intro b off hp
    have hp' : MemPlace.cell b off ∈ before := by simpa using hp
    rw [hc.frozenEq (p := ⟨b, off, none⟩) (hlt _ hp') id]
    exact hz b off hp'
  · intro ha
    simpa using hn ha
  · intro x hx _
    simpa using hx

/-! ### Down -/

/-- Cells of one block. -/
theorem block_of_cells {a : Addr} {n : Nat} {cs : List Value} (h : W.cells? 0 a n = some cs) (hn : 0 < n) : a.spot = none ∧ a.block < W.heap.size := by
  obtain ⟨-, hl, hc⟩ := World.cells?_some h
  have h0 := hc 0 hn
  rw [List.getElem?_eq_getElem (by omega)] at h0
  exact ⟨by simpa [Addr.add] using World.cell?_spot h0, by simpa [Addr.add] using World.block_lt_of_cell? _ _ h0⟩

/-- What lies in memory now. -/
abbrev okW (W : World) : Nat → Prop := fun b => b < W.heap.size

theorem weightsAll_in {P : Program} {e : TypeId} : ∀ {l : List (DataW H)} {d : DataW H}, d ∈ l → ∀ n ∈ d.weights P e, n ∈ DataW.weightsAll P e l
  | _ :: _, d, h, n, hn => by
    unfold DataW.weightsAll
    rcases List.mem_cons.1 h with rfl | h
    · exact List.mem_append_left _ hn
    · exact List.mem_append_right _ (weightsAll_in h n hn)

/-- A slice, opened: rows whose cells read. -/
theorem rows_of_trod {t e size : Nat} {held : Bool} {fuel : Nat} {v : Value} {x : DataW H × List MemPlace} (ht : Tryz.prog.underlying t = some (.slice e)) (hs : Tryz.prog.cellsOf e = size) (hz : 0 < size)
    (h : DataW.trod enc Tryz.prog W 0 (fun _ => true) held fuel t [v] = some x) :
    ∃ rows, RowAt (okW W) W v size rows ∧ ∃ n, n < fuel ∧ ∀ r ∈ rows, ∃ y, DataW.trod enc Tryz.prog W 0 (fun _ => true) held n e r = some y ∧ ∀ m ∈ y.1.weights Tryz.prog e, m ∈ x.1.weights Tryz.prog t := by
  rcases DataW.trod_slice ht h with ⟨h0, -⟩ | ⟨a, len, cap, elems, rest, n, rfl, h1, rfl, -, hl, hm, hlen, hel, -, -⟩
  · cases h0
    exact ⟨[], ⟨by simp [maxLen], by simp, none, 0, rfl, fun _ => rfl, fun e => absurd rfl e⟩, 0, by
      cases fuel with
      | zero => simp [DataW.trod] at h
      | succ n => omega, by simp⟩
  · cases h1
    rw [hs] at hel
    have hwt : ∀ y ∈ elems, ∀ m ∈ y.1.weights Tryz.prog e, m ∈ DataW.weights Tryz.prog t (.slice (elems.map (·.1)) (rest.map (·.1))) := by
      intro y hy m hm
      unfold DataW.weights
      rw [ht]
      exact List.mem_cons_of_mem _ (List.mem_append_left _ (weightsAll_in (List.mem_map_of_mem hy) m hm))
    have each : ∀ i, i < len → ∃ cs, W.cells? 0 (a.add (i * size)) size = some cs ∧ ∃ y ∈ elems, DataW.trod enc Tryz.prog W 0 (fun _ => true) held n e cs = some y := by
      intro i hi
      have h2 := hel i hi
      rw [List.getElem?_eq_getElem (by omega)] at h2
      obtain ⟨cs, h3, h4⟩ := Option.bind_eq_some_iff.1 h2
      exact ⟨cs, h3, _, List.getElem_mem _, h4⟩
    have hex : ∃ rows : List (List Value), rows.length = len ∧ ∀ (i : Nat) (r : List Value), rows[i]? = some r → W.cells? 0 (a.add (i * size)) size = some r ∧ ∃ y ∈ elems, DataW.trod enc Tryz.prog W 0 (fun _ => true) held n e r = some y := by
      clear hel hlen hl hm h
      induction len with
      | zero => exact ⟨[], rfl, by simp⟩
      | succ k ih =>
        obtain ⟨rows, hk, hr⟩ := ih (fun i hi => each i (by omega))
        obtain ⟨cs, h3, h4⟩ := each k (by omega)
        refine ⟨rows ++ [cs], by simp [hk], fun i r hi => ?_⟩
        by_cases hik : i < rows.length
        · rw [List.getElem?_append_left hik] at hi
          exact hr i r hi
        · rw [List.getElem?_append_right (by omega)] at hi
          have : i = rows.length := by
            have := (List.getElem?_eq_some_iff.1 hi).1
            simp at this
            omega
          subst this
          rw [Nat.sub_self] at hi
          cases hi
          rw [hk]
          exact ⟨h3, h4⟩
    obtain ⟨rows, hk, hr⟩ := hex
    subst hk
    refine ⟨rows, ⟨by omega, fun r hrm => ?_, some a, cap, rfl, (by intro e; cases e), fun hne => ?_⟩, n, by omega, fun r hrm => ?_⟩
    · obtain ⟨i, hi⟩ := List.getElem?_of_mem hrm
      exact (World.cells?_some (hr i r hi).1).2.1
    · obtain ⟨r0, hr0⟩ : ∃ r, rows[0]? = some r := by
        cases rows with
        | nil => exact absurd rfl hne
        | cons r rs => exact ⟨r, rfl⟩
      obtain ⟨hsp, hb⟩ := block_of_cells (hr 0 r0 hr0).1 hz
      have hsp' : a.spot = none := by simpa [Addr.add] using hsp
      have hb' : a.block < W.heap.size := by simpa [Addr.add] using hb
      obtain ⟨b, off, sp⟩ := a
      simp only at hsp' hb'
      subst hsp'
      refine ⟨b, off, rfl, hb', fun i r hi j u hj => ?_⟩
      have h5 := (World.cells?_some (hr i r hi).1).2.2 j (by
        have := (World.cells?_some (hr i r hi).1).2.1
        have := (List.getElem?_eq_some_iff.1 hj).1
        omega)
      rw [hj] at h5
      rw [add_eq, add_eq] at h5
      exact h5
    · obtain ⟨i, hi⟩ := List.getElem?_of_mem hrm
      obtain ⟨y, hy, h6⟩ := (hr i r hi).2
      exact ⟨y, h6, hwt y hy⟩

theorem weights_text (P : Program) (t : TypeId) (l : List UInt8) : l.length ∈ DataW.weights P t (.lit (.string l) : DataW H) := by
  unfold DataW.weights; exact List.mem_singleton.2 rfl

theorem keys_of_trod {held : Bool} {fuel : Nat} {v : Value} {x : DataW H × List MemPlace} (h : DataW.trod enc Tryz.prog W 0 (fun _ => true) held fuel 23 [v] = some x) (hw : ∀ n ∈ x.1.weights Tryz.prog 23, n ≤ reachBytes) :
    ∃ ks : List K, RowAt (okW W) W v 1 (kRows ks) ∧ ∀ k ∈ ks, kOk k := by
  obtain ⟨rows, h1, n, -, h2⟩ := rows_of_trod (size := 1) Tryz.underlying23 (by kernel_rfl) (by decide) h
  have hex : ∃ ks : List K, rows = kRows ks ∧ ∀ k ∈ ks, kOk k := by
    clear h1
    induction rows with
    | nil => exact ⟨[], rfl, by simp⟩
    | cons r rs ih =>
      obtain ⟨ks, h3, h4⟩ := ih (fun r hr => h2 r (by simp [hr]))
      obtain ⟨y, hy, hyw⟩ := h2 r (by simp)
      obtain ⟨s, h5, h7, h6⟩ := DataW.trod_string Tryz.underlying9 hy
      refine ⟨s :: ks, by rw [h5, h3]; rfl, fun k hk => ?_⟩
      rcases List.mem_cons.1 hk with rfl | hk
      · have h8 := hw k.data.toList.length (hyw _ (by rw [h7]; exact weights_text _ _ _))
        have h9 : k.size = k.data.toList.length := by rw [Array.length_toList]; rfl
        unfold kOk
        unfold reachBytes at h8
        omega
      · exact h4 k hk
  obtain ⟨ks, rfl, h3⟩ := hex
  exact ⟨ks, h1, h3⟩

theorem text_of_trod {held : Bool} {fuel : Nat} {cs : List Value} {x : DataW H × List MemPlace} (h : DataW.trod enc Tryz.prog W 0 (fun _ => true) held fuel 9 cs = some x) (hw : ∀ n ∈ x.1.weights Tryz.prog 9, n ≤ reachBytes) :
    ∃ k : K, cs = [.string k] ∧ kOk k := by
  obtain ⟨s, h5, h7, h6⟩ := DataW.trod_string Tryz.underlying9 h
  refine ⟨s, h5, ?_⟩
  have h8 := hw s.data.toList.length (by rw [h7]; exact weights_text _ _ _)
  have h9 : s.size = s.data.toList.length := by rw [Array.length_toList]; rfl
  unfold kOk
  unfold reachBytes at h8
  omega

/-- A struct, opened: its fields read, and weigh no more than it. -/
theorem fields_of_trod {t : Nat} {held : Bool} {fuel : Nat} {cs : List Value} {x : DataW H × List MemPlace} {fs : Array Field} (ht : Tryz.prog.underlying t = some (.struct fs))
    (h : DataW.trod enc Tryz.prog W 0 (fun _ => true) held fuel t cs = some x) : ∃ n, fuel = n + 1 ∧ cs.length = Tryz.prog.cellsOf t ∧
      ∀ (i : Nat) (f : Field), fs[i]? = some f → ∃ y, DataW.trod enc Tryz.prog W 0 (fun _ => true) held n f.type ((cs.drop f.offset).take (Tryz.prog.cellsOf f.type)) = some y ∧ ∀ m ∈ y.1.weights Tryz.prog f.type, m ∈ x.1.weights Tryz.prog t := by
  obtain ⟨xs, n, rfl, rfl, hl, hlen, hf⟩ := DataW.trod_struct ht h
  refine ⟨n, rfl, hl, fun i f hi => ?_⟩
  have h1 := hf i f hi
  have hlt : i < xs.length := by
    have := (Array.getElem?_eq_some_iff.1 hi).1
    omega
  rw [List.getElem?_eq_getElem hlt] at h1
  refine ⟨_, h1, fun m hm => ?_⟩
  unfold DataW.weights
  rw [ht]
  refine DataW.weights_mem_each (j := i) (t := f.type) (d := xs[i].1) ?_ ?_ m hm
  · simp [Array.getElem?_toList, hi]
  · simp [List.getElem?_eq_getElem hlt]

theorem cells_of_26 : Tryz.prog.cellsOf 26 = 7 := by kernel_rfl
theorem cells_of_2 : Tryz.prog.cellsOf 2 = 1 := by kernel_rfl
theorem cells_of_3 : Tryz.prog.cellsOf 3 = 1 := by kernel_rfl
theorem cells_of_4 : Tryz.prog.cellsOf 4 = 1 := by kernel_rfl
theorem cells_of_9 : Tryz.prog.cellsOf 9 = 1 := by kernel_rfl
theorem cells_of_22 : Tryz.prog.cellsOf 22 = 1 := by kernel_rfl
theorem cells_of_23 : Tryz.prog.cellsOf 23 = 1 := by kernel_rfl
theorem cells_of_24 : Tryz.prog.cellsOf 24 = 1 := by kernel_rfl

theorem list7 {cs : List Value} (h : cs.length = 7) : ∃ a b c d e f g, cs = [a, b, c, d, e, f, g] := by
  match cs, h with
  | [a, b, c, d, e, f, g], _ => exact ⟨a, b, c, d, e, f, g, rfl⟩

theorem trod_float {P : Program} {t : TypeId} {k : FloatKind} {w : World} {base : Nat} {spare : Nat → Bool} {held : Bool} {fuel : Nat} {cs : List Value} {x : DataW H × List MemPlace} (ht : P.underlying t = some (.float k)) (h : DataW.trod enc P w base spare held fuel t cs = some x) : ∃ b, cs = [.float k b] := by
  cases fuel with
  | zero => simp [DataW.trod] at h
  | succ n =>
    unfold DataW.trod at h
    rw [ht] at h
    split at h <;> simp_all

theorem field_of_trod {t : Nat} {held : Bool} {fuel : Nat} {cs : List Value} {x : DataW H × List MemPlace} {fs : Array Field} (ht : Tryz.prog.underlying t = some (.struct fs))
    (h : DataW.trod enc Tryz.prog W 0 (fun _ => true) held fuel t cs = some x) : ∃ n, fuel = n + 1 ∧ cs.length = Tryz.prog.cellsOf t ∧
      ∀ (i : Nat) (f : Field) (ty off size : Nat), fs[i]? = some f → f.type = ty → f.offset = off → Tryz.prog.cellsOf ty = size → ∃ y, DataW.trod enc Tryz.prog W 0 (fun _ => true) held n ty ((cs.drop off).take size) = some y ∧ ∀ m ∈ y.1.weights Tryz.prog ty, m ∈ x.1.weights Tryz.prog t := by
  obtain ⟨n, h1, h2, h3⟩ := fields_of_trod ht h
  refine ⟨n, h1, h2, fun i f ty off size hi e1 e2 e3 => ?_⟩
  subst e1; subst e2; subst e3
  exact h3 i f hi

/-- What reads as an impl.Value is raw. -/
theorem raw_of_trod {held : Bool} (fuel : Nat) : ∀ (cs : List Value) (x : DataW H × List MemPlace), DataW.trod enc Tryz.prog W 0 (fun _ => true) held fuel 26 cs = some x → (∀ n ∈ x.1.weights Tryz.prog 26, n ≤ reachBytes) → RawV (okW W) W cs := by
  induction fuel using Nat.strongRecOn with
  | _ fuel ih =>
    intro cs x h hw
    obtain ⟨n, rfl, hl, hf⟩ := field_of_trod Tryz.underlying26 h
    rw [cells_of_26] at hl
    obtain ⟨c0, c1, c2, c3, c4, c5, c6, rfl⟩ := list7 hl
    obtain ⟨y0, h0, -⟩ := hf 0 _ 3 0 1 rfl rfl rfl cells_of_3
    obtain ⟨y1, h1, -⟩ := hf 1 _ 4 1 1 rfl rfl rfl cells_of_4
    obtain ⟨y2, h2, -⟩ := hf 2 _ 2 2 1 rfl rfl rfl cells_of_2
    obtain ⟨y3, h3, -⟩ := hf 3 _ 22 3 1 rfl rfl rfl cells_of_22
    obtain ⟨y4, h4, -⟩ := hf 4 _ 9 4 1 rfl rfl rfl cells_of_9
    obtain ⟨y5, h5, w5⟩ := hf 5 _ 23 5 1 rfl rfl rfl cells_of_23
    obtain ⟨y6, h6, w6⟩ := hf 6 _ 24 6 1 rfl rfl rfl cells_of_24
    simp only [List.drop_succ_cons, List.drop_zero, List.take_succ_cons, List.take_zero] at h0 h1 h2 h3 h4 h5 h6
    obtain ⟨k, e0, -, -⟩ := DataW.trod_int Tryz.underlying3 h0
    obtain ⟨b, e1, -⟩ := DataW.trod_bool Tryz.underlying4 h1
    obtain ⟨i, e2, -, -⟩ := DataW.trod_int Tryz.underlying2 h2
    obtain ⟨f, e3⟩ := trod_float Tryz.underlying22 h3
    obtain ⟨t, e4, -, -⟩ := DataW.trod_string Tryz.underlying9 h4
    obtain ⟨ks, hk, hks⟩ := keys_of_trod h5 (fun m hm => hw m (w5 m hm))
    obtain ⟨rows, hr, m, hm, hrows⟩ := rows_of_trod Tryz.underlying24 cells_of_26 (by decide) h6
    cases e0; cases e1; cases e2; cases e3; cases e4
    refine RawV.mk (ks := ks) hk hks hr fun r hrm => ?_
    obtain ⟨y, hy, hyw⟩ := hrows r hrm
    exact ih m (by omega) r y hy (fun q hq => hw q (w6 q (hyw q hq)))

end
end Go.Proofs.YtljaoopfomcaoaaGreatDoor
