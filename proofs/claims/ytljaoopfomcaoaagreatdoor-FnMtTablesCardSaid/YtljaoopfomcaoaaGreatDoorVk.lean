/-
  The walks of moCopies and moCopy: values in new memory.
-/
import Derived.Test.YtljaoopfomcaoaaGreatDoorVj
set_option linter.unusedVariables false
set_option linter.unusedSimpArgs false
namespace Go.Proofs.YtljaoopfomcaoaaGreatDoor
open Go.RowKit

/-- A copied list under way. -/
structure VC (w : World) (xs : List J) (wr : World) (n : Nat) (v : Value) (rows : List (List Value)) : Prop where
  le : n ≤ xs.length
  own : OwnR wr w.heap.size 26 7 v rows
  len : rows.length = n
  val : ∀ (i : Nat) (r : List Value) (x : J), rows[i]? = some r → xs[i]? = some x → ValJ (okF w.heap.size v) wr r x
  chg : Chg No w wr

theorem VC.step {w : World} {xs : List J} {wr : World} {n : Nat} {v : Value} {rows : List (List Value)} (h : VC w xs wr n v rows) {x : J} (hx : xs[n]? = some x) {w3 w4 w6 : World} {cs : List Value} {v' : Value}
    (h3 : Chg No wr w3) (h4 : Chg No w3 w4) (hau : ValJ (fun y => w3.heap.size ≤ y) w4 cs x) (h6 : Chg (fun b => v.ownBlock = some b) (w4.alloc (.cells cs.toArray 26)) w6) (hown : OwnR w6 w.heap.size 26 7 v' (rows ++ [cs]))
    (hv : v'.ownBlock = v.ownBlock ∨ ∀ k, v'.ownBlock = some k → (w4.alloc (.cells cs.toArray 26)).heap.size ≤ k) : VC w xs w6 (n + 1) v' (rows ++ [cs]) := by
  have hlt : n < xs.length := (List.getElem?_eq_some_iff.1 hx).1
  have hel : ∀ k, v.ownBlock = some k → w.heap.size ≤ k ∧ k < wr.heap.size := fun k hk => ⟨(h.own.elem hk).1, (h.own.elem hk).2.1⟩
  have c2 : Chg (fun b => v.ownBlock = some b) wr w6 := (((h3.trans' h4).mono (fun i _ e => e.elim)).alloc _).trans h6 (fun i _ e => e)
  have hs3 := h3.size
  have hs4 := h4.size
  refine ⟨hlt, hown, by simp [h.len], fun i r y hr hy => ?_, h.chg.trans c2 (fun i hi e => absurd (hel i e).1 (by omega))⟩
  have hmono : ∀ b, b < w4.heap.size → v.ownBlock ≠ some b → v'.ownBlock ≠ some b := fun b hb hne e => by
    rcases hv with hv | hv
    · exact hne (hv ▸ e)
    · have := hv b e; simp at this; omega
  by_cases hi : i < rows.length
  · rw [List.getElem?_append_left hi] at hr
    have hk2 := (h.val i r y hr hy).mono (ok' := fun b => okF w.heap.size v b ∧ b < wr.heap.size) (fun b hb hb2 => ⟨hb2, hb⟩)
    have hk3 := hk2.chg c2 (fun b hb e => hb.1.2 e)
    exact hk3.mono (fun b _ hb => ⟨hb.1.1, hmono b (by have := hb.2; omega) hb.1.2⟩)
  · have hi2 : i = rows.length := by
      have := (List.getElem?_eq_some_iff.1 hr).1
      simp at this
      omega
    subst hi2
    rw [List.getElem?_append_right (Nat.le_refl _), Nat.sub_self] at hr
    cases hr
    rw [h.len, hx] at hy
    cases hy
    have hk2 := hau.mono (ok' := fun b => w3.heap.size ≤ b ∧ b < w4.heap.size) (fun b hb hb2 => ⟨hb2, hb⟩)
    have hk3 := hk2.chg ((Chg.refl No w4).alloc (.cells cs.toArray 26)) (fun b hb e => e)
    have hk4 := hk3.chg h6 (fun b hb e => by have := (hel b e).2; have := hb.1; omega)
    refine hk4.mono (fun b _ hb => ⟨by have := h.chg.size; have := hb.1; omega, hmono b hb.2 (fun e => ?_)⟩)
    have := (hel b e).2
    have := hb.1
    omega

def CopyPost (w : World) (j : J) (e : Ending) (w' : World) : Prop :=
  ∃ cs : List Value, e = .returned (.agg cs.toArray) ∧ ValJ (fun x => w.heap.size ≤ x) w' cs j ∧ Chg No w w'

set_option maxRecDepth 100000 in
set_option maxHeartbeats 1000000 in
theorem moCopies_of (N d : Nat) (hN : N < 1099511627776) (IH0 : ∀ (ok : Nat → Prop) (j : J) (cs : List Value) (w : World), ValJ ok w cs j → Wf N d j → Calls Tryz.prog 15 #[.agg cs.toArray] w (CopyPost w j))
    (ok : Nat → Prop) (xs : List J) (lv : Value) (rows0 : List (List Value)) (w : World) (hl : RowAt ok w lv 7 rows0) (hn : rows0.length = xs.length) (hr : ∀ (n : Nat) (r : List Value) (x : J), rows0[n]? = some r → xs[n]? = some x → ValJ ok w r x)
    (hw : ∀ x ∈ xs, Wf N d x) (hx : xs.length ≤ N) : Calls Tryz.prog 25 #[lv] w fun e w' => ∃ v' rows', e = .returned v' ∧ VC w xs w' xs.length v' rows' := by
  have HL := Lib.hid hl
  have HN := Lib.hid hn
  have HR := Lib.hid hr
  have WX := Lib.hid hw
  have IH := Lib.hid IH0
  have HXN := Lib.hid hx
  have hl1 := hl.1
  obtain ⟨-, -, la, lc, rfl, -, -⟩ := hl
  unfold maxLen at hl1
  rw [hn] at hl1 HL ⊢
  clear hn hr hw IH0 hx
  go_enter Tryz.func25, Tryz.ntmps25
  go_wp2_with fail
  go_loopw [3, 8] (fun v ct wr => ∃ (n : Nat) (rows : List (List Value)), ct = .int .i64 n ∧ VC w xs wr n v rows) (fun _ ct _ => xs.length - (intOf ct).toNat)
  case atStart => exact ⟨0, [], rfl, Nat.zero_le _, OwnR.nil _ _ _ _, rfl, fun i r x h => by simp at h, Chg.refl _ _⟩
  case round =>
    obtain ⟨n, rows, rfl, hvc⟩ := hrel
    have HVC := Lib.hid hvc
    clear hvc
    by_cases hlt : n < xs.length
    · obtain ⟨x, hx⟩ : ∃ x, xs[n]? = some x := ⟨_, List.getElem?_eq_getElem hlt⟩
      obtain ⟨r, hr0⟩ : ∃ r, rows0[n]? = some r := ⟨_, List.getElem?_eq_getElem (by rw [HN.out]; exact hlt)⟩
      obtain ⟨lb, lo, rfl, -, hlc⟩ := HL.out.at (i := n) (r := r) hr0
      have HLC := hlc.chg HVC.out.chg id
      have HV2 := Lib.hid (HR.out n r x hr0 hx)
      obtain ⟨rk, rb, ri, rf, rt, rkv, rlv, rfl⟩ := HV2.out.seven
      have h64 : (n : Int) < (xs.length : Int) := by omega
      have ho1 : (cells7 rk rb ri rf rt rkv rlv).all (·.oneCell') = true := HV2.out.one
      have HX := Lib.hid hx
      clear hr0 hlc hx
      go_wp2_with (first | (with_reducible refine wpList_loadAgg rfl agg26 rfl rfl HLC rfl ?_) | (with_reducible refine wpList_storeNew rfl agg26 rfl rfl rfl rfl rfl ho1 ?_) | (with_reducible refine wpList_loadAgg rfl agg26 rfl rfl (Blk.new wr (cells7 rk rb ri rf rt rkv rlv) 26).cells rfl ?_))
      refine (IH.out (okB ok w) x (cells7 rk rb ri rf rt rkv rlv) (wr.alloc (.cells (cells7 rk rb ri rf rt rkv rlv).toArray 26)) (HV2.out.bel.chg (HVC.out.chg.alloc _) (fun _ _ e => e)) (WX.out x (List.mem_of_getElem? HX.out))).mono ?_
      rintro e w4 ⟨cs, rfl, hau, hc4⟩
      have HSTEP := Lib.hid (fun w6 v' => HVC.out.step (w6 := w6) (v' := v') HX.out ((Chg.refl No wr).alloc _) hc4 hau)
      have hown := (HVC.out.own.alloc (.cells (cells7 rk rb ri rf rt rkv rlv).toArray 26)).chg hc4 (fun _ _ e => e)
      have hcl := hau.length
      have hou := hau.one
      have hnb : rows.length + 1 ≤ 1099511627776 := by
        rw [HVC.out.len]
        have := HXN.out
        omega
      have hbs : w.heap.size ≤ w4.heap.size + 1 := by have h1 := HVC.out.chg.size; have h2 := hc4.size; simp at h2; omega
      clear hau hc4 HLC
      go_wp2_with (first | (refine wpList_build24 rfl rfl rfl hcl ?_) | (at_builtin; refine wpList_appendRows rfl elem24 rfl rfl (hown.alloc _) rfl (RowAt.one1 w4 cs 26 7 hcl) (by intro r hr; obtain rfl := List.mem_singleton.1 hr; exact hou) hnb (by decide) (by simpa using hbs) ?_; intro v' w6 hown' hc6 hv' hold; go_frame))
      have HA6 := Lib.hid (HSTEP.out w6 v' hc6 hown' hv')
      clear hown' hc6 hv' hold hown
      go_roundw
      case rel => exact ⟨n + 1, _, by go_num, HA6.out⟩
      case measure => simp [intOf]; omega
    · have hnl : n = xs.length := Nat.le_antisymm HVC.out.le (Nat.not_lt.1 hlt)
      subst hnl
      have hlen : ¬ ((xs.length : Nat) : Int) < (xs.length : Int) := by omega
      go_wp2_with fail
      go_ret
      exact ⟨_, rfl, rows, HVC.out⟩


def jks : J → List K
  | .table kvs => kvs.map (·.1)
  | _ => []

def jxs : J → List J
  | .table kvs => kvs.map (·.2)
  | .list xs => xs
  | _ => []

theorem ValJ.parts {ok : Nat → Prop} {w : World} {k b i f t kv lv} {j : J} (h : ValJ ok w (cells7 k b i f t kv lv) j) : RowAt ok w kv 1 (kRows (jks j)) ∧ ∃ rows, RowAt ok w lv 7 rows ∧ rows.length = (jxs j).length ∧ ∀ (n : Nat) (r : List Value) (x : J), rows[n]? = some r → (jxs j)[n]? = some x → ValJ ok w r x := by
  cases h with
  | null hk hl => exact ⟨hk, [], hl, rfl, fun n r x h => by simp at h⟩
  | bool hk hl => exact ⟨hk, [], hl, rfl, fun n r x h => by simp at h⟩
  | int hk hl => exact ⟨hk, [], hl, rfl, fun n r x h => by simp at h⟩
  | float hk hl => exact ⟨hk, [], hl, rfl, fun n r x h => by simp at h⟩
  | text hk hl => exact ⟨hk, [], hl, rfl, fun n r x h => by simp at h⟩
  | list hk hl hn hr => exact ⟨hk, _, hl, hn, hr⟩
  | @table _ _ _ _ _ _ rows kvs hk hl hn hr =>
    refine ⟨by simpa [kRows, jks, List.map_map, Function.comp_def] using hk, rows, hl, by simpa [jxs] using hn, fun n r x h1 h2 => ?_⟩
    simp only [jxs, List.getElem?_map] at h2
    cases hp : kvs[n]? with
    | none => rw [hp] at h2; cases h2
    | some p => rw [hp] at h2; cases h2; exact hr n r p h1 hp

theorem ValJ.build {ok ok' : Nat → Prop} {w w' : World} {k b i f t kv lv kv' lv'} {j : J} {rows' : List (List Value)} (h : ValJ ok w (cells7 k b i f t kv lv) j) (hk' : RowAt ok' w' kv' 1 (kRows (jks j))) (hl' : RowAt ok' w' lv' 7 rows')
    (hn' : rows'.length = (jxs j).length) (hr' : ∀ (n : Nat) (r : List Value) (x : J), rows'[n]? = some r → (jxs j)[n]? = some x → ValJ ok' w' r x) : ValJ ok' w' (cells7 k b i f t kv' lv') j := by
  have hnil : jxs j = [] → rows' = [] := fun e => by rw [e] at hn'; exact List.eq_nil_of_length_eq_zero hn'
  cases h with
  | null hk hl => rw [hnil rfl] at hl'; exact .null hk' hl'
  | bool hk hl => rw [hnil rfl] at hl'; exact .bool hk' hl'
  | int hk hl => rw [hnil rfl] at hl'; exact .int hk' hl'
  | float hk hl => rw [hnil rfl] at hl'; exact .float hk' hl'
  | text hk hl => rw [hnil rfl] at hl'; exact .text hk' hl'
  | list hk hl hn hr => exact .list hk' hl' hn' hr'
  | @table _ _ _ _ _ _ rows kvs hk hl hn hr =>
    refine .table (by simpa [kRows, jks, List.map_map, Function.comp_def] using hk') hl' (by simpa [jxs] using hn') (fun n r p h1 h2 => hr' n r p.2 h1 (by simp [jxs, h2]))

theorem Wf.jks {N d : Nat} {j : J} (h : Wf N (d + 1) j) : (jks j).length ≤ N := by
  cases j with
  | table kvs => have := h.2.1; simpa [Go.Proofs.YtljaoopfomcaoaaGreatDoor.jks] using this
  | _ => simp [Go.Proofs.YtljaoopfomcaoaaGreatDoor.jks]

theorem Wf.jxs {N d : Nat} {j : J} (h : Wf N (d + 1) j) : (jxs j).length ≤ N ∧ ∀ x ∈ jxs j, Wf N d x := by
  cases j with
  | table kvs =>
    refine ⟨by have := h.2.1; simpa [Go.Proofs.YtljaoopfomcaoaaGreatDoor.jxs] using this, fun x hx => ?_⟩
    obtain ⟨p, hp, rfl⟩ := List.mem_map.1 hx
    exact (h.2.2 p hp).2
  | list xs => exact h
  | _ => exact ⟨Nat.zero_le _, fun x hx => by simp [Go.Proofs.YtljaoopfomcaoaaGreatDoor.jxs] at hx⟩

theorem OwnR.lower {w : World} {base base' e size : Nat} {v : Value} {rows : List (List Value)} (h : OwnR w base e size v rows) (hb : base' ≤ base) : OwnR w base' e size v rows := by
  obtain ⟨h0, h1, h2⟩ := h
  refine ⟨h0, h1, ?_⟩
  rcases h2 with h2 | ⟨g, cap, cur, hv, hg, r⟩
  · exact .inl h2
  · exact .inr ⟨g, cap, cur, hv, Nat.le_trans hb hg, r⟩

/-- A copied list. -/
def ListV (B : Nat) (xs : List J) (v : Value) (w : World) : Prop :=
  ∃ rows', OwnR w B 26 7 v rows' ∧ rows'.length = xs.length ∧ ∀ (i : Nat) (r : List Value) (x : J), rows'[i]? = some r → xs[i]? = some x → ValJ (fun b => B ≤ b) w r x

theorem ListV.chg {B : Nat} {xs : List J} {v : Value} {S : Nat → Prop} {w w' : World} (h : ListV B xs v w) (hc : Chg S w w') (hs : ∀ k, S k → k < B) : ListV B xs v w' := by
  obtain ⟨rows', h1, h2, h3⟩ := h
  exact ⟨rows', h1.chg hc (fun k hk e => by have := (h1.elem hk).1; have := hs k e; omega), h2, fun i r x a b => (h3 i r x a b).chg hc (fun k hk e => by have := hs k e; omega)⟩

def Fact.listV (B : Nat) (xs : List J) : Fact :=
  ⟨fun v w => ListV B xs v w, fun S _ => ∀ k, S k → k < B, fun S v w w' h hc hs => h.chg hc hs, fun _ _ e => e.elim⟩

/-- On the way through moCopy's statement: the box in block g bears the old slices until the new ones are stored. -/
structure MC (g : Nat) (mk : Value → Value → List Value) (kv lv : Value) (B : Nat) (ks : List K) (xs : List J) (wr w : World) (dk dl : Bool) : Prop where
  chg : Chg (· = g) wr w
  hB : g < B
  size : B ≤ w.heap.size
  box : ∃ k' l', Blk w g (mk k' l') 26 ∧ (dk = false → k' = kv) ∧ (dk = true → OwnR w B 9 1 k' (kRows ks)) ∧ (dl = false → l' = lv) ∧ (dl = true → ListV B xs l' w)

theorem MC.chgNo {g : Nat} {mk : Value → Value → List Value} {kv lv : Value} {B : Nat} {ks : List K} {xs : List J} {wr w w' : World} {dk dl : Bool} (h : MC g mk kv lv B ks xs wr w dk dl) (hc : Chg No w w') : MC g mk kv lv B ks xs wr w' dk dl := by
  obtain ⟨k', l', h1, h2, h3, h4, h5⟩ := h.box
  exact ⟨h.chg.trans' hc, h.hB, Nat.le_trans h.size hc.size, k', l', h1.chg hc id, h2, fun e => (h3 e).chg hc (fun _ _ e => e), h4, fun e => (h5 e).chg hc (fun _ e => e.elim)⟩

theorem MC.storeK {g : Nat} {k : Int} {b : Bool} {i : Int} {f : Nat} {t : K} {kv lv : Value} {B : Nat} {ks : List K} {xs : List J} {wr w : World} {dl : Bool} (h : MC g (fun k' l' => cells7 k b i f t k' l') kv lv B ks xs wr w false dl) {v : Value} (hv : OwnR w B 9 1 v (kRows ks)) :
    MC g (fun k' l' => cells7 k b i f t k' l') kv lv B ks xs wr (w.setCell ⟨g, 5, none⟩ v) true dl ∧ Chg (· = g) w (w.setCell ⟨g, 5, none⟩ v) := by
  obtain ⟨k', l', h1, h2, h3, h4, h5⟩ := h.box
  obtain ⟨hb, hc, hs⟩ := h1.setCell 5 v
  have hB := h.hB
  exact ⟨⟨h.chg.trans hc (fun _ _ e => e), hB, by rw [hs]; exact h.size, v, l', hb, (fun e => by cases e), fun _ => hv.chg hc (fun q hq e => by have := (hv.elem hq).1; omega), h4, fun e => (h5 e).chg hc (fun q e => by omega)⟩, hc⟩

theorem MC.storeL {g : Nat} {k : Int} {b : Bool} {i : Int} {f : Nat} {t : K} {kv lv : Value} {B : Nat} {ks : List K} {xs : List J} {wr w : World} {dk : Bool} (h : MC g (fun k' l' => cells7 k b i f t k' l') kv lv B ks xs wr w dk false) {v : Value} (hv : ListV B xs v w) :
    MC g (fun k' l' => cells7 k b i f t k' l') kv lv B ks xs wr (w.setCell ⟨g, 6, none⟩ v) dk true ∧ Chg (· = g) w (w.setCell ⟨g, 6, none⟩ v) := by
  obtain ⟨k', l', h1, h2, h3, h4, h5⟩ := h.box
  obtain ⟨hb, hc, hs⟩ := h1.setCell 6 v
  have hB := h.hB
  exact ⟨⟨h.chg.trans hc (fun _ _ e => e), hB, by rw [hs]; exact h.size, k', v, hb, h2, fun e => (h3 e).chg hc (fun q hq e2 => by have := ((h3 e).elem hq).1; omega), (fun e => by cases e), fun _ => hv.chg hc (fun q e => by omega)⟩, hc⟩

/-- A call of one argument by its contract. -/
theorem wp_callV1 {P : Program} {f : FuncId} (hcall : ∀ (args : Array Value) (w : World), (callFunc f args).run P w = .ok (.enter f args) w) {o : Oper} {a : Act} {w : World} {K : Act → World → Prop} {Q : Exit → Act → World → Prop} {x : Operand} {ts : Array TypeId} (ho : o.op = .call { callee := .value (.func f), args := #[x], argTypes := ts })
    {u : Value} (hx : a.eval x = u) {R : Ending → World → Prop} (hc : Calls P f #[u] w R) (h : ∀ e w', R e w' → ∃ v, e = .returned v ∧ K (a.put o.dst v) w') : o.wp P a w K Q := by
  unfold Oper.wp
  have hrun : (execOp a.eval o).run P w = .ok (.enter f #[u]) w := by
    simp only [execOp, ho, List.map_toArray, List.map_cons, List.map_nil, hx]
    simp [resolve, Act.eval, go_sem, hcall]
    (rw [← hx]; cases x <;> simp [Act.eval])
  rw [hrun, Oper.upon_enter]
  refine hc.mono fun e w' hr => ?_
  obtain ⟨v, rfl, hk⟩ := h e w' hr
  exact hk

set_option maxRecDepth 100000 in
set_option maxHeartbeats 1000000 in
theorem moCopy_any (N : Nat) (hN : N < 1099511627776) (d : Nat) : ∀ (ok : Nat → Prop) (j : J) (cs : List Value) (w : World), ValJ ok w cs j → Wf N d j → Calls Tryz.prog 15 #[.agg cs.toArray] w (CopyPost w j) := by
  induction d with
  | zero => intro ok j cs w _ h; exact h.elim
  | succ d ih =>
    intro ok j cs w hv wf
    obtain ⟨k, b, i, f, t, kv, lv, rfl⟩ := hv.seven
    have HV := Lib.hid hv
    have IH := Lib.hid ih
    obtain ⟨hkr, rows0, hlr, hn0, hr0⟩ := hv.parts
    have hkn := wf.jks
    have WX := Lib.hid wf.jxs
    have hk1 := hkr.1
    have hl1 := hlr.1
    replace hkr := hkr.mono (ok' := okB ok w) (fun x hx h => ⟨h, hx⟩) (by decide)
    replace hlr := hlr.mono (ok' := okB ok w) (fun x hx h => ⟨h, hx⟩) (by decide)
    have HKR := Lib.hid hkr
    have HLR := Lib.hid hlr
    obtain ⟨-, -, ka, kc, rfl, -, -⟩ := hkr
    obtain ⟨-, -, la, lc, rfl, -, -⟩ := hlr
    simp only [kRows, List.length_map] at HKR HV hk1 ⊢
    rw [hn0] at HLR HV hl1 ⊢
    unfold maxLen at hk1 hl1
    have HKN := Lib.hid (show ([] : List (List Value)).length + (kRows (jks j)).length ≤ 1099511627776 by simp [kRows]; omega)
    have HN0 := Lib.hid hn0
    have HR0 := Lib.hid hr0
    have hfacts : ∀ W, ((w.alloc (.cells (cells7 k b i f t (.slice ka (jks j).length kc) (.slice la (jxs j).length lc)).toArray 26)).alloc (.cells zero7.toArray 26)) = W →
        Blk W w.heap.size (cells7 k b i f t (.slice ka (jks j).length kc) (.slice la (jxs j).length lc)) 26 ∧ Blk W (w.heap.size + 1) zero7 26 ∧ Chg No w W ∧ W.heap.size = w.heap.size + 2 := by
      rintro W rfl
      exact ⟨(Blk.new _ _ _).alloc _, Blk.newAt (by simp) _ _, ((Chg.refl No w).alloc _).alloc _, by simp⟩
    have HF := Lib.hid hfacts
    clear hfacts hv wf ih hn0 hr0
    go_enter Tryz.func15, Tryz.ntmps15
    unfold cells7
    go_upto_region 1 with fail
    generalize hgw : World.alloc _ _ = W
    obtain ⟨b0, b1, c2, hws⟩ := HF.out W hgw
    clear hgw HF
    obtain ⟨g, hg⟩ : ∃ g, g = w.heap.size := ⟨_, rfl⟩
    obtain ⟨B, hB⟩ : ∃ B, B = w.heap.size + 2 := ⟨_, rfl⟩
    have HGW := Lib.hid (show g = w.heap.size from hg)
    have HBB := Lib.hid (show g < B ∧ B ≤ W.heap.size by omega)
    have HBE := Lib.hid hB
    rw [← hg] at b0 b1 ⊢
    have HB0 := Lib.hid b0
    have HB1 := Lib.hid b1
    have HCW := Lib.hid c2
    clear b0 b1 c2 hws hg hB
    refine wp_region_inv (FI [.eq (.pointer (some ⟨g, 5, none⟩)), .eq (.slice ka (jks j).length kc), .own B 9 1 (kRows (jks j)), .eq (.pointer (some ⟨g, 6, none⟩)), .eq (.slice la (jxs j).length lc), .listV B (jxs j), .eq (.pointer (some ⟨g, 5, none⟩)), .any, .eq (.pointer (some ⟨g, 6, none⟩)), .any])
      (fun done w' => MC g (fun k' l' => cells7 k b i f t k' l') (.slice ka (jks j).length kc) (.slice la (jxs j).length lc) B (jks j) (jxs j) W w' (done 7) (done 9)) (by kernel_rfl) (by kernel_rfl)
      ⟨(Chg.refl _ W).drew, HBB.out.1, HBB.out.2, _, _, HB0.out.drew, fun _ => rfl, (fun e => by cases e), fun _ => rfl, (fun e => by cases e)⟩ ?_ ?_
    · refine ⟨?_, ?_, ?_, ?_, ?_, ?_, ?_, ?_, ?_, ?_, trivial⟩
      · intro done a w1 K hd hcl hsl hot hdep hG hK
        have e1 : a.tmps[1]?.getD undef = .pointer (some ⟨g, 0, none⟩) := hot 1 rfl
        clear hcl hsl hot hdep
        go_simp
        exact hK _ _ rfl (by simpa [dn] using hG) (fun _ _ _ _ h => h)
      · intro done a w1 K hd hcl hsl hot hdep hG hK
        have e3 : a.tmps[3]?.getD undef = .pointer (some ⟨g, 5, none⟩) := hsl 0 3 rfl (hdep 0 rfl)
        have n7 : done 7 = false := by
          cases hh0 : done 7 with
          | false => rfl
          | true =>
            have hh1 := hcl 7 2 rfl hh0
            have hh2 := hcl 2 1 rfl hh1
            rw [hd] at hh2; cases hh2
        obtain ⟨k', l', hb, h1, -⟩ := hG.box
        obtain rfl : k' = .slice ka (jks j).length kc := h1 n7
        have c6 : w1.cell? ⟨g, 5, none⟩ = some (.slice ka (jks j).length kc) := hb.cell 5
        clear hcl hsl hot hdep
        clear hb h1
        go_simp
        exact hK _ _ rfl (by simpa [dn] using hG) (fun _ _ _ _ h => h)
      · intro done a w1 K hd hcl hsl hot hdep hG hK
        have e4 : a.tmps[4]?.getD undef = .slice ka (jks j).length kc := hsl 1 4 rfl (hdep 1 rfl)
        have hgB := hG.hB
        refine if_wanted rfl ?_
        refine wp_appendRows elem23 rfl rfl (OwnR.nil w1 B 9 1) (by simpa [Act.eval] using e4) ((HKR.out.chg HCW.out (fun _ _ e => e)).chg hG.chg (fun x hx e => by have := hx.2; have := HGW.out; omega)) (by intro r hr; obtain ⟨q, -, rfl⟩ := List.mem_map.1 hr; rfl) HKN.out (by decide) hG.size fun v' w' hO hC hB hOld => ?_
        have hC' : Chg No w1 w' := hC.mono (fun i _ e => by cases e)
        exact hK v' w' (by simpa [FI, Fact.own] using hO) (by simpa [dn] using hG.chgNo hC') (fun _ _ _ _ h => h.keepNo hC')
      · intro done a w1 K hd hcl hsl hot hdep hG hK
        have e1 : a.tmps[1]?.getD undef = .pointer (some ⟨g, 0, none⟩) := hot 1 rfl
        clear hcl hsl hot hdep
        go_simp
        exact hK _ _ rfl (by simpa [dn] using hG) (fun _ _ _ _ h => h)
      · intro done a w1 K hd hcl hsl hot hdep hG hK
        have e6 : a.tmps[6]?.getD undef = .pointer (some ⟨g, 6, none⟩) := hsl 3 6 rfl (hdep 3 rfl)
        have n9 : done 9 = false := by
          cases hh0 : done 9 with
          | false => rfl
          | true =>
            have hh1 := hcl 9 5 rfl hh0
            have hh2 := hcl 5 4 rfl hh1
            rw [hd] at hh2; cases hh2
        obtain ⟨k', l', hb, -, -, h1, -⟩ := hG.box
        obtain rfl : l' = .slice la (jxs j).length lc := h1 n9
        have c6 : w1.cell? ⟨g, 6, none⟩ = some (.slice la (jxs j).length lc) := hb.cell 6
        clear hcl hsl hot hdep
        clear hb h1
        go_simp
        exact hK _ _ rfl (by simpa [dn] using hG) (fun _ _ _ _ h => h)
      · intro done a w1 K hd hcl hsl hot hdep hG hK
        have e7 : a.tmps[7]?.getD undef = .slice la (jxs j).length lc := hsl 4 7 rfl (hdep 4 rfl)
        have hgB := hG.hB
        have hsz := hG.size
        refine if_wanted rfl ?_
        have hcall := moCopies_of N d hN IH.out (okB ok w) (jxs j) (.slice la (jxs j).length lc) rows0 w1 ((HLR.out.chg HCW.out (fun _ _ e => e)).chg hG.chg (fun x hx e => by have := hx.2; have := HGW.out; omega)) HN0.out (fun n r x h1 h2 => ((HR0.out n r x h1 h2).bel.chg HCW.out (fun _ _ e => e)).chg hG.chg (fun x hx e => by have := hx.2; have := HGW.out; omega)) WX.out.2 WX.out.1
        refine wp_callV1 Tryz.call25 rfl (by simpa [Act.eval] using e7) hcall ?_
        rintro e w2 ⟨v', rows', rfl, hvc⟩
        exact ⟨_, rfl, hK v' w2 ⟨rows', hvc.own.lower hsz, hvc.len, fun i r x h1 h2 => (hvc.val i r x h1 h2).mono (fun b _ hb => Nat.le_trans hsz hb.1)⟩ (by simpa [dn] using hG.chgNo hvc.chg) (fun _ _ _ _ h => h.keepNo hvc.chg)⟩
      · intro done a w1 K hd hcl hsl hot hdep hG hK
        have e1 : a.tmps[1]?.getD undef = .pointer (some ⟨g, 0, none⟩) := hot 1 rfl
        clear hcl hsl hot hdep
        go_simp
        exact hK _ _ rfl (by simpa [dn] using hG) (fun _ _ _ _ h => h)
      · intro done a w1 K hd hcl hsl hot hdep hG hK
        have e9 : a.tmps[9]?.getD undef = .pointer (some ⟨g, 5, none⟩) := hsl 6 9 rfl (hdep 6 rfl)
        have hO := hsl 2 5 rfl (hdep 2 rfl)
        change OwnR _ _ _ _ _ _ at hO
        obtain ⟨sa, sn, sc, hv⟩ := hO.slice
        rw [hv] at hO
        have e5 := hv
        have hgB := hG.hB
        have hG1 := hG
        rw [hd] at hG1
        obtain ⟨k', l', hb, -⟩ := hG1.box
        have c6 : w1.cell? ⟨g, 5, none⟩ = some k' := hb.cell 5
        have f6 : w1.frozen? ⟨g, 5, none⟩ = false := hb.frozen 5
        obtain ⟨h2, h3⟩ := hG1.storeK hO
        have HG2 := Lib.hid h2
        have HC2 := Lib.hid h3
        clear hcl hsl hot hdep
        clear hv hG hG1 hO hb h2 h3
        go_simp
        refine hK undef _ trivial (by have h' := HG2.out; simpa [dn] using h') ?_
        have hC := HC2.out
        refine fun j' hj _ u' hu => hu.keep hC (safe_of (i := 7) (fun j' hl hj => ?_) j' hj)
        match j', hj with
        | 0, _ => exact trivial
        | 1, _ => exact trivial
        | 2, _ => exact fun q hq hb => by omega
        | 3, _ => exact trivial
        | 4, _ => exact trivial
        | 5, _ => exact fun q hq => by omega
        | 6, _ => exact trivial
        | 7, hj => exact absurd rfl hj
        | 8, _ => exact trivial
        | 9, _ => exact trivial
        | j' + 10, _ => exact absurd hl (by simp)
      · intro done a w1 K hd hcl hsl hot hdep hG hK
        have e1 : a.tmps[1]?.getD undef = .pointer (some ⟨g, 0, none⟩) := hot 1 rfl
        clear hcl hsl hot hdep
        go_simp
        exact hK _ _ rfl (by simpa [dn] using hG) (fun _ _ _ _ h => h)
      · intro done a w1 K hd hcl hsl hot hdep hG hK
        have e10 : a.tmps[10]?.getD undef = .pointer (some ⟨g, 6, none⟩) := hsl 8 10 rfl (hdep 8 rfl)
        have hO := hsl 5 8 rfl (hdep 5 rfl)
        change ListV _ _ _ _ at hO
        obtain ⟨sa, sn, sc, hv⟩ := hO.choose_spec.1.slice
        rw [hv] at hO
        have e8 := hv
        have hgB := hG.hB
        have hG1 := hG
        rw [hd] at hG1
        obtain ⟨k', l', hb, -⟩ := hG1.box
        have c6 : w1.cell? ⟨g, 6, none⟩ = some l' := hb.cell 6
        have f6 : w1.frozen? ⟨g, 6, none⟩ = false := hb.frozen 6
        obtain ⟨h2, h3⟩ := hG1.storeL hO
        have HG2 := Lib.hid h2
        have HC2 := Lib.hid h3
        clear hcl hsl hot hdep
        clear hv hG hG1 hO hb h2 h3
        go_simp
        refine hK undef _ trivial (by have h' := HG2.out; simpa [dn] using h') ?_
        have hC := HC2.out
        refine fun j' hj _ u' hu => hu.keep hC (safe_of (i := 9) (fun j' hl hj => ?_) j' hj)
        match j', hj with
        | 0, _ => exact trivial
        | 1, _ => exact trivial
        | 2, _ => exact fun q hq hb => by omega
        | 3, _ => exact trivial
        | 4, _ => exact trivial
        | 5, _ => exact fun q hq => by omega
        | 6, _ => exact trivial
        | 7, _ => exact trivial
        | 8, _ => exact trivial
        | 9, hj => exact absurd rfl hj
        | j' + 10, _ => exact absurd hl (by simp)
    · intro vs w2 hvs _ hG
      obtain ⟨k', l', hbx, -, hk, -, hl⟩ := hG.box
      have hk := hk rfl
      obtain ⟨rows', hown', hlen', hval'⟩ := hl rfl
      have hres := HB1.out.chg hG.chg (by have := HGW.out; omega)
      have hfin : ValJ (fun x => B ≤ x) w2 (cells7 k b i f t k' l') j := HV.out.build (hk.rowAt.mono (fun x _ hx => (hk.elem hx).1) (by decide)) (hown'.rowAt.mono (fun x _ hx => (hown'.elem hx).1) (by decide)) hlen' hval'
      have ho1 := hfin.one
      have HFIN := Lib.hid hfin
      have HCG := Lib.hid hG.chg
      have HGS := Lib.hid hG.size
      clear hG hvs hk hl hown' hlen' hval' hfin
      simp only [putAll, Act.put, List.setIfInBounds_toArray, List.set_cons_succ, List.set_cons_zero]
      go_wp2_with (first | (with_reducible refine wpList_loadAgg rfl agg26 rfl rfl hbx.cells rfl ?_) | (with_reducible refine wpList_storeBlk rfl agg26 rfl rfl rfl hres rfl rfl ho1 ?_; intro w6 hb6 hc6 hs6))
      have hgw := HGW.out
      have hbb := HBB.out
      have hbe := HBE.out
      refine bodyPost_ret (results_blk rfl agg26 rfl hb6 rfl) rfl ⟨_, rfl, (HFIN.out.chg hc6 (fun x hx e => by omega)).mono (fun x _ hx => by omega), ((HCW.out.trans HCG.out (fun x hx e => absurd e (by omega)))).trans hc6 (fun x hx e => absurd e (by omega))⟩

end Go.Proofs.YtljaoopfomcaoaaGreatDoor
