/-
  The walks of reading and options.
-/
import Derived.Test.YtljaoopfomcaoaaGreatDoorVk
set_option linter.unusedVariables false
set_option linter.unusedSimpArgs false
namespace Go.Proofs.YtljaoopfomcaoaaGreatDoor
open Go.RowKit

set_option maxRecDepth 100000 in
theorem reading_nil (w : World) : Calls Tryz.prog 96 #[.slice none 0 0] w fun e w' => (∃ fn a b, e = .returned (.func fn a b)) ∧ Chg No w w' := by
  have hmf : ∀ (fn : Fn) (first cap : Array Value) (w : World), (Instr.makeFunc fn first cap).run Tryz.prog w = .ok (.func fn first cap) w := fun _ _ _ _ => rfl
  go_enter Tryz.func96, Tryz.ntmps96
  go_wp2
  go_ret
  exact ⟨⟨_, _, _, rfl⟩, (Chg.refl _ _).alloc _⟩

theorem elem138 : ElemTy Tryz.prog 138 67 1 8 := by
  refine ⟨Tryz.underlying138, ?_, by decide⟩
  have h : (Tryz.prog.info? 67).map (fun i => (i.zero, i.size, i.bytes)) = some (some (.map none), 1, 8) := by kernel_rfl
  obtain ⟨i, h1, h2, h3, h4⟩ := info_parts h
  exact ⟨i, _, h1, h2, h3, h4, rfl⟩

/-- A map, or nil for null. -/
def MapFor (ok : Nat → Prop) (w : World) (m : Value) (x : J) : Prop := (x = .null ∧ m = .map none) ∨ ∃ t b, x = .table t ∧ m = .map (some b) ∧ AnyJ ok w (.iface 67 m) (.table t)

theorem MapFor.chg {ok S : Nat → Prop} {w w' : World} {m : Value} {x : J} (h : MapFor ok w m x) (hc : Chg S w w') (hs : ∀ b, ok b → ¬ S b) : MapFor ok w' m x := by
  rcases h with h | ⟨t, b, h1, h2, h3⟩
  · exact .inl h
  · exact .inr ⟨t, b, h1, h2, h3.chg hc hs⟩

theorem MapFor.mono {ok ok' : Nat → Prop} {w : World} {m : Value} {x : J} (h : MapFor ok w m x) (hs : ∀ b, b < w.heap.size → ok b → ok' b) : MapFor ok' w m x := by
  rcases h with h | ⟨t, b, h1, h2, h3⟩
  · exact .inl h
  · exact .inr ⟨t, b, h1, h2, h3.mono hs⟩

/-- The options' seven cells. -/
abbrev opt7 (vf fn : Value) : List Value := [vf, .slice none 0 0, .slice none 0 0, .slice none 0 0, .slice none 0 0, .slice none 0 0, fn]

/-- The tables of the options under way: the options lie in block g. -/
structure OP (w : World) (g : Nat) (fn : Value) (xs : List J) (wr : World) (n : Nat) (vf : Value) (ms : List Value) : Prop where
  le : n ≤ xs.length
  own : OwnR wr (g + 1) 67 1 vf (ms.map fun m => [m])
  len : ms.length = n
  val : ∀ (i : Nat) (m : Value) (x : J), ms[i]? = some m → xs[i]? = some x → MapFor (okH g vf) wr m x
  chg : Chg No w wr
  box : Blk wr g (opt7 vf fn) 140
  hw : w.heap.size ≤ g

theorem OP.step {w : World} {g : Nat} {fn : Value} {xs : List J} {wr : World} {n : Nat} {vf : Value} {ms : List Value} (h : OP w g fn xs wr n vf ms) {x : J} (hx : xs[n]? = some x) {w4 w6 : World} {m : Value} {vf' : Value}
    (h4 : Chg No wr w4) (hau : MapFor (fun y => wr.heap.size ≤ y) w4 m x) (h6 : Chg (fun b => vf.ownBlock = some b) (w4.alloc (.cells #[m] 67)) w6) (hown : OwnR w6 (g + 1) 67 1 vf' (ms.map (fun m => [m]) ++ [[m]]))
    (hv : vf'.ownBlock = vf.ownBlock ∨ ∀ k, vf'.ownBlock = some k → (w4.alloc (.cells #[m] 67)).heap.size ≤ k) :
    Blk w6 g (opt7 vf fn) 140 ∧ ∀ w7, Blk w7 g (opt7 vf' fn) 140 → Chg (· = g) w6 w7 → OP w g fn xs w7 (n + 1) vf' (ms ++ [m]) := by
  have hlt : n < xs.length := (List.getElem?_eq_some_iff.1 hx).1
  have hel : ∀ k, vf.ownBlock = some k → g + 1 ≤ k ∧ k < wr.heap.size := fun k hk => ⟨(h.own.elem hk).1, (h.own.elem hk).2.1⟩
  have c2 : Chg (fun b => vf.ownBlock = some b) wr w6 := ((h4.mono (fun i _ e => e.elim)).alloc _).trans h6 (fun i _ e => e)
  have hs4 := h4.size
  have hgl := h.box.lt
  have hw := h.hw
  refine ⟨h.box.chg c2 (fun e => by have := (hel g e).1; omega), fun w7 hb7 h7 => ⟨hlt, ?_, by simp [h.len], fun i m' y hr hy => ?_, (h.chg.trans c2 (fun i hi e => absurd (hel i e).1 (by omega))).trans h7 (fun i hi e => absurd e (by omega)), hb7, hw⟩⟩
  · have h2 := hown.chg h7 (fun i hi e => by have := (hown.elem hi).1; omega)
    simpa using h2
  · have hmono : ∀ b, b < w4.heap.size → vf.ownBlock ≠ some b → vf'.ownBlock ≠ some b := fun b hb hne e => by
      rcases hv with hv | hv
      · exact hne (hv ▸ e)
      · have := hv b e; simp at this; omega
    by_cases hi : i < ms.length
    · rw [List.getElem?_append_left hi] at hr
      have hk2 := (h.val i m' y hr hy).mono (ok' := fun b => okH g vf b ∧ b < wr.heap.size) (fun b hb hb2 => ⟨hb2, hb⟩)
      have hk3 := (hk2.chg c2 (fun b hb e => hb.1.2 e)).chg h7 (fun b hb e => by have := hb.1.1; omega)
      exact hk3.mono (fun b _ hb => ⟨hb.1.1, hmono b (by have := hb.2; omega) hb.1.2⟩)
    · have hi2 : i = ms.length := by
        have := (List.getElem?_eq_some_iff.1 hr).1
        simp at this
        omega
      subst hi2
      rw [List.getElem?_append_right (Nat.le_refl _), Nat.sub_self] at hr
      cases hr
      rw [h.len, hx] at hy
      cases hy
      have hk2 := hau.mono (ok' := fun b => wr.heap.size ≤ b ∧ b < w4.heap.size) (fun b hb hb2 => ⟨hb2, hb⟩)
      have hk3 := hk2.chg ((Chg.refl No w4).alloc (.cells #[m] 67)) (fun b hb e => e)
      have hk4 := (hk3.chg h6 (fun b hb e => by have := (hel b e).2; have := hb.1; omega)).chg h7 (fun b hb e => by have := hb.1; omega)
      refine hk4.mono (fun b _ hb => ⟨by have := hb.1; omega, hmono b hb.2 (fun e => ?_)⟩)
      have := (hel b e).2
      have := hb.1
      omega

/-- A value that is a table or null is turned into a map. -/
theorem table_any {ok : Nat → Prop} {w : World} {x : J} {cs : List Value} {N d : Nat} (hN : N < 1099511627776) (hv : ValJ ok w cs x) (wf : Wf N d x) (hx : x = .null ∨ isT x = true) (hsz : sz x ≤ 2000) (hd : d ≤ 61) :
    Calls Tryz.prog 45 #[.agg cs.toArray] w fun e w' => ∃ m, e = .returned (.tuple #[m, .bool true]) ∧ MapFor (fun y => w.heap.size ≤ y) w' m x ∧ Chg No w w' := by
  rcases hx with rfl | hx
  · refine (table_null hN hv wf hsz hd).mono ?_
    rintro e w' ⟨rfl, hc⟩
    exact ⟨_, rfl, .inl ⟨rfl, rfl⟩, hc⟩
  · obtain ⟨t, rfl⟩ := isT_table hx
    refine (table_table hN hv wf hsz hd).mono ?_
    rintro e w' ⟨b, rfl, ha, hc⟩
    exact ⟨_, rfl, .inr ⟨t, b, rfl, rfl, ha⟩, hc⟩

theorem MapFor.slice {ok : Nat → Prop} {w : World} {m : Value} {x : J} (h : MapFor ok w m x) : ∃ p, m = .map p := by
  rcases h with ⟨-, h⟩ | ⟨t, b, -, h, -⟩
  · exact ⟨_, h⟩
  · exact ⟨_, h⟩

set_option maxRecDepth 100000 in
set_option maxHeartbeats 1000000 in
theorem options_any (N : Nat) (hN : N < 1099511627776) (d : Nat) (hd : d ≤ 61) (ok : Nat → Prop) (xs : List J) (lv : Value) (rows0 : List (List Value)) (w : World) (hl : RowAt ok w lv 7 rows0) (hn : rows0.length = xs.length) (hr : ∀ (n : Nat) (r : List Value) (x : J), rows0[n]? = some r → xs[n]? = some x → ValJ ok w r x)
    (hw : ∀ x ∈ xs, Wf N d x ∧ (x = .null ∨ isT x = true) ∧ sz x ≤ 2000) (hx : xs.length ≤ 40) :
    Calls Tryz.prog 63 #[lv, .slice none 0 0, .slice none 0 0] w fun e w' => ∃ g fn vf ms, e = .returned (.tuple #[.pointer (some ⟨g, 0, none⟩), .bool true]) ∧ OP w g fn xs w' xs.length vf ms := by
  have HL := Lib.hid hl
  have HN := Lib.hid hn
  have HR := Lib.hid hr
  have WX := Lib.hid hw
  have hl1 := hl.1
  obtain ⟨-, -, la, lc, rfl, -, -⟩ := hl
  unfold maxLen at hl1
  rw [hn] at hl1 HL ⊢
  have h40 : ¬ (40 : Int) < (xs.length : Int) := by omega
  have HX40 := Lib.hid hx
  clear hn hr hw hx
  go_enter Tryz.func63, Tryz.ntmps63
  go_wp2_with fail
  refine (reading_nil w).mono ?_
  rintro e w1 ⟨⟨fn, fa, fb, rfl⟩, hc1⟩
  have HC1 := Lib.hid hc1
  clear hc1
  go_wp2_with fail
  have hb1 := Blk.new w1 (opt7 (.slice none 0 0) (.func fn fa fb)) 140
  have HOP0 := Lib.hid (show OP w w1.heap.size (.func fn fa fb) xs _ 0 (.slice none 0 0) [] from
    ⟨Nat.zero_le _, OwnR.nil _ _ _ _, rfl, fun i r x hr => by simp at hr, HC1.out.alloc _, hb1, HC1.out.size⟩)
  obtain ⟨g, hg⟩ : ∃ g, g = w1.heap.size := ⟨_, rfl⟩
  rw [← hg] at HOP0 ⊢
  clear hb1 hg h40
  go_loopw [35] (fun ct wr => ∃ (n : Nat) (vf : Value) (ms : List Value), ct = .int .i64 n ∧ OP w g (.func fn fa fb) xs wr n vf ms) (fun ct _ => xs.length - (intOf ct).toNat)
  case atStart => exact ⟨0, _, _, rfl, HOP0.out⟩
  case round =>
    obtain ⟨n, vf, ms, rfl, hop⟩ := hrel
    have HOP := Lib.hid hop
    clear hop HOP0
    by_cases hlt : n < xs.length
    · obtain ⟨x, hx⟩ : ∃ x, xs[n]? = some x := ⟨_, List.getElem?_eq_getElem hlt⟩
      obtain ⟨r, hr0⟩ : ∃ r, rows0[n]? = some r := ⟨_, List.getElem?_eq_getElem (by rw [HN.out]; exact hlt)⟩
      obtain ⟨lb, lo, rfl, -, hlc⟩ := HL.out.at (i := n) (r := r) hr0
      have HLC := hlc.chg HOP.out.chg id
      have HV2 := Lib.hid (HR.out n r x hr0 hx)
      obtain ⟨rk, rb, ri, rf, rt, rkv, rlv, rfl⟩ := HV2.out.seven
      have h64 : (n : Int) < (xs.length : Int) := by omega
      have ho1 : (cells7 rk rb ri rf rt rkv rlv).all (·.oneCell') = true := HV2.out.one
      have HX := Lib.hid hx
      clear hr0 hlc hx
      go_wp2_with (first | (with_reducible refine wpList_loadAgg rfl agg26 rfl rfl HLC rfl ?_) | (with_reducible refine wpList_storeNew rfl agg26 rfl rfl rfl rfl rfl ho1 ?_) | (with_reducible refine wpList_loadAgg rfl agg26 rfl rfl (Blk.new wr (cells7 rk rb ri rf rt rkv rlv) 26).cells rfl ?_))
      obtain ⟨wx1, wx2, wx3⟩ := WX.out x (List.mem_of_getElem? HX.out)
      refine (table_any hN (HV2.out.bel.chg (HOP.out.chg.alloc _) (fun _ _ e => e)) wx1 wx2 wx3 hd).mono ?_
      rintro e w4 ⟨m, rfl, hmf, hc4⟩
      obtain ⟨mp, rfl⟩ := hmf.slice
      have hc4' : Chg No wr w4 := ((Chg.refl No wr).alloc _).trans' hc4
      have HSTEP := Lib.hid (fun w6 vf' => HOP.out.step (w6 := w6) (vf' := vf') HX.out hc4' (hmf.mono (fun b _ hb => by simp at hb; omega)))
      have hown := HOP.out.own.chg hc4' (fun _ _ e => e)
      have c0 : w4.cell? ⟨g, 0, none⟩ = some vf := (HOP.out.box.chg hc4' id).cell 0
      have hnb : (ms.map fun m => [m]).length + 1 ≤ 1099511627776 := by
        rw [List.length_map, HOP.out.len]
        have := HX40.out
        omega
      have hbs : g + 1 ≤ w4.heap.size + 1 := by have h1 := HOP.out.box.lt; have h2 := hc4'.size; omega
      clear hmf hc4 hc4' HLC wx1 wx2 wx3
      go_wp2_with (first | (at_builtin; refine wpList_appendRows rfl elem138 rfl rfl (hown.alloc _) rfl (RowAt.one1 w4 [.map mp] 67 1 rfl) (by simp [Value.oneCell']) hnb (by decide) (by simpa using hbs) ?_; intro vf' w6 hown' hc6 hv' hold; (obtain ⟨sa, sn, sc, rfl⟩ := hown'.slice); go_frame) | (refine wpList_setSlice rfl rfl rfl rfl Tryz.sizeOf138 (HSTEP.out w6 _ hc6 hown' hv').1 (show 0 < 7 by decide) ?_; intro w7 hb7 hc7 hs7; go_frame))
      have HA7 := Lib.hid ((HSTEP.out w6 _ hc6 hown' hv').2 w7 hb7 hc7)
      clear hown' hc6 hv' hold hown hb7 hc7
      go_roundw
      case rel => exact ⟨n + 1, _, _, by go_num, HA7.out⟩
      case measure => simp [intOf]; omega
    · have hnl : n = xs.length := Nat.le_antisymm HOP.out.le (Nat.not_lt.1 hlt)
      subst hnl
      have hlen : ¬ ((xs.length : Nat) : Int) < (xs.length : Int) := by omega
      go_wp2_with fail
      refine wp_loop_rounds 1 ?_
      rw [rounds_succ]
      go_wp2
      go_ret2
      exact ⟨g, _, _, _, rfl, HOP.out⟩

end Go.Proofs.YtljaoopfomcaoaaGreatDoor
