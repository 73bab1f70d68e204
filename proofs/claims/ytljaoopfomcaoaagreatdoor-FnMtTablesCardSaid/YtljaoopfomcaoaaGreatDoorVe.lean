/-
  The walk of anyOf: from impl.Value's cells to the packages' values.
-/
import Derived.Test.YtljaoopfomcaoaaGreatDoorPc
set_option linter.unusedVariables false
set_option linter.unusedSimpArgs false
namespace Go.Proofs.YtljaoopfomcaoaaGreatDoor
open Go.RowKit

theorem Blk.setCell {w : World} {g : Nat} {cs : List Value} {ty : TypeId} (h : Blk w g cs ty) (i : Nat) (v : Value) :
    Blk (w.setCell ⟨g, i, none⟩ v) g (cs.set i v) ty ∧ Chg (· = g) w (w.setCell ⟨g, i, none⟩ v) ∧ (w.setCell ⟨g, i, none⟩ v).heap.size = w.heap.size := by
  have h1 : (w.setCell ⟨g, i, none⟩ v).heap.size = w.heap.size := by simp [World.setCell]
  refine ⟨?_, (Chg.refl (· = g) w).setCell (p := ⟨g, i, none⟩) (fun _ => rfl) v, h1⟩
  have hlt := h.lt
  unfold Blk at *
  have h2 : w.heap[g] = .cells cs.toArray ty (0, 0) := by rw [Array.getElem?_eq_getElem hlt] at h; exact Option.some.inj h
  rw [Array.getElem?_eq_getElem (by rw [h1]; exact hlt)]
  simp only [World.setCell, Array.getElem_modify, if_pos, h2]
  simp

theorem OwnR.made {w : World} {base e size : Nat} (hb : base ≤ w.heap.size) : OwnR (w.alloc (.cells #[] e)) base e size (.slice (some ⟨w.heap.size, 0, none⟩) 0 0) [] :=
  ⟨by simp, by simp, .inr ⟨_, 0, #[], rfl, hb, heap_alloc_new w _, by simp, by simp, by simp, by simp⟩⟩

theorem elem151 : ElemTy Tryz.prog 151 20 1 16 := by
  refine ⟨Tryz.underlying151, ?_, by decide⟩
  have h : (Tryz.prog.info? 20).map (fun i => (i.zero, i.size, i.bytes)) = some (some .nilIface, 1, 16) := by kernel_rfl
  obtain ⟨i, h1, h2, h3, h4⟩ := info_parts h
  exact ⟨i, _, h1, h2, h3, h4, rfl⟩

theorem AnyJ.one {ok : Nat → Prop} {w : World} {v : Value} {j : J} (h : AnyJ ok w v j) : v.oneCell' = true := by cases h <;> rfl

theorem ValJ.keepP {ok S : Nat → Prop} {w w' : World} {cs : List Value} {j : J} (h : ValJ ok w cs j) (hc : Chg S w w') (hs : ∀ b, b < w.heap.size → ok b → ¬ S b) : ValJ (okB ok w) w' cs j :=
  (h.mono (ok' := okB ok w) (fun b hb hb2 => ⟨hb2, hb⟩)).chg hc (fun b hb => hs b hb.2 hb.1)

/-- What is new, and not block v's. -/
abbrev okF (B : Nat) (v : Value) : Nat → Prop := fun x => B ≤ x ∧ v.ownBlock ≠ some x

/-- anyOf's list under way. -/
structure AL (w : World) (p c g : Nat) (bx : List Value) (xs : List J) (wr : World) (n : Nat) (v : Value) (vs : List Value) : Prop where
  le : n ≤ xs.length
  out : OwnR wr (g + 1) 20 1 v (vs.map fun u => [u])
  len : vs.length = n
  val : ∀ (i : Nat) (u : Value) (x : J), vs[i]? = some u → xs[i]? = some x → AnyJ (okF w.heap.size v) wr u x
  chg : Chg (· = p) w wr
  cnt : Blk wr p [.int .i64 ((c + 1 + szL (xs.take n) : Nat) : Int)] 3
  box : Blk wr g bx 26
  size : g < wr.heap.size

theorem AL.done {w : World} {p c g : Nat} {bx : List Value} {xs : List J} {wr : World} {v : Value} {vs : List Value} (h : AL w p c g bx xs wr xs.length v vs) (hg : w.heap.size ≤ g) : AnyJ (fun x => w.heap.size ≤ x) wr (.iface 151 v) (.list xs) := by
  refine .list (h.out.rowAt.mono (fun b _ hb => ?_) (by decide)) h.len (fun n u x hu hx => (h.val n u x hu hx).mono (fun b _ hb => hb.1))
  have := (h.out.elem hb).1
  omega

theorem AL.step {w : World} {p c g : Nat} {bx : List Value} {xs : List J} {wr : World} {n : Nat} {v : Value} {vs : List Value} (h : AL w p c g bx xs wr n v vs) (hg : w.heap.size ≤ g) (hp : p < w.heap.size) {x : J} (hx : xs[n]? = some x)
    {w3 w4 w6 : World} {u v' : Value} (h3 : Chg No wr w3) (h4 : Chg (· = p) w3 w4) (hau : AnyJ (fun y => w3.heap.size ≤ y) w4 u x) (hp4 : Blk w4 p [.int .i64 ((c + 1 + szL (xs.take n) + sz x : Nat) : Int)] 3)
    (h6 : Chg (fun b => v.ownBlock = some b) (w4.alloc (.cells #[u] 20)) w6) (hown : OwnR w6 (g + 1) 20 1 v' (vs.map (fun u => [u]) ++ [[u]])) (hv : v'.ownBlock = v.ownBlock ∨ ∀ k, v'.ownBlock = some k → (w4.alloc (.cells #[u] 20)).heap.size ≤ k) :
    AL w p c g bx xs w6 (n + 1) v' (vs ++ [u]) := by
  have hlt : n < xs.length := (List.getElem?_eq_some_iff.1 hx).1
  have hel : ∀ k, v.ownBlock = some k → g + 1 ≤ k ∧ k < wr.heap.size := fun k hk => ⟨(h.out.elem hk).1, (h.out.elem hk).2.1⟩
  have c1 : Chg (fun b => b = p ∨ v.ownBlock = some b) w3 w6 := ((h4.mono (fun i _ e => .inl e)).alloc _).trans h6 (fun i _ e => .inr e)
  have c2 : Chg (fun b => b = p ∨ v.ownBlock = some b) wr w6 := (h3.mono (fun i _ e => e.elim)).trans c1 (fun i _ e => e)
  have hs3 := h3.size
  have hs4 := h4.size
  refine ⟨hlt, by simpa using hown, by simp [h.len], fun i u' x' hu hx' => ?_, h.chg.trans c2 (fun i hi e => ?_), ?_, h.box.chg c2 (fun e => ?_), Nat.lt_of_lt_of_le h.size c2.size⟩
  · have hmono : ∀ b, b < w4.heap.size → v.ownBlock ≠ some b → v'.ownBlock ≠ some b := fun b hb hne e => by
      rcases hv with hv | hv
      · exact hne (hv ▸ e)
      · have := hv b e; simp at this; omega
    by_cases hi : i < vs.length
    · rw [List.getElem?_append_left hi] at hu
      have hk2 := (h.val i u' x' hu hx').mono (ok' := fun b => okF w.heap.size v b ∧ b < wr.heap.size) (fun b hb hb2 => ⟨hb2, hb⟩)
      have hk3 := hk2.chg c2 (fun b hb e => by
        rcases e with e | e
        · have := hb.1.1; omega
        · exact hb.1.2 e)
      exact hk3.mono (fun b _ hb => ⟨hb.1.1, hmono b (by have := hb.2; omega) hb.1.2⟩)
    · have hi2 : i = vs.length := by
        have := (List.getElem?_eq_some_iff.1 hu).1
        simp at this
        omega
      subst hi2
      rw [List.getElem?_append_right (Nat.le_refl _), Nat.sub_self] at hu
      cases hu
      rw [h.len, hx] at hx'
      cases hx'
      have hk2 := hau.mono (ok' := fun b => w3.heap.size ≤ b ∧ b < w4.heap.size) (fun b hb hb2 => ⟨hb2, hb⟩)
      have hk3 := hk2.chg ((Chg.refl No w4).alloc (.cells #[u] 20)) (fun b hb e => e)
      have hk4 := hk3.chg h6 (fun b hb e => by have := (hel b e).2; have := hb.1; omega)
      refine hk4.mono (fun b _ hb => ⟨by have := h.size; have := hb.1; omega, hmono b hb.2 (fun e => ?_)⟩)
      have := (hel b e).2
      have := hb.1
      omega
  · rcases e with e | e
    · exact e
    · have := (hel i e).1; omega
  · rw [← szL_take xs n x hx, ← Nat.add_assoc]
    exact (hp4.alloc _).chg h6 (fun e => by have := (hel p e).1; omega)
  · rcases e with e | e
    · omega
    · have := (hel g e).1; omega

/-- anyOf's table under way. -/
structure AM (w : World) (p c g m : Nat) (bx : List Value) (kvs : T) (wr : World) (n : Nat) (f : K → Option Value) : Prop where
  le : n ≤ kvs.length
  out : MapB wr m n f
  hit : ∀ (k : K) (j : J), get (kvs.take n) k = some j → ∃ u, f k = some u ∧ AnyJ (fun x => w.heap.size ≤ x ∧ x ≠ m) wr u j
  miss : ∀ (k : K), get (kvs.take n) k = none → f k = none
  chg : Chg (· = p) w wr
  cnt : Blk wr p [.int .i64 ((c + 1 + szT (kvs.take n) : Nat) : Int)] 3
  box : Blk wr g bx 26
  gm : g < m

theorem AM.done {w : World} {p c g m : Nat} {bx : List Value} {kvs : T} {wr : World} {f : K → Option Value} (h : AM w p c g m bx kvs wr kvs.length f) (hg : w.heap.size ≤ g) : AnyJ (fun x => w.heap.size ≤ x) wr (.iface 67 (.map (some m))) (.table kvs) := by
  have hh := h.hit
  have hm := h.miss
  rw [List.take_length] at hh hm
  refine .table h.out (by have := h.gm; omega) (fun k => ?_) (fun k u x hf hx => ?_)
  · cases hx : get kvs k with
    | none => rw [hm k hx]; rfl
    | some j => obtain ⟨u, h1, -⟩ := hh k j hx; rw [h1]; rfl
  · obtain ⟨u', h1, h2⟩ := hh k x hx
    rw [hf] at h1
    cases h1
    exact h2.mono (fun b _ hb => hb.1)

theorem AM.step {w : World} {p c g m : Nat} {bx : List Value} {kvs : T} {wr : World} {n : Nat} {f : K → Option Value} (h : AM w p c g m bx kvs wr n f) (hs : Sorted kvs) (hg : w.heap.size ≤ g) (hp : p < w.heap.size) {q : K × J} (hx : kvs[n]? = some q)
    {w4 w6 : World} {u : Value} (h4 : Chg (· = p) wr w4) (hau : AnyJ (fun y => wr.heap.size ≤ y) w4 u q.2) (hp4 : Blk w4 p [.int .i64 ((c + 1 + szT (kvs.take n) + sz q.2 : Nat) : Int)] 3)
    (h6 : Chg (· = m) w4 w6) (hout : MapB w6 m (n + 1) (fun z => if z = q.1 then some u else f z)) :
    AM w p c g m bx kvs w6 (n + 1) (fun z => if z = q.1 then some u else f z) := by
  have hlt : n < kvs.length := (List.getElem?_eq_some_iff.1 hx).1
  have hgm := h.gm
  have ht : kvs.take (n + 1) = kvs.take n ++ [q] := by rw [List.take_add_one, hx]; rfl
  have hsn := sorted_take hs (n + 1)
  rw [ht] at hsn
  have c2 : Chg (fun b => b = p ∨ b = m) wr w6 := (h4.mono (fun i _ e => .inl e)).trans h6 (fun i _ e => .inr e)
  have hml := h.out.lt
  have hs4 := h4.size
  refine ⟨hlt, hout, fun k j hj => ?_, fun k hk => ?_, h.chg.trans c2 (fun i hi e => by omega), ?_, h.box.chg c2 (fun e => by omega), hgm⟩
  · rw [ht, get_snoc hsn] at hj
    by_cases e : q.1 = k
    · rw [if_pos e] at hj
      cases hj
      refine ⟨u, if_pos e.symm, ?_⟩
      have hk2 := hau.mono (ok' := fun b => wr.heap.size ≤ b ∧ b < w4.heap.size) (fun b hb hb2 => ⟨hb2, hb⟩)
      have hk3 := hk2.chg h6 (fun b hb e => by have := hb.1; omega)
      exact hk3.mono (fun b _ hb => ⟨by have := hb.1; omega, by have := hb.1; omega⟩)
    · rw [if_neg e] at hj
      obtain ⟨u', h1, h2⟩ := h.hit k j hj
      refine ⟨u', by simp only [if_neg (fun e2 : k = q.1 => e e2.symm)]; exact h1, ?_⟩
      exact h2.keep c2 (fun b _ hb e => by
        have h3 := hb.1
        have h4 := hb.2
        omega)
  · rw [ht, get_snoc hsn] at hk
    by_cases e : q.1 = k
    · rw [if_pos e] at hk; cases hk
    · rw [if_neg e] at hk
      simp only [if_neg (fun e2 : k = q.1 => e e2.symm)]
      exact h.miss k hk
  · rw [← szT_take kvs n q hx, ← Nat.add_assoc]
    exact hp4.chg h6 (fun e => by omega)

/-- anyOf's outcome. -/
def AnyPost (w : World) (p c : Nat) (j : J) (e : Ending) (w' : World) : Prop :=
  ∃ v, e = .returned (.tuple #[v, .bool true]) ∧ AnyJ (fun x => w.heap.size ≤ x) w' v j ∧ Chg (· = p) w w' ∧ Blk w' p [.int .i64 ((c + sz j : Nat) : Int)] 3

set_option maxRecDepth 100000 in
set_option maxHeartbeats 1000000 in
theorem anyOf_any (N : Nat) (hN : N < 1099511627776) (d : Nat) : ∀ (ok : Nat → Prop) (j : J) (cs : List Value) (w : World) (p c dep : Nat), ValJ ok w cs j → Wf N d j → Blk w p [.int .i64 (c : Int)] 3 → ¬ ok p → c + sz j ≤ 2000 → dep + d ≤ 61 →
    Calls Tryz.prog 82 #[.agg cs.toArray, .int .i64 (dep : Int), .pointer (some ⟨p, 0, none⟩)] w (AnyPost w p c j) := by
  induction d with
  | zero => intro ok j cs w p c dep _ h; exact h.elim
  | succ d ih =>
    intro ok j cs w p c dep hv wf hp hnp hc hd
    obtain ⟨k, b, i, f, t, kv, lv, rfl⟩ := hv.seven
    have hc1 := sz_pos j
    have hpc : w.cell? ⟨p, 0, none⟩ = some (.int .i64 (c : Int)) := hp.cell 0
    have hpf := hp.frozen 0
    have hpl := hp.lt
    have HV := Lib.hid hv
    have WF := Lib.hid wf
    have IH := Lib.hid ih
    have HP := Lib.hid hp
    have HNP := Lib.hid hnp
    have hc2 : (c : Int) < 2000 := by omega
    have hd2 : (dep : Int) ≤ 60 := by omega
    have hd3 : (dep : Int) + 1 ≤ 61 := by omega
    have HCC := Lib.hid hc
    have HD := Lib.hid hd
    clear hv wf ih hp hnp hc hd hc1
    go_enter Tryz.func82, Tryz.ntmps82
    unfold cells7
    go_upto_region 2 with fail
    obtain ⟨hb1, hcs1, hss1⟩ := HP.out.setCell 0 (.int .i64 ((c : Int) + 1))
    obtain ⟨g, hg⟩ : ∃ g, g = w.heap.size := ⟨_, rfl⟩
    have hbx := Blk.new (w.setCell ⟨p, 0, none⟩ (.int .i64 ((c : Int) + 1))) (cells7 k b i f t kv lv) 26
    replace hb1 := hb1.alloc (.cells (cells7 k b i f t kv lv).toArray 26)
    replace hcs1 := hcs1.alloc (.cells (cells7 k b i f t kv lv).toArray 26)
    have hs1 : g < ((w.setCell ⟨p, 0, none⟩ (.int .i64 ((c : Int) + 1))).alloc (.cells (cells7 k b i f t kv lv).toArray 26)).heap.size := by simp [hss1, hg]
    rw [hss1, ← hg] at hbx
    rw [← hg] at hpl ⊢
    have HG := Lib.hid hg
    unfold cells7 at hbx hb1 hcs1 hs1
    generalize (w.setCell ⟨p, 0, none⟩ (.int .i64 ((c : Int) + 1))).alloc _ = w1 at hbx hb1 hcs1 hs1 ⊢
    have HB1 := Lib.hid hb1
    have HCS := Lib.hid hcs1
    have hpc1 : w1.cell? ⟨p, 0, none⟩ = some (.int .i64 ((c : Int) + 1)) := hb1.cell 0
    have hd4 : ¬ (2000 : Int) < (c : Int) + 1 := by omega
    have hd5 : ¬ (60 : Int) < (dep : Int) := by omega
    have HBX := Lib.hid hbx
    have hk0 : w1.cell? ⟨g, 0, none⟩ = some (.int .i64 k) := hbx.cell 0
    clear hbx
    clear hpc hpf hss1 hb1 hcs1 hg
    have hlast : ∀ (j : J), c + sz j = c + 1 → Blk w1 p [.int .i64 ((c + sz j : Nat) : Int)] 3 := fun j hj => by rw [hj]; exact HB1.out
    have HLAST := Lib.hid hlast
    clear hlast
    cases HV.out with
    | null hk hl =>
      clear hk hl
      go_wp2
      go_ret2
      exact ⟨_, rfl, .null, HCS.out, HLAST.out .null rfl⟩
    | bool hk hl =>
      clear hk hl
      have hk1 := HBX.out.cell 1
      simp only [List.getElem?_cons_succ, List.getElem?_cons_zero] at hk1
      go_wp2
      go_ret2
      exact ⟨_, rfl, .bool, HCS.out, HLAST.out (.bool b) rfl⟩
    | int hk hl =>
      clear hk hl
      have hk2 := HBX.out.cell 2
      simp only [List.getElem?_cons_succ, List.getElem?_cons_zero] at hk2
      go_wp2
      go_ret2
      exact ⟨_, rfl, .int, HCS.out, HLAST.out (.int i) rfl⟩
    | float hk hl =>
      clear hk hl
      have hk3 := HBX.out.cell 3
      simp only [List.getElem?_cons_succ, List.getElem?_cons_zero] at hk3
      go_wp2
      go_ret2
      exact ⟨_, rfl, .float, HCS.out, HLAST.out (.float f) rfl⟩
    | text hk hl =>
      clear hk hl
      have hk4 := HBX.out.cell 4
      simp only [List.getElem?_cons_succ, List.getElem?_cons_zero] at hk4
      go_wp2
      go_ret2
      exact ⟨_, rfl, .text, HCS.out, HLAST.out (.text t) rfl⟩
    | @list _ _ _ _ _ _ rows xs hk hl hn hr =>
      have HR := Lib.hid hr
      have HL := Lib.hid hl
      have HN := Lib.hid hn
      have hl1 := hl.1
      obtain ⟨-, -, la, lc, rfl, -, -⟩ := hl
      unfold maxLen at hl1
      have hk6 : w1.cell? ⟨g, 6, none⟩ = some (.slice la rows.length lc) := HBX.out.cell 6
      clear hk hr hn
      go_wp2_with fail
      have HPG := Lib.hid (show w.heap.size ≤ g ∧ p < w.heap.size by have := HG.out; omega)
      have HAL0 := Lib.hid (show AL w p c g (cells7 6 b i f t kv (.slice la rows.length lc)) xs (w1.alloc (.cells #[] 20)) 0 (.slice (some ⟨w1.heap.size, 0, none⟩) 0 0) [] from
        ⟨Nat.zero_le _, OwnR.made (by omega), rfl, fun i u x h => by simp at h, HCS.out.alloc _, by simpa [szL] using HB1.out.alloc (.cells #[] 20), HBX.out.alloc _, by simp; omega⟩)
      clear hk0 hk6 hs1 HB1 HCS HLAST HBX hpc1
      go_loopw [8, 61] (fun v ct wr => ∃ (n : Nat) (vs : List Value), ct = .int .i64 n ∧ AL w p c g (cells7 6 b i f t kv (.slice la rows.length lc)) xs wr n v vs) (fun _ ct _ => xs.length - (intOf ct).toNat)
      case atStart => exact ⟨0, [], rfl, HAL0.out⟩
      case round =>
        obtain ⟨n, vs, rfl, hal⟩ := hrel
        have HAL := Lib.hid hal
        clear hal HAL0
        by_cases hlt : n < xs.length
        · have hx : xs[n]? = some (xs[n]) := List.getElem?_eq_getElem hlt
          have hlt2 : n < rows.length := by rw [HN.out]; exact hlt
          obtain ⟨r, hr0⟩ : ∃ r, rows[n]? = some r := ⟨_, List.getElem?_eq_getElem hlt2⟩
          obtain ⟨lb, lo, rfl, hlok, hlc⟩ := HL.out.at (i := n) (r := r) hr0
          have HLC := hlc.chg HAL.out.chg (fun e => HNP.out (e ▸ hlok))
          have HV2 := Lib.hid (HR.out n r _ hr0 hx)
          obtain ⟨rk, rb, ri, rf, rt, rkv, rlv, rfl⟩ := HV2.out.seven
          have h64 : (n : Int) < (rows.length : Int) := by omega
          have ho1 : (cells7 rk rb ri rf rt rkv rlv).all (·.oneCell') = true := HV2.out.one
          have HX := Lib.hid hx
          clear hr0 hlc hx
          generalize xs[n] = x at HX HV2
          go_wp2_with (first | (with_reducible refine wpList_loadAgg rfl agg26 rfl rfl HLC rfl ?_) | (with_reducible refine wpList_storeNew rfl agg26 rfl rfl rfl rfl rfl ho1 ?_) | (with_reducible refine wpList_loadAgg rfl agg26 rfl rfl (Blk.new wr (cells7 rk rb ri rf rt rkv rlv) 26).cells rfl ?_))
          have hal := HAL.out
          have hszl : c + 1 + szL (xs.take n) + sz x ≤ 2000 := by
            have h1 := szL_take xs n x HX.out
            have h2 := szL_le xs (n + 1)
            have h3 := HCC.out
            simp only [sz] at h3
            omega
          have hcall := IH.out (okB ok w) x (cells7 rk rb ri rf rt rkv rlv) (wr.alloc (.cells (cells7 rk rb ri rf rt rkv rlv).toArray 26)) p (c + 1 + szL (xs.take n)) (dep + 1) (HV2.out.keepP (hal.chg.alloc _) (fun y hy hok e => HNP.out (e ▸ hok))) (WF.out.2 _ (List.mem_of_getElem? HX.out)) (hal.cnt.alloc _) (fun h => HNP.out h.1) hszl (by have := HD.out; omega)
          rw [show ((dep + 1 : Nat) : Int) = (dep : Int) + 1 by omega] at hcall
          refine hcall.mono ?_
          rintro e w4 ⟨u, rfl, hau, hc4, hp4⟩
          have HSTEP := Lib.hid (fun w6 v' => hal.step (w6 := w6) (v' := v') HPG.out.1 HPG.out.2 HX.out ((Chg.refl No wr).alloc _) hc4 hau hp4)
          have hown := (hal.out.chg (((Chg.refl No wr).alloc (.cells (cells7 rk rb ri rf rt rkv rlv).toArray 26)).trans' (Chg.refl No _)) (fun _ _ e => e)).chg hc4 (fun k hk e => by have := (hal.out.elem hk).1; omega)
          have hou := hau.one
          have hbld := run_build151 u hou
          have hnb : (vs.map fun u => [u]).length + 1 ≤ 1099511627776 := by
            have h1 := szL_length xs
            have h3 := HCC.out
            simp only [sz] at h3
            rw [List.length_map, hal.len]
            omega
          have hbs : g + 1 ≤ w4.heap.size + 1 := by have := hal.size; have := hc4.size; simp at this; omega
          have HAL2 := Lib.hid (Nat.lt_of_lt_of_le hal.size (Nat.le_trans (Nat.le_succ _) (by simpa using hc4.size)))
          clear hcall hau hp4 HLC hszl hal hc4
          go_wp2_with (first | (refine wpList_build1 rfl rfl rfl hou ?_) | (at_builtin; refine wpList_appendRows rfl elem151 rfl rfl (hown.alloc _) rfl (RowAt.one1 w4 [u] 20 1 rfl) (by simp [hou]) hnb (by decide) (by simpa using hbs) ?_; intro v' w6 hown' hc6 hv' hold; go_frame))
          have HA6 := Lib.hid (HSTEP.out w6 v' hc6 hown' hv')
          clear hown' hc6 hv' hold hown
          go_roundw
          case rel => exact ⟨n + 1, vs ++ [u], by go_num, HA6.out⟩
          case measure => simp [intOf]; omega
        · have hnl : n = xs.length := Nat.le_antisymm HAL.out.le (Nat.not_lt.1 hlt)
          subst hnl
          have hlen : ¬ ((xs.length : Nat) : Int) < (rows.length : Int) := by rw [HN.out]; omega
          go_wp2_with fail
          go_ret2
          have hal := HAL.out
          refine ⟨_, rfl, hal.done HPG.out.1, hal.chg, ?_⟩
          have h1 := hal.cnt
          rw [List.take_length] at h1
          simpa [sz, Nat.add_assoc] using h1
    | @table _ _ _ _ _ _ rows kvs hk hl hn hr =>
      have HR := Lib.hid hr
      have HL := Lib.hid hl
      have HKR := Lib.hid hk
      have HN := Lib.hid hn
      have hl1 := hl.1
      have hk1 := hk.1
      obtain ⟨-, -, la, lc, rfl, -, -⟩ := hl
      obtain ⟨-, -, ka, kc, rfl, -, -⟩ := hk
      simp only [List.length_map] at hk1 HBX HV HKR
      unfold maxLen at hl1 hk1
      rw [hn] at HL HBX HV hl1
      have hk5 : w1.cell? ⟨g, 5, none⟩ = some (.slice ka kvs.length kc) := HBX.out.cell 5
      have hk6 : w1.cell? ⟨g, 6, none⟩ = some (.slice la kvs.length lc) := HBX.out.cell 6
      clear hr hn
      have hmkn := run_makeMap67n
      have HPG := Lib.hid (show w.heap.size ≤ g ∧ p < w.heap.size by have := HG.out; omega)
      go_wp2_with fail
      have HAM0 := Lib.hid (show AM w p c g w1.heap.size (cells7 7 b i f t (.slice ka kvs.length kc) (.slice la kvs.length lc)) kvs (w1.alloc (.map #[] 0)) 0 (fun _ => none) from
        ⟨Nat.zero_le _, MapB.made w1, fun k j h => by simp [get] at h, fun k h => rfl, HCS.out.alloc _, by simpa [szT] using HB1.out.alloc (.map #[] 0), HBX.out.alloc _, hs1⟩)
      obtain ⟨m, hm⟩ : ∃ m, m = w1.heap.size := ⟨_, rfl⟩
      rw [← hm] at HAM0 ⊢
      clear hk0 hk6 hs1 HB1 HCS HLAST HBX hpc1 hk5 hm
      go_loopw [95] (fun ct wr => ∃ (n : Nat) (fo : K → Option Value), ct = .int .i64 n ∧ AM w p c g m (cells7 7 b i f t (.slice ka kvs.length kc) (.slice la kvs.length lc)) kvs wr n fo) (fun ct _ => kvs.length - (intOf ct).toNat)
      case atStart => exact ⟨0, _, rfl, HAM0.out⟩
      case round =>
        obtain ⟨n, fo, rfl, ham⟩ := hrel
        have HAM := Lib.hid ham
        clear ham HAM0
        by_cases hlt : n < kvs.length
        · obtain ⟨q, hx⟩ : ∃ q, kvs[n]? = some q := ⟨_, List.getElem?_eq_getElem hlt⟩
          have hlt2 : n < rows.length := by rw [HN.out]; exact hlt
          obtain ⟨r, hr0⟩ : ∃ r, rows[n]? = some r := ⟨_, List.getElem?_eq_getElem hlt2⟩
          obtain ⟨lb, lo, rfl, hlok, hlc⟩ := HL.out.at (i := n) (r := r) hr0
          obtain ⟨kb, ko, rfl, hkok, hkc⟩ := HKR.out.at (i := n) (r := [.string q.1]) (by simp [hx])
          have HLC := hlc.chg HAM.out.chg (fun e => HNP.out (e ▸ hlok))
          have hkc := (hkc.chg HAM.out.chg (fun e => HNP.out (e ▸ hkok))).one
          simp only [Nat.mul_one] at hkc
          have HV2 := Lib.hid (HR.out n r _ hr0 hx)
          obtain ⟨rk, rb, ri, rf, rt, rkv, rlv, rfl⟩ := HV2.out.seven
          have h64 : (n : Int) < (kvs.length : Int) := Int.ofNat_lt.2 hlt
          have hk5 : wr.cell? ⟨g, 5, none⟩ = some (.slice (some ⟨kb, ko, none⟩) kvs.length kc) := HAM.out.box.cell 5
          have hk6 : wr.cell? ⟨g, 6, none⟩ = some (.slice (some ⟨lb, lo, none⟩) kvs.length lc) := HAM.out.box.cell 6
          have HX := Lib.hid hx
          clear hr0 hlc hx
          go_wp2_with (first | (with_reducible refine wpList_loadAgg rfl agg26 rfl rfl HLC rfl ?_))
          have ham := HAM.out
          have hszl : c + 1 + szT (kvs.take n) + sz q.2 ≤ 2000 := by
            have h1 := szT_take kvs n q HX.out
            have h2 := szT_le kvs (n + 1)
            have h3 := HCC.out
            simp only [sz] at h3
            omega
          have hcall := IH.out (okB ok w) q.2 (cells7 rk rb ri rf rt rkv rlv) wr p (c + 1 + szT (kvs.take n)) (dep + 1) (HV2.out.keepP ham.chg (fun y hy hok e => HNP.out (e ▸ hok))) (WF.out.2.2 _ (List.mem_of_getElem? HX.out)).2 ham.cnt (fun h => HNP.out h.1) hszl (by have := HD.out; omega)
          rw [show ((dep + 1 : Nat) : Int) = (dep : Int) + 1 by omega] at hcall
          refine hcall.mono ?_
          rintro e w4 ⟨u, rfl, hau, hc4, hp4⟩
          have HSTEP := Lib.hid (fun w6 => ham.step (w6 := w6) WF.out.1 HPG.out.1 HPG.out.2 HX.out hc4 hau hp4)
          have hmz : MapB w4 m n fo := ham.out.chg hc4 (fun e => by have := ham.gm; have := HPG.out; omega)
          have hnz : n < maxLen := by have h1 := WF.out.2.1; unfold maxLen; omega
          have hqk : q.1.size ≤ maxLen := by have h1 := (WF.out.2.2 _ (List.mem_of_getElem? HX.out)).1; unfold kOk at h1; unfold maxLen; omega
          have hbx4 := ham.box.chg hc4 (fun e => by have := HPG.out; omega)
          have hk54 : w4.cell? ⟨g, 5, none⟩ = some (.slice (some ⟨kb, ko, none⟩) kvs.length kc) := hbx4.cell 5
          have HQK := Lib.hid hqk
          have HC4 := Lib.hid (ham.chg.trans hc4 (fun i _ e => e))
          clear hcall hau hp4 HLC hszl ham hc4 hkc hk5 hk6 hbx4 hqk
          by_cases hn0 : n = 0
          · subst hn0
            go_wp2_with (first | (at_mapUpdate; refine wpList_putB (u := u) rfl rfl rfl hmz hnz rfl HQK.out rfl ?_; intro w6 hm6 hc6 hs6; go_frame))
            have HA6 := Lib.hid (HSTEP.out w6 hc6 hm6)
            clear hm6 hc6
            go_roundw
            case rel => exact ⟨0 + 1, _, by go_num, HA6.out⟩
            case measure => simp [intOf]; omega
          · obtain ⟨n', rfl⟩ : ∃ n', n = n' + 1 := ⟨n - 1, by omega⟩
            obtain ⟨q', hx'⟩ : ∃ q, kvs[n']? = some q := ⟨_, List.getElem?_eq_getElem (by omega)⟩
            obtain ⟨kb', ko', he, hkok', hkc'⟩ := HKR.out.at (i := n') (r := [.string q'.1]) (by simp [hx'])
            cases he
            have hkc' := (hkc'.chg HC4.out (fun e => HNP.out (e ▸ hkok))).one
            simp only [Nat.mul_one] at hkc'
            have hbl : Op.bytesLess q'.1.toList q.1.toList = true := by
              rw [bytesLess_klt]
              simpa using List.pairwise_iff_getElem.1 WF.out.1 n' (n' + 1) (by omega) hlt (by omega) |> fun h => by
                rw [(List.getElem?_eq_some_iff.1 hx').2, (List.getElem?_eq_some_iff.1 HX.out).2] at h
                exact h
            go_wp2_with (first | (at_mapUpdate; refine wpList_putB (u := u) rfl rfl rfl hmz hnz rfl HQK.out rfl ?_; intro w6 hm6 hc6 hs6; go_frame))
            have HA6 := Lib.hid (HSTEP.out w6 hc6 hm6)
            clear hm6 hc6
            go_roundw
            case rel => exact ⟨n' + 1 + 1, _, by go_num, HA6.out⟩
            case measure => simp [intOf]; omega
        · have hnl : n = kvs.length := Nat.le_antisymm HAM.out.le (Nat.not_lt.1 hlt)
          subst hnl
          go_wp2_with fail
          go_ret2
          have ham := HAM.out
          refine ⟨_, rfl, ham.done HPG.out.1, ham.chg, ?_⟩
          have h1 := ham.cnt
          rw [List.take_length] at h1
          simpa [sz, Nat.add_assoc] using h1

end Go.Proofs.YtljaoopfomcaoaaGreatDoor
