/-
  Slices of rows that the call itself owns: append, over any program.
-/
import Derived.Test.YtljaoopfomcaoaaGreatDoorOp
import Derived.Laws.AppendOwnNone
set_option linter.unusedVariables false
set_option linter.unusedSimpArgs false
namespace Go.Proofs.YtljaoopfomcaoaaGreatDoor
open Go.RowKit

/-- t is the type of slices of e; an e has so many cells and bytes. -/
structure ElemTy (P : Program) (t e size bytes : Nat) : Prop where
  und : P.underlying t = some (.slice e)
  info : ∃ i z, P.info? e = some i ∧ i.zero = some z ∧ i.size = size ∧ i.bytes = bytes ∧ z.cells.size = size
  pos : 0 < size

/-- A slice value that owns its rows: nil, or at the head of a block from base on that nothing shares. -/
def OwnR (w : World) (base e size : Nat) (v : Value) (rows : List (List Value)) : Prop :=
  (∀ r ∈ rows, r.length = size) ∧ w.ownsRow base e size v rows.length rows.flatten

theorem OwnR.nil (w : World) (base e size : Nat) : OwnR w base e size (.slice none 0 0) [] := ⟨by simp, World.ownsRow_nil w base e size⟩

theorem OwnR.chg {S : Nat → Prop} {w w' : World} {base e size : Nat} {v : Value} {rows : List (List Value)} (h : OwnR w base e size v rows) (hc : Chg S w w') (hn : ∀ k, v.ownBlock = some k → ¬ S k) : OwnR w' base e size v rows := by
  obtain ⟨h0, h1, h2⟩ := h
  refine ⟨h0, h1, ?_⟩
  rcases h2 with h2 | ⟨g, cap, cur, rfl, hg, hh, r⟩
  · exact .inl h2
  · exact .inr ⟨g, cap, cur, rfl, hg, (hc.block g (Array.getElem?_eq_some_iff.1 hh).1 (hn g rfl)).trans hh, r⟩

theorem OwnR.alloc {w : World} {base e size : Nat} {v : Value} {rows : List (List Value)} (h : OwnR w base e size v rows) (o : Obj) : OwnR (w.alloc o) base e size v rows :=
  h.chg (S := No) ((Chg.refl _ _).alloc o) (fun _ _ e => e)

/-- The block of an owned slice holds its element type's cells. -/
theorem OwnR.elem {w : World} {base e size : Nat} {v : Value} {rows : List (List Value)} (h : OwnR w base e size v rows) {k : Nat} (hk : v.ownBlock = some k) : base ≤ k ∧ k < w.heap.size ∧ ∃ cur, w.heap[k]? = some (.cells cur e (0, 0)) := by
  obtain ⟨-, -, h2⟩ := h
  rcases h2 with ⟨rfl, -⟩ | ⟨g, cap, cur, rfl, hg, hh, r⟩
  · cases hk
  · cases hk; exact ⟨hg, (Array.getElem?_eq_some_iff.1 hh).1, cur, hh⟩

/-- Two owned slices over different element types don't share a block. -/
theorem OwnR.apart {w : World} {base e size base' e' size' : Nat} {v v' : Value} {rows rows' : List (List Value)} (h : OwnR w base e size v rows) (h' : OwnR w base' e' size' v' rows') (he : e ≠ e') {k : Nat} (hk : v.ownBlock = some k) : ¬ v'.ownBlock = some k := by
  intro hk'
  obtain ⟨-, -, cur, h1⟩ := h.elem hk
  obtain ⟨-, -, cur', h2⟩ := h'.elem hk'
  rw [h1] at h2
  cases h2
  exact he rfl

theorem flatten_get {rows : List (List Value)} {size : Nat} (h : ∀ r ∈ rows, r.length = size) {i j : Nat} {r : List Value} {u : Value} (hr : rows[i]? = some r) (hu : r[j]? = some u) : rows.flatten[i * size + j]? = some u := by
  induction rows generalizing i with
  | nil => simp at hr
  | cons a rs ih =>
    have ha : a.length = size := h a (by simp)
    cases i with
    | zero =>
      simp at hr; subst hr
      have hj : j < a.length := (List.getElem?_eq_some_iff.1 hu).1
      simp only [List.flatten_cons, Nat.zero_mul, Nat.zero_add]
      rw [List.getElem?_append_left hj]; exact hu
    | succ i =>
      simp only [List.getElem?_cons_succ] at hr
      have := ih (fun r hr => h r (by simp [hr])) hr
      simp only [List.flatten_cons]
      rw [List.getElem?_append_right (by rw [ha, Nat.add_mul]; omega), ha]
      rw [show (i + 1) * size + j - size = i * size + j by rw [Nat.add_mul]; omega]
      exact this

theorem flatten_length {rows : List (List Value)} {size : Nat} (h : ∀ r ∈ rows, r.length = size) : rows.flatten.length = rows.length * size := by
  induction rows with
  | nil => simp
  | cons a rs ih =>
    rw [List.flatten_cons, List.length_append, ih (fun r hr => h r (by simp [hr])), h a (by simp), List.length_cons, Nat.add_mul]
    omega

/-- An owned slice reads as rows. -/
theorem OwnR.rowAt {w : World} {base e size : Nat} {v : Value} {rows : List (List Value)} (h : OwnR w base e size v rows) : RowAt (fun b => v.ownBlock = some b) w v size rows := by
  obtain ⟨h0, h1, h2⟩ := h
  rcases h2 with ⟨rfl, hn⟩ | ⟨g, cap, cur, rfl, hg, hh, h3, h4, h5, h6⟩
  · have : rows = [] := List.eq_nil_of_length_eq_zero hn
    subst this
    exact ⟨by simp, by simp, none, 0, rfl, fun _ => rfl, fun hne => absurd rfl hne⟩
  · refine ⟨Nat.le_trans h3 h4, h0, some ⟨g, 0, none⟩, cap, rfl, (by intro e; cases e), fun _ => ⟨g, 0, rfl, rfl, fun i r hr j u hu => ?_⟩⟩
    rw [cell_of_row w g _ cur e (0, 0) hh]
    have := flatten_get h0 hr hu
    rw [← h6] at this
    rw [List.getElem?_take] at this
    split at this
    · rw [Nat.zero_add]; simpa using this
    · cases this

theorem RowAt.flat {ok : Nat → Prop} {w : World} {a : Option Addr} {n cap size : Nat} {rows : List (List Value)} (h : RowAt ok w (.slice a n cap) size rows) (hz : 0 < size) {ad : Addr} (ha : a = some ad) :
    ∀ j u, rows.flatten[j]? = some u → w.cell? (ad.add j) = some u := by
  subst ha
  intro j u hu
  obtain ⟨h1, h2, a', cap', hv, -, h3⟩ := h
  cases hv
  have hne : rows ≠ [] := fun e => by subst e; simp at hu
  obtain ⟨b, off, hb, hok, hcell⟩ := h3 hne
  cases hb
  have hj : j < rows.flatten.length := (List.getElem?_eq_some_iff.1 hu).1
  rw [flatten_length h2] at hj
  have hi : j / size < rows.length := (Nat.div_lt_iff_lt_mul hz).2 hj
  have hr := List.getElem?_eq_getElem hi
  have hl := h2 _ (List.getElem_mem hi)
  have hm : j % size < (rows[j / size]).length := by rw [hl]; exact Nat.mod_lt _ hz
  have hu2 := List.getElem?_eq_getElem hm
  have e := flatten_get h2 hr hu2
  have ej : j / size * size + j % size = j := by rw [Nat.mul_comm]; exact Nat.div_add_mod j size
  rw [ej, hu] at e
  cases e
  have := hcell _ _ hr _ _ hu2
  rw [add_eq]
  rw [show off + j / size * size + j % size = off + j by omega] at this
  exact this

/-- append(v, x...), v owned, x whatever rows. -/
theorem run_appendRows {P : Program} {w : World} {t e size bytes base : Nat} (hT : ElemTy P t e size bytes) (ty : TypeId) {v : Value} {rows : List (List Value)} (hown : OwnR w base e size v rows)
    {ok : Nat → Prop} {x : Value} {news : List (List Value)} (hx : RowAt ok w x size news) (h1 : ∀ r ∈ news, r.all (·.oneCell') = true)
    (hn : rows.length + news.length ≤ 1099511627776) (hb : bytes ≤ 128) (hbase : base ≤ w.heap.size) :
    ∃ v' w', (Builtin.append_ #[t, t] ty #[v, x]).run P w = .ok v' w' ∧ OwnR w' base e size v' (rows ++ news) ∧ Chg (fun b => v.ownBlock = some b) w w' ∧
      (v'.ownBlock = v.ownBlock ∨ ∀ k, v'.ownBlock = some k → w.heap.size ≤ k) ∧ OwnR w' base e size v rows := by
  obtain ⟨hu, ⟨i, z, hi, hz, hsize, hby, hzs⟩, hpos⟩ := hT
  have hx0 := hx
  obtain ⟨hm, hs, a, cap, rfl, hcap, hcell⟩ := hx0
  have hall : ∀ r ∈ rows ++ news, r.length = size := fun r hr => (List.mem_append.1 hr).elim (hown.1 r) (hs r)
  have hbytes : (rows.length + news.length) * bytes ≤ 140737488355328 := by
    have := Nat.mul_le_mul hn hb; omega
  have hml : rows.length + news.length ≤ maxLen := by unfold maxLen; omega
  cases a with
  | none =>
    have hnil : news = [] := by
      cases news with
      | nil => rfl
      | cons r rs => obtain ⟨b, off, hb, -⟩ := hcell (by simp); cases hb
    subst hnil
    have hr := run_append_owned_none (P := P) w base t ty e i size hu hi v rows.length _ hown.2
    obtain rfl := hcap rfl
    exact ⟨_, _, hr, by simpa using hown, Chg.refl _ _, .inl rfl, hown⟩
  | some ad =>
    have hflat := hx.flat hpos rfl
    have hone : ∀ u ∈ news.flatten, u.oneCell' = true := fun u hu => by
      obtain ⟨r, hr, hur⟩ := List.mem_flatten.1 hu
      exact List.all_eq_true.1 (h1 r hr) u hur
    obtain ⟨v', w', hrun, hown', hgr, hiff⟩ := run_append_own (P := P) w base t ty e i z size bytes hu hi hz hsize hby hzs hpos v rows.length _ hown.2 ad news.length cap _ (flatten_length hs) hflat hone hml hbytes hbase
    have hO : OwnR w' base e size v' (rows ++ news) := ⟨hall, by simpa using hown'⟩
    suffices hs : (v'.ownBlock = v.ownBlock ∨ ∀ k, v'.ownBlock = some k → w.heap.size ≤ k) ∧ OwnR w' base e size v rows from ⟨v', w', hrun, hO, (Chg.grown hgr).mono (fun _ _ e => e), hs.1, hs.2⟩
    rcases hown.2.2 with ⟨rfl, hn0⟩ | ⟨g, cap0, cur, rfl, hbg, hg, hnc, hcm, hcs, htake⟩
    · by_cases hm0 : news.length = 0
      · have hnr : rows = [] := List.eq_nil_of_length_eq_zero hn0
        subst hnr
        exact ⟨.inl (by rw [hiff.2 ⟨rfl, hm0⟩]), OwnR.nil _ _ _ _⟩
      · have hnr : rows = [] := List.eq_nil_of_length_eq_zero hn0
        subst hnr
        refine ⟨.inr ?_, OwnR.nil _ _ _ _⟩
        subst hsize
        have hr := run_append_nil (P := P) w t ty e i z hu hi hz ad news.length cap _ (flatten_length hs) hflat (by omega) (by unfold maxLen at hml; omega) (by subst hby; simp at hbytes; omega)
        rw [hrun] at hr
        cases hr
        intro k hk; cases hk; exact Nat.le_refl _
    · by_cases hroom : rows.length + news.length ≤ cap0
      · subst hsize
        have hr := run_append_room (P := P) w t ty e i hu hi g rows.length cap0 cur hg ad news.length cap _ (flatten_length hs) hflat hone hroom (by rw [flatten_length hs, hcs, ← Nat.add_mul]; exact Nat.mul_le_mul_right _ hroom)
        rw [hrun] at hr
        cases hr
        refine ⟨.inl rfl, hown.1, hown.2.1, .inr ⟨g, cap0, _, rfl, hbg, setRow_heap w g cur _ e _ hg, hnc, hcm, ?_, ?_⟩⟩
        · have h2 := flatten_length hs
          have h3 : rows.length * i.size + news.flatten.length ≤ cur.size := by rw [h2, hcs, ← Nat.add_mul]; exact Nat.mul_le_mul_right _ hroom
          simp only [List.size_toArray, List.length_append, List.length_take, List.length_drop, Array.length_toList]
          omega
        · rw [htake, List.append_assoc]
          have h2 := flatten_length hown.1
          rw [← h2]
          exact List.take_left
      · subst hsize; subst hby
        have hr := run_append_grow (P := P) w t ty e i z hu hi hz ⟨g, 0, none⟩ rows.length cap0 _ hown.2.1 (hown.2.cells (g := g) rfl) ad news.length cap _ (flatten_length hs) hflat (by omega) (by unfold maxLen at hml; omega) (growslice_fits (by omega) hbytes)
        rw [hrun] at hr
        cases hr
        exact ⟨.inr (by intro k hk; cases hk; exact Nat.le_refl _), hown.chg (S := No) (((Chg.refl _ _).drew).alloc _) (fun _ _ e => e)⟩

theorem wp_appendRows {P : Program} {o : Oper} {a : Act} {w : World} {K : Act → World → Prop} {Q : Exit → Act → World → Prop} {t e size bytes base : Nat} (hT : ElemTy P t e size bytes) {s x : Operand}
    (ho : o.op = .call { callee := .builtin .append, args := #[s, x], argTypes := #[t, t] }) {v : Value} {rows : List (List Value)} (hs : a.eval s = v) (hown : OwnR w base e size v rows)
    {ok : Nat → Prop} {xv : Value} {news : List (List Value)} (hxv : a.eval x = xv) (hx : RowAt ok w xv size news) (h1 : ∀ r ∈ news, r.all (·.oneCell') = true)
    (hn : rows.length + news.length ≤ 1099511627776) (hb : bytes ≤ 128) (hbase : base ≤ w.heap.size)
    (h : ∀ v' w', OwnR w' base e size v' (rows ++ news) → Chg (fun b => v.ownBlock = some b) w w' → (v'.ownBlock = v.ownBlock ∨ ∀ k, v'.ownBlock = some k → w.heap.size ≤ k) → OwnR w' base e size v rows → K (a.put o.dst v') w') : o.wp P a w K Q := by
  obtain ⟨v', w', hr, h2, h3, h4, h5⟩ := run_appendRows (P := P) hT o.type hown hx h1 hn hb hbase
  unfold Oper.wp execOp
  simp only [ho, resolve, invoke, builtin, Sem.run_bind, Sem.run_pure, Result.andThen_ok, List.map_toArray, List.map_cons, List.map_nil, hs, hxv, hr]
  exact h v' w' h2 h3 h4 h5

theorem wpList_appendRows {P : Program} {ops : Array Oper} {rest : List Oper} {o : Oper} {a : Act} {w : World} {Q : Exit → Act → World → Prop} (hgd : o.guard = none) {t e size bytes base : Nat} (hT : ElemTy P t e size bytes) {s x : Operand}
    (ho : o.op = .call { callee := .builtin .append, args := #[s, x], argTypes := #[t, t] }) {v : Value} {rows : List (List Value)} (hs : a.eval s = v) (hown : OwnR w base e size v rows)
    {ok : Nat → Prop} {xv : Value} {news : List (List Value)} (hxv : a.eval x = xv) (hx : RowAt ok w xv size news) (h1 : ∀ r ∈ news, r.all (·.oneCell') = true)
    (hn : rows.length + news.length ≤ 1099511627776) (hb : bytes ≤ 128) (hbase : base ≤ w.heap.size)
    (h : ∀ v' w', OwnR w' base e size v' (rows ++ news) → Chg (fun b => v.ownBlock = some b) w w' → (v'.ownBlock = v.ownBlock ∨ ∀ k, v'.ownBlock = some k → w.heap.size ≤ k) → OwnR w' base e size v rows → wpList P ops Q rest (a.put o.dst v') w') :
    wpList P ops Q (o :: rest) a w :=
  wpList_plain hgd fun _ hK => wp_appendRows hT ho hs hown hxv hx h1 hn hb hbase fun v' w' a b c d => hK _ _ (h v' w' a b c d)

/-- A new row of one element. -/
theorem RowAt.one1 (w : World) (cs : List Value) (ty size : Nat) (h : cs.length = size) : RowAt (fun b => b = w.heap.size) (w.alloc (.cells cs.toArray ty)) (.slice (some ⟨w.heap.size, 0, none⟩) 1 1) size [cs] := by
  refine ⟨by simp [maxLen], by simpa using h, _, _, rfl, (by intro e; cases e), fun _ => ⟨_, _, rfl, rfl, fun i r hr j u hu => ?_⟩⟩
  cases i with
  | zero =>
    simp at hr; subst hr
    have := (Blk.new w cs ty).cell j
    rw [Nat.zero_mul, Nat.add_zero, Nat.zero_add, this, hu]
  | succ i => simp at hr

theorem elem23 : ElemTy Tryz.prog 23 9 1 16 := by
  refine ⟨Tryz.underlying23, ?_, by decide⟩
  have h : (Tryz.prog.info? 9).map (fun i => (i.zero, i.size, i.bytes)) = some (some (.string ByteArray.empty), 1, 16) := by kernel_rfl
  obtain ⟨i, h1, h2, h3, h4⟩ := info_parts h
  exact ⟨i, _, h1, h2, h3, h4, rfl⟩

theorem elem24 : ElemTy Tryz.prog 24 26 7 96 := by
  refine ⟨Tryz.underlying24, ?_, by decide⟩
  have h : (Tryz.prog.info? 26).map (fun i => (i.zero, i.size, i.bytes)) = some (some (.agg zero7.toArray), 7, 96) := by kernel_rfl
  obtain ⟨i, h1, h2, h3, h4⟩ := info_parts h
  exact ⟨i, _, h1, h2, h3, h4, rfl⟩

end Go.Proofs.YtljaoopfomcaoaaGreatDoor
