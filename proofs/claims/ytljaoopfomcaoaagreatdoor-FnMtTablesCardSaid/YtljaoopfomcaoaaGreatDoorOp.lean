/-
  Laws at single operations: loads and stores of whole structs, over any program.
-/
import Derived.Test.YtljaoopfomcaoaaGreatDoorBa
import Derived.Deep.MidRow
set_option linter.unusedVariables false
set_option linter.unusedSimpArgs false
namespace Go.Proofs.YtljaoopfomcaoaaGreatDoor
open Go.RowKit

/-- The cells from an address on. -/
def CellsAt (w : World) (b o : Nat) (cs : List Value) : Prop := ∀ j u, cs[j]? = some u → w.cell? ⟨b, o + j, none⟩ = some u

theorem RowAt.one {ok : Nat → Prop} {w : World} {v : Value} {size : Nat} {rows : List (List Value)} (h : RowAt ok w v size rows) : v.oneCell' = true := by
  obtain ⟨-, -, a, cap, rfl, -, -⟩ := h; rfl

theorem cells7_one {k b i f t kv lv} (hk : Value.oneCell' kv = true) (hl : Value.oneCell' lv = true) : (cells7 k b i f t kv lv).all (·.oneCell') = true := by
  simp only [cells7, List.all_cons, List.all_nil, hk, hl]; rfl

theorem ValJ.one {ok : Nat → Prop} {w : World} {cs : List Value} {j : J} (h : ValJ ok w cs j) : cs.all (·.oneCell') = true := by
  cases h with
  | null hk hl => exact cells7_one hk.one hl.one
  | bool hk hl => exact cells7_one hk.one hl.one
  | int hk hl => exact cells7_one hk.one hl.one
  | float hk hl => exact cells7_one hk.one hl.one
  | text hk hl => exact cells7_one hk.one hl.one
  | list hk hl _ _ => exact cells7_one hk.one hl.one
  | table hk hl _ _ => exact cells7_one hk.one hl.one

theorem RowAt.at {ok : Nat → Prop} {w : World} {a : Option Addr} {n cap size : Nat} {rows : List (List Value)} (h : RowAt ok w (.slice a n cap) size rows) {i : Nat} {r : List Value} (hr : rows[i]? = some r) :
    ∃ b off, a = some ⟨b, off, none⟩ ∧ ok b ∧ CellsAt w b (off + i * size) r := by
  obtain ⟨h1, h2, a', cap', hv, -, h3⟩ := h
  cases hv
  have hne : rows ≠ [] := fun e => by subst e; simp at hr
  obtain ⟨b, off, ha, hok, hcell⟩ := h3 hne
  exact ⟨b, off, ha, hok, fun j u hu => hcell i r hr j u hu⟩

theorem CellsAt.chg {S : Nat → Prop} {w w' : World} {b o : Nat} {cs : List Value} (h : CellsAt w b o cs) (hc : Chg S w w') (hn : ¬ S b) : CellsAt w' b o cs :=
  fun j u hu => hc.cell (h j u hu) hn

theorem CellsAt.one {w : World} {b o : Nat} {v : Value} (h : CellsAt w b o [v]) : w.cell? ⟨b, o, none⟩ = some v := h 0 v rfl

/-- A struct type of n cells. -/
def AggTy (P : Program) (ty n : Nat) : Prop := (∃ fs, P.underlying ty = some (.struct fs)) ∧ (P.info? ty).map (·.size) = some n

theorem add_eq (b o j : Nat) : (⟨b, o, none⟩ : Addr).add j = ⟨b, o + j, none⟩ := by
  unfold Addr.add; split <;> simp_all

theorem run_loadAgg {P : Program} (w : World) {ty n : Nat} (hT : AggTy P ty n) {b o : Nat} {cs : List Value} (hc : CellsAt w b o cs) (hl : cs.length = n) :
    (loadVar ty ⟨b, o, none⟩).run P w = .ok (.agg cs.toArray) w := by
  obtain ⟨⟨fs, hu⟩, hi⟩ := hT
  have hr := run_loadCells_list (P := P) w ⟨b, o, none⟩ cs (fun j v hv => by rw [add_eq]; exact hc j v hv)
  cases hq : P.info? ty with
  | none => simp [hq] at hi
  | some i =>
    have hs : i.size = cs.length := by simpa [hq, hl] using hi
    have hagg : (isAgg ty).run P w = .ok true w := by
      unfold isAgg
      rw [Sem.run_bind, run_underlying hu w]
      rfl
    simp [loadVar, Sem.run_bind, hagg, sizeOf, typeInfo, hq, hs, hr]

theorem wp_loadAgg {P : Program} {o : Oper} {a : Act} {w : World} {K : Act → World → Prop} {Q : Exit → Act → World → Prop} {ty n : Nat} (hT : AggTy P ty n) {x : Operand} (ho : o.op = .load ty x)
    {b off : Nat} (hx : a.eval x = .pointer (some ⟨b, off, none⟩)) {cs : List Value} (hc : CellsAt w b off cs) (hl : cs.length = n)
    (h : K (a.put o.dst (.agg cs.toArray)) w) : o.wp P a w K Q := by
  unfold Oper.wp execOp
  simp only [ho, hx, Instr.loadAt, Instr.sureAddr, Sem.run_bind, Sem.run_pure, Result.andThen_ok, run_loadAgg w hT hc hl]
  exact h

theorem wpList_loadAgg {P : Program} {ops : Array Oper} {rest : List Oper} {o : Oper} {a : Act} {w : World} {Q : Exit → Act → World → Prop} {ty n : Nat} (hgd : o.guard = none) (hT : AggTy P ty n) {x : Operand} (ho : o.op = .load ty x)
    {b off : Nat} (hx : a.eval x = .pointer (some ⟨b, off, none⟩)) {cs : List Value} (hc : CellsAt w b off cs) (hl : cs.length = n)
    (h : wpList P ops Q rest (a.put o.dst (.agg cs.toArray)) w) : wpList P ops Q (o :: rest) a w :=
  wpList_plain hgd fun _ hK => wp_loadAgg hT ho hx hc hl (hK _ _ h)

/-- A block of cells that nothing shares. -/
def Blk (w : World) (g : Nat) (cs : List Value) (ty : TypeId) : Prop := w.heap[g]? = some (.cells cs.toArray ty (0, 0))

theorem Blk.cells {w : World} {g : Nat} {cs : List Value} {ty : TypeId} (h : Blk w g cs ty) : CellsAt w g 0 cs := by
  intro j u hu
  rw [Nat.zero_add, cell_of_row w g j _ _ _ h]
  simpa using hu

theorem Blk.cell {w : World} {g : Nat} {cs : List Value} {ty : TypeId} (h : Blk w g cs ty) (j : Nat) : w.cell? ⟨g, j, none⟩ = cs[j]? := by
  rw [cell_of_row w g j _ _ _ h]; simp

theorem Blk.frozen {w : World} {g : Nat} {cs : List Value} {ty : TypeId} (h : Blk w g cs ty) (j : Nat) : w.frozen? ⟨g, j, none⟩ = false := frozen_of_row w g j _ _ h

theorem Blk.lt {w : World} {g : Nat} {cs : List Value} {ty : TypeId} (h : Blk w g cs ty) : g < w.heap.size := (Array.getElem?_eq_some_iff.1 h).1

theorem Blk.chg {S : Nat → Prop} {w w' : World} {g : Nat} {cs : List Value} {ty : TypeId} (h : Blk w g cs ty) (hc : Chg S w w') (hn : ¬ S g) : Blk w' g cs ty :=
  (hc.block g h.lt hn).trans h

theorem Blk.alloc {w : World} {g : Nat} {cs : List Value} {ty : TypeId} (h : Blk w g cs ty) (o : Obj) : Blk (w.alloc o) g cs ty := (Below.heap_alloc _ _ _ h.lt).trans h

theorem Blk.drew {w : World} {g : Nat} {cs : List Value} {ty : TypeId} (h : Blk w g cs ty) : Blk w.drew g cs ty := h

theorem Blk.new (w : World) (cs : List Value) (ty : TypeId) : Blk (w.alloc (.cells cs.toArray ty)) w.heap.size cs ty := heap_alloc_new w _

theorem setRow_chg {w : World} {g : Nat} {old cs : List Value} {t : TypeId} (hb : Blk w g old t) : Blk (w.setRow g cs.toArray) g cs t ∧ Chg (· = g) w (w.setRow g cs.toArray) ∧ (w.setRow g cs.toArray).heap.size = w.heap.size :=
  ⟨setRow_heap w g _ _ t _ hb, ⟨rfl, rfl, rfl, by simp, fun k hk hn => setRow_other w g k _ hn⟩, by simp⟩

theorem Blk.newAt {w : World} {n : Nat} (h : n = w.heap.size) (cs : List Value) (ty : TypeId) : Blk (w.alloc (.cells cs.toArray ty)) n cs ty := by subst h; exact Blk.new w cs ty

/-- A store of a whole struct into a block of its size. -/
theorem wp_storeBlk {P : Program} {o : Oper} {a : Act} {w : World} {K : Act → World → Prop} {Q : Exit → Act → World → Prop} {ty n : Nat} (hT : AggTy P ty n) {x y : Operand} (ho : o.op = .store ty x y)
    {g : Nat} {t : TypeId} {old cs : List Value} (hx : a.eval x = .pointer (some ⟨g, 0, none⟩)) (hy : a.eval y = .agg cs.toArray) (hb : Blk w g old t) (hold : old.length = n) (hl : cs.length = n) (h1 : cs.all (·.oneCell') = true)
    (h : ∀ w', Blk w' g cs t → Chg (· = g) w w' → w'.heap.size = w.heap.size → K (a.put o.dst undef) w') : o.wp P a w K Q := by
  obtain ⟨h2, h3, h4⟩ := setRow_chg (cs := cs) hb
  refine wp_store_row ty x y ho g cs.toArray hx hy t old.toArray hb (by simpa [hl] using hT.2) (by simp [hold, hl]) (by simpa using h1) (h _ h2 h3 h4)

theorem wpList_storeBlk {P : Program} {ops : Array Oper} {rest : List Oper} {o : Oper} {a : Act} {w : World} {Q : Exit → Act → World → Prop} {ty n : Nat} (hgd : o.guard = none) (hT : AggTy P ty n) {x y : Operand} (ho : o.op = .store ty x y)
    {g : Nat} {t : TypeId} {old cs : List Value} (hx : a.eval x = .pointer (some ⟨g, 0, none⟩)) (hy : a.eval y = .agg cs.toArray) (hb : Blk w g old t) (hold : old.length = n) (hl : cs.length = n) (h1 : cs.all (·.oneCell') = true)
    (h : ∀ w', Blk w' g cs t → Chg (· = g) w w' → w'.heap.size = w.heap.size → wpList P ops Q rest (a.put o.dst undef) w') : wpList P ops Q (o :: rest) a w :=
  wpList_plain hgd fun _ hK => wp_storeBlk hT ho hx hy hb hold hl h1 fun w' a b c => hK _ _ (h w' a b c)

/-- A store of a whole struct into the block that was made last. -/
theorem wpList_storeNew {P : Program} {ops : Array Oper} {rest : List Oper} {o : Oper} {a : Act} {w : World} {Q : Exit → Act → World → Prop} {ty n : Nat} (hgd : o.guard = none) (hT : AggTy P ty n) {x y : Operand} (ho : o.op = .store ty x y)
    {t : TypeId} {old cs : List Value} (hx : a.eval x = .pointer (some ⟨w.heap.size, 0, none⟩)) (hy : a.eval y = .agg cs.toArray) (hold : old.length = n) (hl : cs.length = n) (h1 : cs.all (·.oneCell') = true)
    (h : wpList P ops Q rest (a.put o.dst undef) (w.alloc (.cells cs.toArray t))) : wpList P ops Q (o :: rest) a (w.alloc (.cells old.toArray t)) := by
  refine wpList_plain hgd fun K hK => ?_
  refine wp_store_row ty x y ho w.heap.size cs.toArray hx hy t old.toArray (Blk.new w old t) (by simpa [hl] using hT.2) (by simp [hold, hl]) (by simpa using h1) ?_
  have e : (w.alloc (.cells old.toArray t)).setRow w.heap.size cs.toArray = w.alloc (.cells cs.toArray t) := by
    simp only [World.setRow, World.alloc]
    congr 1
    apply Array.ext
    · simp
    · intro k h1 h2
      simp only [Array.getElem_modify, Array.getElem_push]
      simp at h1
      split
      · rename_i hk; subst hk; simp
      · rename_i hk
        rw [dif_pos (by omega), dif_pos (by omega)]
  rw [e]
  exact hK _ _ h

/-- The results are a struct in a block and a slot. -/
theorem results_blk_tmp {P : Program} {fn : Func} {p u : Tmp} {ty n : Nat} (h : fn.results = #[.cell p ty, .tmp u]) (hT : AggTy P ty n) {tmps : Array Value} {w : World} {g : Nat} {cs : List Value} {t : TypeId}
    (hp : tmps.getD p undef = .pointer (some ⟨g, 0, none⟩)) (hb : Blk w g cs t) (hl : cs.length = n) :
    (results fn tmps).run P w = .ok (.tuple #[.agg cs.toArray, tmps.getD u undef]) w := by
  rw [results_cell_tmp h, hp]
  simp [asAddr, Result.andThen, run_loadAgg w hT (b := g) (o := 0) hb.cells hl]

/-- The result is a struct in a block. -/
theorem results_blk {P : Program} {fn : Func} {p : Tmp} {ty n : Nat} (h : fn.results = #[.cell p ty]) (hT : AggTy P ty n) {tmps : Array Value} {w : World} {g : Nat} {cs : List Value} {t : TypeId}
    (hp : tmps.getD p undef = .pointer (some ⟨g, 0, none⟩)) (hb : Blk w g cs t) (hl : cs.length = n) :
    (results fn tmps).run P w = .ok (.agg cs.toArray) w := by
  obtain ⟨⟨fs, hu⟩, hi⟩ := hT
  exact results_cell_row h tmps w g t cs.toArray (0, 0) _ hp hb hu rfl (by simpa [hl] using hi)

/-- The address of a field of a struct in memory, if it is a field of its own cells. -/
theorem agg26 : AggTy Tryz.prog 26 7 := ⟨⟨_, Tryz.underlying26⟩, by kernel_rfl⟩
theorem agg30 : AggTy Tryz.prog 30 11 := ⟨⟨_, Tryz.underlying30⟩, by kernel_rfl⟩
theorem agg79 : AggTy Tryz.prog 79 7 := ⟨⟨_, Tryz.underlying79⟩, by kernel_rfl⟩
theorem agg110 : AggTy Tryz.prog 110 4 := ⟨⟨_, Tryz.underlying110⟩, by kernel_rfl⟩

end Go.Proofs.YtljaoopfomcaoaaGreatDoor
