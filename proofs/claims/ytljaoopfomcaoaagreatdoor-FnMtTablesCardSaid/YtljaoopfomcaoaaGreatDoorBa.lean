/-
  Words on memory: what may change between two worlds (Chg), rows of cells, and what impl.Value's seven cells read as (ValJ).
-/
import Derived.Test.YtljaoopfomcaoaaGreatDoorProg
import Derived.Test.YtljaoopfomcaoaaGreatDoorPa
import Derived.WalkKit
import Derived.WalkLawsBesides
import Derived.WalkSpells
import Derived.Lib.Hide
set_option linter.unusedVariables false
set_option linter.unusedSimpArgs false
namespace Go.Proofs.YtljaoopfomcaoaaGreatDoor
open Go.RowKit

/-- From w to w' no block that was there has changed, but for those in S; blocks may have come. -/
structure Chg (S : Nat → Prop) (w w' : World) : Prop where
  os : w'.os = w.os
  tape : w'.tape = w.tape
  output : w'.output = w.output
  size : w.heap.size ≤ w'.heap.size
  block : ∀ k, k < w.heap.size → ¬ S k → w'.heap[k]? = w.heap[k]?

/-- No block at all. -/
abbrev No : Nat → Prop := fun _ => False

theorem Chg.refl (S : Nat → Prop) (w : World) : Chg S w w := ⟨rfl, rfl, rfl, Nat.le_refl _, fun _ _ _ => rfl⟩

theorem Chg.trans {S S' : Nat → Prop} {a b c : World} (h : Chg S a b) (k : Chg S' b c) (hs : ∀ i, i < a.heap.size → S' i → S i) : Chg S a c :=
  ⟨k.os.trans h.os, k.tape.trans h.tape, k.output.trans h.output, Nat.le_trans h.size k.size, fun i hi hn =>
    (k.block i (Nat.lt_of_lt_of_le hi h.size) (fun e => hn (hs i hi e))).trans (h.block i hi hn)⟩

theorem Chg.mono {S S' : Nat → Prop} {a b : World} (h : Chg S a b) (hs : ∀ i, i < a.heap.size → S i → S' i) : Chg S' a b :=
  ⟨h.os, h.tape, h.output, h.size, fun i hi hn => h.block i hi (fun e => hn (hs i hi e))⟩

theorem Chg.trans' {S : Nat → Prop} {a b c : World} (h : Chg S a b) (k : Chg No b c) : Chg S a c := h.trans k (fun _ _ e => e.elim)

theorem Chg.below {B : Nat} {w w' : World} (h : Below B w w') : Chg (fun k => B ≤ k) w w' :=
  ⟨h.os, h.tape, h.output, h.size, fun k _ hn => h.block k (Nat.lt_of_not_le hn)⟩

theorem Chg.toBelow {w w' : World} (h : Chg No w w') : Below w.heap.size w w' := ⟨h.os, h.tape, h.output, h.size, fun k hk => h.block k hk id⟩

theorem Chg.ofBelow {w w' : World} (h : Below w.heap.size w w') : Chg No w w' := (Chg.below h).mono (fun i hi e => (Nat.not_le.2 hi e).elim)

theorem Chg.grown {w w' : World} {row : Option Nat} (h : w.grownBy w' row) : Chg (fun k => row = some k) w w' :=
  ⟨h.os, h.tape, h.output, h.size, fun k hk hn => h.block k hk (fun e => hn e.symm)⟩

theorem Chg.alloc {S : Nat → Prop} {a w : World} (h : Chg S a w) (o : Obj) : Chg S a (w.alloc o) :=
  h.trans (S' := No) ⟨rfl, rfl, rfl, by simp, fun k hk _ => Below.heap_alloc _ _ _ hk⟩ (fun _ _ e => e.elim)

theorem Chg.drew {S : Nat → Prop} {a w : World} (h : Chg S a w) : Chg S a w.drew := ⟨h.os, h.tape, h.output, h.size, h.block⟩

theorem Chg.setCell {S : Nat → Prop} {a w : World} (h : Chg S a w) {p : Addr} (hp : p.block < a.heap.size → S p.block) (u : Value) : Chg S a (w.setCell p u) :=
  h.trans (S' := fun k => k = p.block) ⟨rfl, rfl, rfl, by simp [World.setCell], fun k hk hn => Below.heap_setCell _ _ _ _ hn⟩ (fun i hi e => by subst e; exact hp hi)

theorem Chg.heap {S : Nat → Prop} {w w' : World} (h : Chg S w w') {k : Nat} (hk : k < w.heap.size) (hn : ¬ S k) : w'.heap[k]? = w.heap[k]? := h.block k hk hn

theorem Chg.cell {S : Nat → Prop} {w w' : World} (h : Chg S w w') {p : Addr} {v : Value} (hv : w.cell? p = some v) (hn : ¬ S p.block) : w'.cell? p = some v :=
  (World.cell?_of_block (w := w) (h.block p.block (World.block_lt_of_cell? w p hv) hn)).trans hv

theorem Chg.cellEq {S : Nat → Prop} {w w' : World} (h : Chg S w w') {p : Addr} (hp : p.block < w.heap.size) (hn : ¬ S p.block) : w'.cell? p = w.cell? p :=
  World.cell?_of_block (w := w) (h.block p.block hp hn)

theorem Chg.frozenEq {S : Nat → Prop} {w w' : World} (h : Chg S w w') {p : Addr} (hp : p.block < w.heap.size) (hn : ¬ S p.block) : w'.frozen? p = w.frozen? p :=
  World.frozen?_of_block (w := w) (h.block p.block hp hn)

/-- The two rules that the walk uses by itself. -/
theorem Chg.rules {w w' : World} (h : Chg No w w') : (∀ b o, b < w.heap.size → w'.cell? ⟨b, o, none⟩ = w.cell? ⟨b, o, none⟩) ∧ (∀ b o, b < w.heap.size → w'.frozen? ⟨b, o, none⟩ = w.frozen? ⟨b, o, none⟩) :=
  ⟨fun b o hb => h.cellEq (p := ⟨b, o, none⟩) hb id, fun b o hb => h.frozenEq (p := ⟨b, o, none⟩) hb id⟩

/-- A slice value over rows of cells, all in one block that ok lets in. -/
def RowAt (ok : Nat → Prop) (w : World) (v : Value) (size : Nat) (rows : List (List Value)) : Prop :=
  rows.length ≤ maxLen ∧ (∀ r ∈ rows, r.length = size) ∧ ∃ a cap, v = .slice a rows.length cap ∧ (a = none → cap = 0) ∧
    (rows ≠ [] → ∃ b off, a = some ⟨b, off, none⟩ ∧ ok b ∧ ∀ i r, rows[i]? = some r → ∀ j u, r[j]? = some u → w.cell? ⟨b, off + i * size + j, none⟩ = some u)

theorem RowAt.chg {ok S : Nat → Prop} {w w' : World} {v : Value} {size : Nat} {rows : List (List Value)} (h : RowAt ok w v size rows) (hc : Chg S w w')
    (hs : ∀ b, ok b → ¬ S b) : RowAt ok w' v size rows := by
  obtain ⟨h1, h2, a, cap, hv, h0, h3⟩ := h
  refine ⟨h1, h2, a, cap, hv, h0, fun hne => ?_⟩
  obtain ⟨b, off, ha, hok, hcell⟩ := h3 hne
  exact ⟨b, off, ha, hok, fun i r hr j u hu => hc.cell (hcell i r hr j u hu) (hs b hok)⟩

theorem RowAt.mono {ok ok' : Nat → Prop} {w : World} {v : Value} {size : Nat} {rows : List (List Value)} (h : RowAt ok w v size rows)
    (hs : ∀ b, b < w.heap.size → ok b → ok' b) (hz : 0 < size) : RowAt ok' w v size rows := by
  obtain ⟨h1, h2, a, cap, hv, h0, h3⟩ := h
  refine ⟨h1, h2, a, cap, hv, h0, fun hne => ?_⟩
  obtain ⟨b, off, ha, hok, hcell⟩ := h3 hne
  refine ⟨b, off, ha, hs b ?_ hok, hcell⟩
  cases rows with
  | nil => exact absurd rfl hne
  | cons r rs =>
    have hl := h2 r (by simp)
    cases r with
    | nil => simp at hl; omega
    | cons u us => exact World.block_lt_of_cell? w _ (hcell 0 _ rfl 0 u rfl)

/-- What the seven cells of a value hold. -/
def cells7 (k : Int) (b : Bool) (i : Int) (f : Nat) (t : K) (kv lv : Value) : List Value :=
  [.int .i64 k, .bool b, .int .i64 i, .float .f64 f, .string t, kv, lv]

/-- A float that is a number: it is like itself. -/
def FinBits (f : Nat) : Prop := (FloatKind.f64.format.order f f == some .eq) = true

/-- What seven cells of impl.Value read as. -/
inductive ValJ (ok : Nat → Prop) (w : World) : List Value → J → Prop where
  | null {b i f t kv lv} (hk : RowAt ok w kv 1 []) (hl : RowAt ok w lv 7 []) : ValJ ok w (cells7 0 b i f t kv lv) .null
  | bool {b i f t kv lv} (hk : RowAt ok w kv 1 []) (hl : RowAt ok w lv 7 []) : ValJ ok w (cells7 1 b i f t kv lv) (.bool b)
  | int {b i f t kv lv} (hk : RowAt ok w kv 1 []) (hl : RowAt ok w lv 7 []) : ValJ ok w (cells7 2 b i f t kv lv) (.int i)
  | float {b i f t kv lv} (hk : RowAt ok w kv 1 []) (hl : RowAt ok w lv 7 []) : ValJ ok w (cells7 4 b i f t kv lv) (.float f)
  | text {b i f t kv lv} (hk : RowAt ok w kv 1 []) (hl : RowAt ok w lv 7 []) : ValJ ok w (cells7 5 b i f t kv lv) (.text t)
  | list {b i f t kv lv} {rows : List (List Value)} {xs : List J} (hk : RowAt ok w kv 1 []) (hl : RowAt ok w lv 7 rows) (hn : rows.length = xs.length)
      (h : ∀ (n : Nat) (r : List Value) (x : J), rows[n]? = some r → xs[n]? = some x → ValJ ok w r x) : ValJ ok w (cells7 6 b i f t kv lv) (.list xs)
  | table {b i f t kv lv} {rows : List (List Value)} {kvs : T} (hk : RowAt ok w kv 1 (kvs.map fun p => [.string p.1])) (hl : RowAt ok w lv 7 rows) (hn : rows.length = kvs.length)
      (h : ∀ (n : Nat) (r : List Value) (p : K × J), rows[n]? = some r → kvs[n]? = some p → ValJ ok w r p.2) : ValJ ok w (cells7 7 b i f t kv lv) (.table kvs)

theorem ValJ.chg {ok S : Nat → Prop} {w w' : World} {cs : List Value} {j : J} (h : ValJ ok w cs j) (hc : Chg S w w') (hs : ∀ b, ok b → ¬ S b) : ValJ ok w' cs j := by
  induction h with
  | null hk hl => exact .null (hk.chg hc hs) (hl.chg hc hs)
  | bool hk hl => exact .bool (hk.chg hc hs) (hl.chg hc hs)
  | int hk hl => exact .int (hk.chg hc hs) (hl.chg hc hs)
  | float hk hl => exact .float (hk.chg hc hs) (hl.chg hc hs)
  | text hk hl => exact .text (hk.chg hc hs) (hl.chg hc hs)
  | list hk hl hn _ ih => exact .list (hk.chg hc hs) (hl.chg hc hs) hn ih
  | table hk hl hn _ ih => exact .table (hk.chg hc hs) (hl.chg hc hs) hn ih

theorem ValJ.mono {ok ok' : Nat → Prop} {w : World} {cs : List Value} {j : J} (h : ValJ ok w cs j) (hs : ∀ b, b < w.heap.size → ok b → ok' b) : ValJ ok' w cs j := by
  induction h with
  | null hk hl => exact .null (hk.mono hs (by decide)) (hl.mono hs (by decide))
  | bool hk hl => exact .bool (hk.mono hs (by decide)) (hl.mono hs (by decide))
  | int hk hl => exact .int (hk.mono hs (by decide)) (hl.mono hs (by decide))
  | float hk hl => exact .float (hk.mono hs (by decide)) (hl.mono hs (by decide))
  | text hk hl => exact .text (hk.mono hs (by decide)) (hl.mono hs (by decide))
  | list hk hl hn _ ih => exact .list (hk.mono hs (by decide)) (hl.mono hs (by decide)) hn ih
  | table hk hl hn _ ih => exact .table (hk.mono hs (by decide)) (hl.mono hs (by decide)) hn ih

theorem ValJ.seven {ok : Nat → Prop} {w : World} {cs : List Value} {j : J} (h : ValJ ok w cs j) : ∃ k b i f t kv lv, cs = cells7 k b i f t kv lv := by
  cases h <;> exact ⟨_, _, _, _, _, _, _, rfl⟩

theorem ValJ.length {ok : Nat → Prop} {w : World} {cs : List Value} {j : J} (h : ValJ ok w cs j) : cs.length = 7 := by
  obtain ⟨k, b, i, f, t, kv, lv, rfl⟩ := h.seven; rfl

/-- The seven cells of the value that is none. -/
abbrev zero7 : List Value := cells7 0 false 0 0 ByteArray.empty (.slice none 0 0) (.slice none 0 0)

def atJ : J → K → Option J
  | .table kvs, k => get kvs k
  | _, _ => none

end Go.Proofs.YtljaoopfomcaoaaGreatDoor
