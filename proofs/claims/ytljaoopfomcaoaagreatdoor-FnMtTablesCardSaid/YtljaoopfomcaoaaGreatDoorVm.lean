/-
  The walk of MergeValues.
-/
import Derived.Test.YtljaoopfomcaoaaGreatDoorVl
set_option linter.unusedVariables false
set_option linter.unusedSimpArgs false
namespace Go.Proofs.YtljaoopfomcaoaaGreatDoor
open Go.RowKit

/-- One table more, put over the others; what is no table says nothing. -/
def mergeStep (acc : T) (j : J) : T :=
  match j with
  | .table t => merged acc t
  | _ => acc

def mergeAll (xs : List J) : T := xs.foldl mergeStep []

theorem mergeAll_succ {xs : List J} {n : Nat} {x : J} (h : xs[n]? = some x) : mergeAll (xs.take (n + 1)) = mergeStep (mergeAll (xs.take n)) x := by
  rw [List.take_add_one, h]
  simp [mergeAll, List.foldl_append]

theorem Wf.mergeStep {n m d : Nat} {acc : T} {x : J} (ha : Wf n d (.table acc)) (hx : Wf m d x) : Wf (n + m) d (.table (mergeStep acc x)) := by
  cases x with
  | table t => exact ha.merged hx
  | _ => exact ha.mono (by omega) (Nat.le_refl _)

theorem Wf.mergeAll {N d : Nat} {xs : List J} (hd : 1 ≤ d) (h : ∀ x ∈ xs, Wf N d x) (n : Nat) (hn : n ≤ xs.length) : Wf (N * n) d (.table (mergeAll (xs.take n))) := by
  induction n with
  | zero =>
    obtain ⟨d, rfl⟩ : ∃ d', d = d' + 1 := ⟨d - 1, by omega⟩
    exact ⟨List.Pairwise.nil, Nat.zero_le _, fun p hp => by cases hp⟩
  | succ n ih =>
    have hx : xs[n]? = some (xs[n]) := List.getElem?_eq_getElem (by omega)
    rw [mergeAll_succ hx, Nat.mul_add, Nat.mul_one]
    exact (ih (by omega)).mergeStep (h _ (List.getElem_mem (by omega)))

set_option maxRecDepth 100000 in
set_option maxHeartbeats 1000000 in
theorem mergeValues_any (N d : Nat) (hd : 1 ≤ d) (xs : List J) (hNN : N * xs.length + N < 1099511627776) (w0 : World) (g : Nat) (fn vf : Value) (ms : List Value) (w : World) (hop : OP w0 g fn xs w xs.length vf ms)
    (hw : ∀ x ∈ xs, Wf N d x ∧ (x = .null ∨ isT x = true)) (hl40 : xs.length ≤ 40) :
    Calls Tryz.prog 64 #[.pointer (some ⟨g, 0, none⟩)] w fun e w' => ∃ b, e = .returned (.tuple #[.map (some b), .nilIface]) ∧ AnyJ (fun x => g < x) w' (.iface 67 (.map (some b))) (.table (mergeAll xs)) ∧ Chg No w w' := by
  have HOP := Lib.hid hop
  have WX := Lib.hid hw
  have HNN := Lib.hid hNN
  have HD := Lib.hid hd
  have hrow := hop.own.rowAt
  obtain ⟨-, -, va, vc, rfl, -, -⟩ := hrow
  simp only [List.length_map, hop.len] at HOP
  have HROW := Lib.hid HOP.out.own.rowAt
  have k0 : w.cell? ⟨g, 0, none⟩ = some (.slice va xs.length vc) := HOP.out.box.cell 0
  have hgl := HOP.out.box.lt
  have hl1 : xs.length ≤ 2 ^ 63 - 1 := by omega
  have hmk := run_makeMap67n
  clear hop hw hNN hd
  go_enter Tryz.func64, Tryz.ntmps64
  go_wp2_with fail
  have hfacts : ∀ W, ((w.alloc (.cells [Value.pointer (some ⟨g, 0, none⟩)].toArray 93)).alloc (.map #[] 0)) = W → Blk W w.heap.size [.pointer (some ⟨g, 0, none⟩)] 93 ∧ MapB W (w.heap.size + 1) 0 (fun _ => none) ∧ Chg No w W := by
    rintro W rfl
    refine ⟨(Blk.new _ _ _).alloc _, ?_, ((Chg.refl No w).alloc _).alloc _⟩
    have h := MapB.made (w.alloc (.cells [Value.pointer (some ⟨g, 0, none⟩)].toArray 93))
    simpa using h
  generalize hgw : World.alloc _ _ = W
  obtain ⟨b1, m1, c1⟩ := hfacts W hgw
  clear hgw hfacts
  have HB1 := Lib.hid b1
  have HM1 := Lib.hid m1
  have HC1 := Lib.hid c1
  clear b1 m1 c1 k0
  go_loopw [4, 29] (fun bv ct wr => ∃ (n b : Nat), n ≤ xs.length ∧ ct = .int .i64 n ∧ bv = .map (some b) ∧ AnyJ (fun x => g < x) wr (.iface 67 (.map (some b))) (.table (mergeAll (xs.take n))) ∧ Chg No W wr) (fun _ ct _ => xs.length - (intOf ct).toNat)
  case atStart =>
    refine ⟨0, _, Nat.zero_le _, rfl, rfl, ?_, Chg.refl _ _⟩
    exact .table HM1.out (by omega) (fun k => by simp [mergeAll, get]) (fun k u x h => by cases h)
  case round =>
    obtain ⟨n, b, hn, rfl, rfl, hany, hcr⟩ := hrel
    have HANY := Lib.hid hany
    have HCR := Lib.hid hcr
    clear hany hcr
    by_cases hlt : n < xs.length
    · obtain ⟨x, hx⟩ : ∃ x, xs[n]? = some x := ⟨_, List.getElem?_eq_getElem hlt⟩
      obtain ⟨m, hm⟩ : ∃ m, ms[n]? = some m := ⟨_, List.getElem?_eq_getElem (by rw [HOP.out.len]; exact hlt)⟩
      obtain ⟨kb, ko, rfl, -, hkc⟩ := HROW.out.at (i := n) (r := [m]) (by simp [hm])
      have hkc := ((hkc.chg HC1.out id).chg HCR.out id).one
      simp only [Nat.mul_one] at hkc
      have h64 : (n : Int) < (xs.length : Int) := by omega
      obtain ⟨wx1, wx2⟩ := WX.out x (List.mem_of_getElem? hx)
      have hmf := ((HOP.out.val n m x hm hx).mono (ok' := fun y => g < y) (fun b _ hb => hb.1)).chg (HC1.out.trans' HCR.out) (fun _ _ e => e)
      have hwa := Wf.mergeAll HD.out (fun x hx => (WX.out x hx).1) n hn
      have hmul : N * n ≤ N * xs.length := Nat.mul_le_mul_left _ hn
      have hpost : Calls Tryz.prog 95 #[.map (some b), m] wr (MergedPost (fun y => g < y) wr (.table (mergeAll (xs.take (n + 1))))) := by
        rw [mergeAll_succ hx]
        rcases hmf with ⟨rfl, rfl⟩ | ⟨t, bt, rfl, rfl, hat⟩
        · obtain ⟨d', rfl⟩ : ∃ d', d = d' + 1 := ⟨d - 1, by have := HD.out; omega⟩
          exact mergeMaps_nil (N * n) (by have := HNN.out; omega) d' _ _ _ wr HANY.out hwa
        · exact mergeMaps_any (N * n) N (by have := HNN.out; omega) d _ _ t _ _ wr HANY.out hat hwa wx1
      have HPOST := Lib.hid hpost
      clear hpost hmf hwa wx1 wx2 hx hm hmul
      go_wp2_with fail
      refine HPOST.out.mono ?_
      rintro e w2 ⟨r, rfl, hva, hc2⟩
      have HVA := Lib.hid hva
      have HC2 := Lib.hid hc2
      clear hva hc2
      go_wp2_with fail
      go_roundw
      case rel => exact ⟨n + 1, r, by omega, by go_num, rfl, HVA.out.mono (fun y _ hy => by have := HC1.out.size; have := HCR.out.size; omega), HCR.out.trans' HC2.out⟩
      case measure => simp [intOf]; omega
    · have hnl : n = xs.length := Nat.le_antisymm hn (Nat.not_lt.1 hlt)
      subst hnl
      have hlen : ¬ ((xs.length : Nat) : Int) < (xs.length : Int) := by omega
      have hbp := (HB1.out.chg HCR.out id).cell 0
      have hbo := (HOP.out.box.chg HC1.out id).chg HCR.out id
      have o1 := hbo.cell 1
      have o2 := hbo.cell 2
      have o3 := hbo.cell 3
      have o4 := hbo.cell 4
      have o5 := hbo.cell 5
      simp only [List.getElem?_cons_succ, List.getElem?_cons_zero] at hbp o1 o2 o3 o4 o5
      clear hbo
      go_wp2_with fail
      refine wp_loop_rounds 1 ?_
      rw [rounds_succ]
      go_wp2_with fail
      refine wp_loop_rounds 1 ?_
      rw [rounds_succ]
      go_wp2_with fail
      refine wp_loop_rounds 1 ?_
      rw [rounds_succ]
      go_wp2_with fail
      refine wp_loop_rounds 1 ?_
      rw [rounds_succ]
      go_wp2_with fail
      refine wp_loop_rounds 1 ?_
      rw [rounds_succ]
      go_wp2
      go_ret2
      have hfin := HANY.out
      rw [List.take_length] at hfin
      exact ⟨b, rfl, hfin, HC1.out.trans' HCR.out⟩

end Go.Proofs.YtljaoopfomcaoaaGreatDoor
