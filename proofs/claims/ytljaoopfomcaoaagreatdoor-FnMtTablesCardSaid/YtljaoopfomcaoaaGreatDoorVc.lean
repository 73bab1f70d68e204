/-
  The walk of the reference's With: a table with a value under a key. (Printed by gen_with.py.)
-/
import Derived.Test.YtljaoopfomcaoaaGreatDoorVb
import Derived.Deep.DeepCutAuto
set_option linter.unusedVariables false
set_option linter.unusedSimpArgs false
namespace Go.Proofs.YtljaoopfomcaoaaGreatDoor
open Go.RowKit

theorem WithAcc.len {kvs : T} {key : K} {x : J} {n : Nat} {d : Bool} {acc : T} (h : WithAcc kvs key x n d acc) : acc.length ≤ n + 1 := by
  cases d with
  | false => obtain ⟨rfl, -⟩ := h.acc0 rfl; have := List.length_take_le n kvs; omega
  | true => obtain ⟨rfl, -⟩ := h.acc1 rfl; have := List.length_take_le n kvs; have := ins_length (kvs.take n) key x; omega

theorem WithAcc.stepA {kvs : T} {key : K} {x : J} {n : Nat} {acc : T} {p : K × J} (h : WithAcc kvs key x n true acc) (hs : Sorted kvs) (hp : kvs[n]? = some p) : p.1 ≠ key ∧ WithAcc kvs key x (n + 1) true (acc ++ [p]) := by
  obtain ⟨rfl, q, hq, hnq⟩ := h.acc1 rfl
  have ht : kvs.take (n + 1) = kvs.take n ++ [p] := by rw [List.take_add_one, hp]; rfl
  have hqp : klt q.1 p.1 := by
    have h2 : Sorted (kvs.take (n + 1)) := List.Pairwise.sublist (List.take_sublist _ _) hs
    rw [ht] at h2
    exact (List.pairwise_append.1 h2).2.2 q hq p (by simp)
  refine ⟨fun e => hnq (e ▸ hqp), (by intro e; cases e), fun _ => ⟨?_, q, ?_, hnq⟩⟩
  · rw [ht, ins_snoc ⟨q, hq, hnq⟩]
  · rw [ht]; exact List.mem_append_left _ hq

theorem WithAcc.stepB {kvs : T} {key : K} {x : J} {n : Nat} {acc : T} {p : K × J} (h : WithAcc kvs key x n false acc) (hp : kvs[n]? = some p) (hk : klt p.1 key) : p.1 ≠ key ∧ WithAcc kvs key x (n + 1) false (acc ++ [p]) := by
  obtain ⟨rfl, hall⟩ := h.acc0 rfl
  have ht : kvs.take (n + 1) = kvs.take n ++ [p] := by rw [List.take_add_one, hp]; rfl
  refine ⟨klt_ne hk, fun _ => ⟨ht.symm, fun q hq => ?_⟩, (by intro e; cases e)⟩
  rw [ht] at hq
  rcases List.mem_append.1 hq with hq | hq
  · exact hall q hq
  · obtain rfl := List.mem_singleton.1 hq; exact hk

theorem WithAcc.stepC {kvs : T} {key : K} {x : J} {n : Nat} {acc : T} {p : K × J} (h : WithAcc kvs key x n false acc) (hp : kvs[n]? = some p) (hk : ¬ klt p.1 key) : WithAcc kvs key x (n + 1) true (acc ++ (key, x) :: if p.1 = key then [] else [p]) := by
  obtain ⟨rfl, hall⟩ := h.acc0 rfl
  have ht : kvs.take (n + 1) = kvs.take n ++ [p] := by rw [List.take_add_one, hp]; rfl
  refine ⟨(by intro e; cases e), fun _ => ⟨?_, p, ?_, hk⟩⟩
  · rw [ht, ins_here hall hk]
  · rw [ht]; simp

theorem OutMem.val {ok : Nat → Prop} {w wr : World} {bs : List (Nat × List Value)} {g base : Nat} {acc : T} {rows : List (List Value)} {kv lv : Value} (h : OutMem ok w wr bs g base acc rows kv lv) :
    ValJ (fun b => (ok b ∧ b < w.heap.size) ∨ base ≤ b) wr (cells7 7 false 0 0 ByteArray.empty kv lv) (.table acc) := by
  refine .table (h.ck.rowAt.mono (fun b _ hb2 => .inr (h.ck.elem hb2).1) (by decide)) (h.cl.rowAt.mono (fun b _ hb2 => .inr (h.cl.elem hb2).1) (by decide)) h.rv.1 fun n r p hr hp => ?_
  exact ((h.rv.2 n r p hr hp).mono (ok' := fun b => ok b ∧ b < w.heap.size) (fun b hb hb2 => ⟨hb2, hb⟩)).chg h.chg (fun _ _ e => e) |>.mono (fun b _ hb2 => .inl hb2)

/-- The table's box is copied to where the result lies. -/
theorem OutMem.done {ok : Nat → Prop} {w wr w2 : World} {bs : List (Nat × List Value)} {g base g2 : Nat} {acc : T} {rows : List (List Value)} {kv lv : Value} (h : OutMem ok w wr bs g base acc rows kv lv)
    (hc : Chg (· = g2) wr w2) (h1 : w.heap.size ≤ g2) (h2 : g2 < base) : ValJ (fun b => ok b ∨ w.heap.size ≤ b) w2 (cells7 7 false 0 0 ByteArray.empty kv lv) (.table acc) ∧ Chg No w w2 := by
  have hg := h.og
  have hb := h.gb
  refine ⟨(h.val.chg hc (fun b hb2 e => ?_)).mono (fun b _ hb2 => ?_), h.chg.trans hc (fun i hi e => by omega)⟩
  · rcases hb2 with ⟨-, hb2⟩ | hb2 <;> omega
  · rcases hb2 with ⟨hb2, -⟩ | hb2
    · exact .inl hb2
    · exact .inr (by omega)

theorem RowAt.zero {ok : Nat → Prop} {w : World} {size : Nat} : RowAt ok w (.slice none 0 0) size [] := ⟨by simp, by simp, none, 0, rfl, fun _ => rfl, fun hne => absurd rfl hne⟩

set_option maxRecDepth 100000 in
set_option maxHeartbeats 1600000 in
theorem with_any (ok : Nat → Prop) (kvs : T) (key : K) (x : J) (b : Bool) (i : Int) (f : Nat) (t : K) (kv lv : Value) (vs : List Value) (w : World)
    (h : ValJ ok w (cells7 7 b i f t kv lv) (.table kvs)) (hv : ValJ ok w vs x) (hs : Sorted kvs) (hn : kvs.length < 1099511627776) :
    Calls Tryz.prog 51 #[.agg (cells7 7 b i f t kv lv).toArray, .string key, .agg vs.toArray] w fun e w' => ∃ cs, e = .returned (.agg cs.toArray) ∧ ValJ (fun b => ok b ∨ w.heap.size ≤ b) w' cs (.table (ins kvs key x)) ∧ Chg No w w' := by
  obtain ⟨vk, vb, vi, vf, vt, vkv, vlv, rfl⟩ := hv.seven
  cases h with
  | @table _ _ _ _ _ _ rows0 _ hk hl hn0 hr =>
  have HK := Lib.hid hk
  have HL := Lib.hid hl
  obtain ⟨-, -, ka, kc, rfl, -, -⟩ := hk
  obtain ⟨-, -, la, lc, rfl, -, -⟩ := hl
  simp only [List.length_map] at HK ⊢
  have HR := Lib.hid hr
  have HN := Lib.hid hn0
  have HV := Lib.hid hv
  have HS := Lib.hid hs
  clear hr hn0 hv hs
  have hbk := build26_k 7
  go_enter Tryz.func51, Tryz.ntmps51
  unfold cells7
  go_wp2_with fail
  obtain ⟨g1, hg1⟩ : ∃ g1, g1 = w.heap.size + 1 := ⟨_, rfl⟩
  obtain ⟨g2, hg2⟩ : ∃ g2, g2 = w.heap.size + 1 + 1 := ⟨_, rfl⟩
  obtain ⟨g3, hg3⟩ : ∃ g3, g3 = w.heap.size + 1 + 1 + 1 := ⟨_, rfl⟩
  rw [← hg3, ← hg2, ← hg1]
  obtain ⟨bsl, hbsl⟩ : ∃ bsl, bsl = [(w.heap.size, cells7 7 b i f t (Value.slice ka (List.length kvs) kc) (Value.slice la rows0.length lc)), (g1, cells7 vk vb vi vf vt vkv vlv), (g2, zero7)] := ⟨_, rfl⟩
  go_loopw [8, 15] (fun d c wr => ∃ (n : Nat) (db : Bool) (acc : T) (rows : List (List Value)) (kv lv : Value), n ≤ kvs.length ∧ d = .bool db ∧ c = .int .i64 n ∧
      WithAcc kvs key x n db acc ∧ OutMem ok w wr bsl g3 (g3 + 1) acc rows kv lv) (fun _ c _ => kvs.length - (intOf c).toNat)
  case atStart =>
    refine ⟨0, false, [], [], .slice none 0 0, .slice none 0 0, Nat.zero_le _, rfl, rfl, ⟨fun _ => ⟨rfl, by simp⟩, (by intro e; cases e)⟩, ⟨((((Chg.refl _ _).alloc _).alloc _).alloc _).alloc _, by omega, by omega, by simp [hg3], ?_, ?_, OwnR.nil _ _ _ _, OwnR.nil _ _ _ _, rfl, by simp⟩⟩
    · subst hbsl
      intro p hp
      simp only [List.mem_cons, List.mem_nil_iff, or_false] at hp
      rcases hp with rfl | rfl | rfl
      · exact ⟨(((Blk.new _ _ _).alloc _).alloc _).alloc _, by simp; omega, by simp; omega⟩
      · exact ⟨((Blk.newAt (by simp [hg1]) _ _).alloc _).alloc _, by simp; omega, by simp; omega⟩
      · exact ⟨(Blk.newAt (by simp [hg2]) _ _).alloc _, by simp; omega, by simp; omega⟩
    · exact Blk.newAt (by simp [hg3]) _ _
  case round =>
    obtain ⟨n, db, acc, rows, kv, lv, hn1, rfl, rfl, hacc, hi⟩ := hrel
    have HI := Lib.hid hi
    have HA := Lib.hid hacc
    have HG1 := Lib.hid hg1
    have HG2 := Lib.hid hg2
    have HG3 := Lib.hid hg3
    have HB := Lib.hid hbsl
    clear hi hacc hg1 hg2 hg3 hbsl
    have m0 : (w.heap.size, cells7 7 b i f t (Value.slice ka (List.length kvs) kc) (Value.slice la rows0.length lc)) ∈ bsl := by rw [HB.out]; exact .head _
    have m1 : (g1, cells7 vk vb vi vf vt vkv vlv) ∈ bsl := by rw [HB.out]; exact .tail _ (.head _)
    have m2 : (g2, zero7) ∈ bsl := by rw [HB.out]; exact .tail _ (.tail _ (.head _))
    have M0 := Lib.hid m0
    have M1 := Lib.hid m1
    have M2 := Lib.hid m2
    clear m0 m1 m2
    by_cases hlt : n < kvs.length
    · obtain ⟨p, hp⟩ : ∃ p, kvs[n]? = some p := ⟨_, List.getElem?_eq_getElem hlt⟩
      have hlt2 : n < rows0.length := by rw [HN.out]; exact hlt
      obtain ⟨r, hr0⟩ : ∃ r, rows0[n]? = some r := ⟨_, List.getElem?_eq_getElem hlt2⟩
      obtain ⟨kb, ko, rfl, hok, hkc⟩ := HK.out.at (i := n) (r := [.string p.1]) (by simp [hp])
      obtain ⟨lb, lo, rfl, hlok, hlc⟩ := HL.out.at (i := n) (r := r) hr0
      have hkc := (hkc.chg HI.out.chg id).one
      simp only [Nat.mul_one] at hkc
      have HLC := hlc
      have HV9 := Lib.hid (HR.out n r p hr0 hp)
      obtain ⟨rk, rb, ri, rf, rt, rkv, rlv, rfl⟩ := HV9.out.seven
      have hrl : (cells7 rk rb ri rf rt rkv rlv).length = 7 := rfl
      have HP := Lib.hid hp
      have h63 : (n : Int) < 9223372036854775808 := by omega
      have h64 : (n : Int) < (rows0.length : Int) := by omega
      clear hp hr0 hlc
      have hlen := HA.out.len
      cases db with
      | true =>
        obtain ⟨hpk, hA2⟩ := HA.out.stepA HS.out HP.out
        have hpb : (p.1.toList == key.toList) = false := by rw [toList_beq]; simpa using hpk
        have HA2 := Lib.hid hA2
        clear hpk hA2
        go_wp2_with fail
        refine wp_region_inv (FI [.eq (.pointer (some ⟨g3, 5, none⟩)), .eq kv, .eq (.string p.1), .temp wr.heap.size [.string p.1] 9, .own (g3 + 1) 9 1 (keyRows acc ++ [[.string p.1]]), .eq (.pointer (some ⟨g3, 6, none⟩)), .eq lv, .eq (.pointer (some ⟨w.heap.size, 6, none⟩)), .eq (.slice (some ⟨lb, lo, none⟩) rows0.length lc), .eq (.int .i64 n), .eq (.pointer (some ⟨lb, lo + n * 7, none⟩)), .eq (.agg (cells7 rk rb ri rf rt rkv rlv).toArray), .temp wr.heap.size (cells7 rk rb ri rf rt rkv rlv) 26, .own (g3 + 1) 26 7 (rows ++ [(cells7 rk rb ri rf rt rkv rlv)]), .eq (.pointer (some ⟨g3, 5, none⟩)), .any, .eq (.pointer (some ⟨g3, 6, none⟩)), .any])
          (fun done w' => OutMid ok w w' wr.heap.size bsl g3 (g3 + 1) acc rows kv lv p.1 (cells7 rk rb ri rf rt rkv rlv) (done 15) (done 17))
          (by kernel_rfl) (by kernel_rfl) (HI.out.mid _ _) ?_ ?_
        · refine ⟨?_, ?_, ?_, ?_, ?_, ?_, ?_, ?_, ?_, ?_, ?_, ?_, ?_, ?_, ?_, ?_, ?_, ?_, trivial⟩
          · intro done a w1 K hd hcl hsl hot hdep hG hK
            have e7 : a.tmps[7]?.getD undef = .pointer (some ⟨g3, 0, none⟩) := hot 7 rfl
            clear hcl hsl hot hdep
            go_simp
            exact hK _ _ rfl (by simpa [dn] using hG) (fun _ _ _ _ h => h)
          · intro done a w1 K hd hcl hsl hot hdep hG hK
            have e42 : a.tmps[42]?.getD undef = .pointer (some ⟨g3, 5, none⟩) := hsl 0 42 rfl (hdep 0 rfl)
            have n15 : done 15 = false := by
              cases h : done 15 with
              | false => rfl
              | true => have := hcl 15 1 rfl h; rw [hd] at this; cases this
            obtain ⟨k', l', hb, h1, -⟩ := hG.b
            rw [n15] at h1
            obtain rfl : k' = kv := h1
            have c5 : w1.cell? ⟨g3, 5, none⟩ = some k' := hb.cell 5
            clear hcl hsl hot hdep
            go_simp
            exact hK _ _ rfl (by simpa [dn] using hG) (fun _ _ _ _ h => h)
          · intro done a w1 K hd hcl hsl hot hdep hG hK
            have e10 : a.tmps[10]?.getD undef = .string p.1 := hot 10 rfl
            clear hcl hsl hot hdep
            go_simp
            exact hK _ _ rfl (by simpa [dn] using hG) (fun _ _ _ _ h => h)
          · intro done a w1 K hd hcl hsl hot hdep hG hK
            have e44 : a.tmps[44]?.getD undef = .string p.1 := hsl 2 44 rfl (hdep 2 rfl)
            clear hcl hsl hot hdep
            go_simp
            refine hK _ _ ⟨_, rfl, hG.hlo, Blk.new _ [.string p.1] _⟩ (by simpa [dn] using hG.chgNo ((Chg.refl _ _).alloc _)) (fun _ _ _ _ h => h.keepNo ((Chg.refl _ _).alloc _))
          · intro done a w1 K hd hcl hsl hot hdep hG hK
            have e43 : a.tmps[43]?.getD undef = kv := hsl 1 43 rfl (hdep 1 rfl)
            obtain ⟨t, e45, hlt, hbt⟩ := hsl 3 45 rfl (hdep 3 rfl)
            have n15 : done 15 = false := by
              cases h : done 15 with
              | false => rfl
              | true => have := hcl 15 4 rfl h; rw [hd] at this; cases this
            have n17 : done 17 = false := by
              cases h : done 17 with
              | false => rfl
              | true => have := hcl 17 4 rfl h; rw [hd] at this; cases this
            rw [n15, n17] at hG
            refine if_wanted rfl ?_
            refine wp_appendRows elem23 rfl (by simpa [Act.eval] using e43) hG.ck (by simpa [Act.eval] using e45) (hbt.row1 rfl) (by simp [Value.oneCell']) (by simp only [keyRows, List.length_map, List.length_singleton]; have := hlen; omega) (by decide) (Nat.le_trans hG.bb hG.hlo) fun v' w' hO hC hB hOld => ?_
            have hC2 := hG.cl.chg hC (fun k hk hk2 => hG.ck.apart hG.cl (by decide) hk2 hk)
            refine hK v' w' hO (by simpa [dn, n15, n17] using hG.app hC (fun k hk => (hG.ck.elem hk).1) hOld hC2) ?_
            refine fun j hj _ u hu => hu.keep hC (safe_of (i := 4) (fun j hl hj => ?_) j hj)
            match j, hj with
            | 0, _ => exact trivial
            | 1, _ => exact trivial
            | 2, _ => exact trivial
            | 3, _ => exact fun k hk => hG.klo k hk
            | 4, hj => exact absurd rfl hj
            | 5, _ => exact trivial
            | 6, _ => exact trivial
            | 7, _ => exact trivial
            | 8, _ => exact trivial
            | 9, _ => exact trivial
            | 10, _ => exact trivial
            | 11, _ => exact trivial
            | 12, _ => exact fun k hk => hG.klo k hk
            | 13, _ => exact fun k hk _ => hG.ck.notElem (by decide) hk
            | 14, _ => exact trivial
            | 15, _ => exact trivial
            | 16, _ => exact trivial
            | 17, _ => exact trivial
            | j + 18, _ => exact absurd hl (by simp)
          · intro done a w1 K hd hcl hsl hot hdep hG hK
            have e7 : a.tmps[7]?.getD undef = .pointer (some ⟨g3, 0, none⟩) := hot 7 rfl
            clear hcl hsl hot hdep
            go_simp
            exact hK _ _ rfl (by simpa [dn] using hG) (fun _ _ _ _ h => h)
          · intro done a w1 K hd hcl hsl hot hdep hG hK
            have e47 : a.tmps[47]?.getD undef = .pointer (some ⟨g3, 6, none⟩) := hsl 5 47 rfl (hdep 5 rfl)
            have n17 : done 17 = false := by
              cases h : done 17 with
              | false => rfl
              | true => have := hcl 17 6 rfl h; rw [hd] at this; cases this
            obtain ⟨k', l', hb, -, h2⟩ := hG.b
            rw [n17] at h2
            obtain rfl : l' = lv := h2
            have c6 : w1.cell? ⟨g3, 6, none⟩ = some l' := hb.cell 6
            clear hcl hsl hot hdep
            go_simp
            exact hK _ _ rfl (by simpa [dn] using hG) (fun _ _ _ _ h => h)
          · intro done a w1 K hd hcl hsl hot hdep hG hK
            have e3 : a.tmps[3]?.getD undef = .pointer (some ⟨w.heap.size, 0, none⟩) := hot 3 rfl
            clear hcl hsl hot hdep
            go_simp
            exact hK _ _ rfl (by simpa [dn] using hG) (fun _ _ _ _ h => h)
          · intro done a w1 K hd hcl hsl hot hdep hG hK
            have e49 : a.tmps[49]?.getD undef = .pointer (some ⟨w.heap.size, 6, none⟩) := hsl 7 49 rfl (hdep 7 rfl)
            have c6 : w1.cell? ⟨w.heap.size, 6, none⟩ = some (.slice (some ⟨lb, lo, none⟩) rows0.length lc) := (hG.bs _ M0.out).1.cell 6
            clear hcl hsl hot hdep
            go_simp
            exact hK _ _ rfl (by simpa [dn] using hG) (fun _ _ _ _ h => h)
          · intro done a w1 K hd hcl hsl hot hdep hG hK
            have e9 : a.tmps[9]?.getD undef = .int .i64 n := hot 9 rfl
            clear hcl hsl hot hdep
            go_simp
            exact hK _ _ rfl (by simpa [dn] using hG) (fun _ _ _ _ h => h)
          · intro done a w1 K hd hcl hsl hot hdep hG hK
            have e50 : a.tmps[50]?.getD undef = .slice (some ⟨lb, lo, none⟩) rows0.length lc := hsl 8 50 rfl (hdep 8 rfl)
            have e51 : a.tmps[51]?.getD undef = .int .i64 n := hsl 9 51 rfl (hdep 9 rfl)
            clear hcl hsl hot hdep
            go_simp
            exact hK _ _ rfl (by simpa [dn] using hG) (fun _ _ _ _ h => h)
          · intro done a w1 K hd hcl hsl hot hdep hG hK
            have e52 : a.tmps[52]?.getD undef = .pointer (some ⟨lb, lo + n * 7, none⟩) := hsl 10 52 rfl (hdep 10 rfl)
            refine if_wanted rfl ?_
            refine wp_loadAgg agg26 rfl (by simpa [Act.eval] using e52) (HLC.chg hG.chg id) hrl ?_
            exact hK _ _ rfl (by simpa [dn] using hG) (fun _ _ _ _ h => h)
          · intro done a w1 K hd hcl hsl hot hdep hG hK
            have e53 : a.tmps[53]?.getD undef = .agg (cells7 rk rb ri rf rt rkv rlv).toArray := hsl 11 53 rfl (hdep 11 rfl)
            clear hcl hsl hot hdep
            unfold cells7 at e53
            go_simp
            refine hK _ _ ⟨_, rfl, hG.hlo, Blk.new _ (cells7 rk rb ri rf rt rkv rlv) _⟩ (by simpa [dn] using hG.chgNo ((Chg.refl _ _).alloc _)) (fun _ _ _ _ h => h.keepNo ((Chg.refl _ _).alloc _))
          · intro done a w1 K hd hcl hsl hot hdep hG hK
            have e48 : a.tmps[48]?.getD undef = lv := hsl 6 48 rfl (hdep 6 rfl)
            obtain ⟨t, e54, hlt, hbt⟩ := hsl 12 54 rfl (hdep 12 rfl)
            have n15 : done 15 = false := by
              cases h : done 15 with
              | false => rfl
              | true => have := hcl 15 13 rfl h; rw [hd] at this; cases this
            have n17 : done 17 = false := by
              cases h : done 17 with
              | false => rfl
              | true => have := hcl 17 13 rfl h; rw [hd] at this; cases this
            rw [n15, n17] at hG
            refine if_wanted rfl ?_
            refine wp_appendRows elem24 rfl (by simpa [Act.eval] using e48) hG.cl (by simpa [Act.eval] using e54) (hbt.row1 rfl) (by intro r hr; obtain rfl := List.mem_singleton.1 hr; exact HV9.out.one) (by simp only [List.length_singleton]; have := hlen; have := HI.out.rv.1; omega) (by decide) (Nat.le_trans hG.bb hG.hlo) fun v' w' hO hC hB hOld => ?_
            have hC2 := hG.ck.chg hC (fun k hk hk2 => hG.cl.apart hG.ck (by decide) hk2 hk)
            refine hK v' w' hO (by simpa [dn, n15, n17] using hG.app hC (fun k hk => (hG.cl.elem hk).1) hC2 hOld) ?_
            refine fun j hj _ u hu => hu.keep hC (safe_of (i := 13) (fun j hl hj => ?_) j hj)
            match j, hj with
            | 0, _ => exact trivial
            | 1, _ => exact trivial
            | 2, _ => exact trivial
            | 3, _ => exact fun k hk => hG.llo k hk
            | 4, _ => exact fun k hk _ => hG.cl.notElem (by decide) hk
            | 5, _ => exact trivial
            | 6, _ => exact trivial
            | 7, _ => exact trivial
            | 8, _ => exact trivial
            | 9, _ => exact trivial
            | 10, _ => exact trivial
            | 11, _ => exact trivial
            | 12, _ => exact fun k hk => hG.llo k hk
            | 13, hj => exact absurd rfl hj
            | 14, _ => exact trivial
            | 15, _ => exact trivial
            | 16, _ => exact trivial
            | 17, _ => exact trivial
            | j + 18, _ => exact absurd hl (by simp)
          · intro done a w1 K hd hcl hsl hot hdep hG hK
            have e7 : a.tmps[7]?.getD undef = .pointer (some ⟨g3, 0, none⟩) := hot 7 rfl
            clear hcl hsl hot hdep
            go_simp
            exact hK _ _ rfl (by simpa [dn] using hG) (fun _ _ _ _ h => h)
          · intro done a w1 K hd hcl hsl hot hdep hG hK
            have e56 : a.tmps[56]?.getD undef = .pointer (some ⟨g3, 5, none⟩) := hsl 14 56 rfl (hdep 14 rfl)
            have hO := hsl 4 46 rfl (hdep 4 rfl)
            obtain ⟨sa, sn, sc, hv⟩ := OwnR.slice hO
            rw [hd] at hG
            obtain ⟨k', l', hb, -, -⟩ := hG.b
            have c5 : w1.cell? ⟨g3, 5, none⟩ = some k' := hb.cell 5
            have f5 : w1.frozen? ⟨g3, 5, none⟩ = false := hb.frozen 5
            change OwnR _ _ _ _ _ _ at hO
            rw [hv] at hO
            have e46 := hv
            obtain ⟨hG2, hC⟩ := hG.store5 hO
            have HK2 := Lib.hid hG2
            have HC2 := Lib.hid hC
            have hgb := hG.gb
            have hgl := Nat.lt_of_lt_of_le hG.gb hG.bb
            clear hcl hsl hot hdep
            clear hv hG hO hG2 hC
            go_simp
            refine hK undef _ trivial (by simpa [dn] using HK2.out) ?_
            have hC := HC2.out
            refine fun j hj _ u hu => hu.keep hC (safe_of (i := 15) (fun j hl hj => ?_) j hj)
            match j, hj with
            | 0, _ => exact trivial
            | 1, _ => exact trivial
            | 2, _ => exact trivial
            | 3, _ => exact fun k hk => by omega
            | 4, _ => exact fun k hk hb => by omega
            | 5, _ => exact trivial
            | 6, _ => exact trivial
            | 7, _ => exact trivial
            | 8, _ => exact trivial
            | 9, _ => exact trivial
            | 10, _ => exact trivial
            | 11, _ => exact trivial
            | 12, _ => exact fun k hk => by omega
            | 13, _ => exact fun k hk hb => by omega
            | 14, _ => exact trivial
            | 15, hj => exact absurd rfl hj
            | 16, _ => exact trivial
            | 17, _ => exact trivial
            | j + 18, _ => exact absurd hl (by simp)
          · intro done a w1 K hd hcl hsl hot hdep hG hK
            have e7 : a.tmps[7]?.getD undef = .pointer (some ⟨g3, 0, none⟩) := hot 7 rfl
            clear hcl hsl hot hdep
            go_simp
            exact hK _ _ rfl (by simpa [dn] using hG) (fun _ _ _ _ h => h)
          · intro done a w1 K hd hcl hsl hot hdep hG hK
            have e57 : a.tmps[57]?.getD undef = .pointer (some ⟨g3, 6, none⟩) := hsl 16 57 rfl (hdep 16 rfl)
            have hO := hsl 13 55 rfl (hdep 13 rfl)
            obtain ⟨sa, sn, sc, hv⟩ := OwnR.slice hO
            rw [hd] at hG
            obtain ⟨k', l', hb, -, -⟩ := hG.b
            have c5 : w1.cell? ⟨g3, 6, none⟩ = some l' := hb.cell 6
            have f5 : w1.frozen? ⟨g3, 6, none⟩ = false := hb.frozen 6
            change OwnR _ _ _ _ _ _ at hO
            rw [hv] at hO
            have e55 := hv
            obtain ⟨hG2, hC⟩ := hG.store6 hO
            have HK2 := Lib.hid hG2
            have HC2 := Lib.hid hC
            have hgb := hG.gb
            have hgl := Nat.lt_of_lt_of_le hG.gb hG.bb
            clear hcl hsl hot hdep
            clear hv hG hO hG2 hC
            go_simp
            refine hK undef _ trivial (by simpa [dn] using HK2.out) ?_
            have hC := HC2.out
            refine fun j hj _ u hu => hu.keep hC (safe_of (i := 17) (fun j hl hj => ?_) j hj)
            match j, hj with
            | 0, _ => exact trivial
            | 1, _ => exact trivial
            | 2, _ => exact trivial
            | 3, _ => exact fun k hk => by omega
            | 4, _ => exact fun k hk hb => by omega
            | 5, _ => exact trivial
            | 6, _ => exact trivial
            | 7, _ => exact trivial
            | 8, _ => exact trivial
            | 9, _ => exact trivial
            | 10, _ => exact trivial
            | 11, _ => exact trivial
            | 12, _ => exact fun k hk => by omega
            | 13, _ => exact fun k hk hb => by omega
            | 14, _ => exact trivial
            | 15, _ => exact trivial
            | 16, _ => exact trivial
            | 17, hj => exact absurd rfl hj
            | j + 18, _ => exact absurd hl (by simp)
        · intro vs w2 hvs _ hG
          obtain ⟨k9, l9, h9⟩ := OutMid.out hG HI.out.rv HV9.out
          have H9 := Lib.hid h9
          clear h9 hG hvs
          simp only [putAll, Act.put, List.setIfInBounds_toArray, List.set_cons_succ, List.set_cons_zero]
          go_wp2_with fail
          go_roundw
          case rel => exact ⟨n + 1, true, acc ++ [p], rows ++ [(cells7 rk rb ri rf rt rkv rlv)], k9, l9, by omega, rfl, by go_num, HA2.out, H9.out⟩
          case measure => simp [intOf]; omega
      | false =>
        by_cases hk : klt p.1 key
        · have hbl : Op.bytesLess p.1.toList key.toList = true := by rw [bytesLess_klt]; simpa using hk
          obtain ⟨hpk, hA2⟩ := HA.out.stepB HP.out hk
          have hpb : (p.1.toList == key.toList) = false := by rw [toList_beq]; simpa using hpk
          have HA2 := Lib.hid hA2
          clear hpk hA2 hk
          go_wp2_with fail
          refine wp_region_inv (FI [.eq (.pointer (some ⟨g3, 5, none⟩)), .eq kv, .eq (.string p.1), .temp wr.heap.size [.string p.1] 9, .own (g3 + 1) 9 1 (keyRows acc ++ [[.string p.1]]), .eq (.pointer (some ⟨g3, 6, none⟩)), .eq lv, .eq (.pointer (some ⟨w.heap.size, 6, none⟩)), .eq (.slice (some ⟨lb, lo, none⟩) rows0.length lc), .eq (.int .i64 n), .eq (.pointer (some ⟨lb, lo + n * 7, none⟩)), .eq (.agg (cells7 rk rb ri rf rt rkv rlv).toArray), .temp wr.heap.size (cells7 rk rb ri rf rt rkv rlv) 26, .own (g3 + 1) 26 7 (rows ++ [(cells7 rk rb ri rf rt rkv rlv)]), .eq (.pointer (some ⟨g3, 5, none⟩)), .any, .eq (.pointer (some ⟨g3, 6, none⟩)), .any])
            (fun done w' => OutMid ok w w' wr.heap.size bsl g3 (g3 + 1) acc rows kv lv p.1 (cells7 rk rb ri rf rt rkv rlv) (done 15) (done 17))
            (by kernel_rfl) (by kernel_rfl) (HI.out.mid _ _) ?_ ?_
          · refine ⟨?_, ?_, ?_, ?_, ?_, ?_, ?_, ?_, ?_, ?_, ?_, ?_, ?_, ?_, ?_, ?_, ?_, ?_, trivial⟩
            · intro done a w1 K hd hcl hsl hot hdep hG hK
              have e7 : a.tmps[7]?.getD undef = .pointer (some ⟨g3, 0, none⟩) := hot 7 rfl
              clear hcl hsl hot hdep
              go_simp
              exact hK _ _ rfl (by simpa [dn] using hG) (fun _ _ _ _ h => h)
            · intro done a w1 K hd hcl hsl hot hdep hG hK
              have e42 : a.tmps[42]?.getD undef = .pointer (some ⟨g3, 5, none⟩) := hsl 0 42 rfl (hdep 0 rfl)
              have n15 : done 15 = false := by
                cases h : done 15 with
                | false => rfl
                | true => have := hcl 15 1 rfl h; rw [hd] at this; cases this
              obtain ⟨k', l', hb, h1, -⟩ := hG.b
              rw [n15] at h1
              obtain rfl : k' = kv := h1
              have c5 : w1.cell? ⟨g3, 5, none⟩ = some k' := hb.cell 5
              clear hcl hsl hot hdep
              go_simp
              exact hK _ _ rfl (by simpa [dn] using hG) (fun _ _ _ _ h => h)
            · intro done a w1 K hd hcl hsl hot hdep hG hK
              have e10 : a.tmps[10]?.getD undef = .string p.1 := hot 10 rfl
              clear hcl hsl hot hdep
              go_simp
              exact hK _ _ rfl (by simpa [dn] using hG) (fun _ _ _ _ h => h)
            · intro done a w1 K hd hcl hsl hot hdep hG hK
              have e44 : a.tmps[44]?.getD undef = .string p.1 := hsl 2 44 rfl (hdep 2 rfl)
              clear hcl hsl hot hdep
              go_simp
              refine hK _ _ ⟨_, rfl, hG.hlo, Blk.new _ [.string p.1] _⟩ (by simpa [dn] using hG.chgNo ((Chg.refl _ _).alloc _)) (fun _ _ _ _ h => h.keepNo ((Chg.refl _ _).alloc _))
            · intro done a w1 K hd hcl hsl hot hdep hG hK
              have e43 : a.tmps[43]?.getD undef = kv := hsl 1 43 rfl (hdep 1 rfl)
              obtain ⟨t, e45, hlt, hbt⟩ := hsl 3 45 rfl (hdep 3 rfl)
              have n15 : done 15 = false := by
                cases h : done 15 with
                | false => rfl
                | true => have := hcl 15 4 rfl h; rw [hd] at this; cases this
              have n17 : done 17 = false := by
                cases h : done 17 with
                | false => rfl
                | true => have := hcl 17 4 rfl h; rw [hd] at this; cases this
              rw [n15, n17] at hG
              refine if_wanted rfl ?_
              refine wp_appendRows elem23 rfl (by simpa [Act.eval] using e43) hG.ck (by simpa [Act.eval] using e45) (hbt.row1 rfl) (by simp [Value.oneCell']) (by simp only [keyRows, List.length_map, List.length_singleton]; have := hlen; omega) (by decide) (Nat.le_trans hG.bb hG.hlo) fun v' w' hO hC hB hOld => ?_
              have hC2 := hG.cl.chg hC (fun k hk hk2 => hG.ck.apart hG.cl (by decide) hk2 hk)
              refine hK v' w' hO (by simpa [dn, n15, n17] using hG.app hC (fun k hk => (hG.ck.elem hk).1) hOld hC2) ?_
              refine fun j hj _ u hu => hu.keep hC (safe_of (i := 4) (fun j hl hj => ?_) j hj)
              match j, hj with
              | 0, _ => exact trivial
              | 1, _ => exact trivial
              | 2, _ => exact trivial
              | 3, _ => exact fun k hk => hG.klo k hk
              | 4, hj => exact absurd rfl hj
              | 5, _ => exact trivial
              | 6, _ => exact trivial
              | 7, _ => exact trivial
              | 8, _ => exact trivial
              | 9, _ => exact trivial
              | 10, _ => exact trivial
              | 11, _ => exact trivial
              | 12, _ => exact fun k hk => hG.klo k hk
              | 13, _ => exact fun k hk _ => hG.ck.notElem (by decide) hk
              | 14, _ => exact trivial
              | 15, _ => exact trivial
              | 16, _ => exact trivial
              | 17, _ => exact trivial
              | j + 18, _ => exact absurd hl (by simp)
            · intro done a w1 K hd hcl hsl hot hdep hG hK
              have e7 : a.tmps[7]?.getD undef = .pointer (some ⟨g3, 0, none⟩) := hot 7 rfl
              clear hcl hsl hot hdep
              go_simp
              exact hK _ _ rfl (by simpa [dn] using hG) (fun _ _ _ _ h => h)
            · intro done a w1 K hd hcl hsl hot hdep hG hK
              have e47 : a.tmps[47]?.getD undef = .pointer (some ⟨g3, 6, none⟩) := hsl 5 47 rfl (hdep 5 rfl)
              have n17 : done 17 = false := by
                cases h : done 17 with
                | false => rfl
                | true => have := hcl 17 6 rfl h; rw [hd] at this; cases this
              obtain ⟨k', l', hb, -, h2⟩ := hG.b
              rw [n17] at h2
              obtain rfl : l' = lv := h2
              have c6 : w1.cell? ⟨g3, 6, none⟩ = some l' := hb.cell 6
              clear hcl hsl hot hdep
              go_simp
              exact hK _ _ rfl (by simpa [dn] using hG) (fun _ _ _ _ h => h)
            · intro done a w1 K hd hcl hsl hot hdep hG hK
              have e3 : a.tmps[3]?.getD undef = .pointer (some ⟨w.heap.size, 0, none⟩) := hot 3 rfl
              clear hcl hsl hot hdep
              go_simp
              exact hK _ _ rfl (by simpa [dn] using hG) (fun _ _ _ _ h => h)
            · intro done a w1 K hd hcl hsl hot hdep hG hK
              have e49 : a.tmps[49]?.getD undef = .pointer (some ⟨w.heap.size, 6, none⟩) := hsl 7 49 rfl (hdep 7 rfl)
              have c6 : w1.cell? ⟨w.heap.size, 6, none⟩ = some (.slice (some ⟨lb, lo, none⟩) rows0.length lc) := (hG.bs _ M0.out).1.cell 6
              clear hcl hsl hot hdep
              go_simp
              exact hK _ _ rfl (by simpa [dn] using hG) (fun _ _ _ _ h => h)
            · intro done a w1 K hd hcl hsl hot hdep hG hK
              have e9 : a.tmps[9]?.getD undef = .int .i64 n := hot 9 rfl
              clear hcl hsl hot hdep
              go_simp
              exact hK _ _ rfl (by simpa [dn] using hG) (fun _ _ _ _ h => h)
            · intro done a w1 K hd hcl hsl hot hdep hG hK
              have e50 : a.tmps[50]?.getD undef = .slice (some ⟨lb, lo, none⟩) rows0.length lc := hsl 8 50 rfl (hdep 8 rfl)
              have e51 : a.tmps[51]?.getD undef = .int .i64 n := hsl 9 51 rfl (hdep 9 rfl)
              clear hcl hsl hot hdep
              go_simp
              exact hK _ _ rfl (by simpa [dn] using hG) (fun _ _ _ _ h => h)
            · intro done a w1 K hd hcl hsl hot hdep hG hK
              have e52 : a.tmps[52]?.getD undef = .pointer (some ⟨lb, lo + n * 7, none⟩) := hsl 10 52 rfl (hdep 10 rfl)
              refine if_wanted rfl ?_
              refine wp_loadAgg agg26 rfl (by simpa [Act.eval] using e52) (HLC.chg hG.chg id) hrl ?_
              exact hK _ _ rfl (by simpa [dn] using hG) (fun _ _ _ _ h => h)
            · intro done a w1 K hd hcl hsl hot hdep hG hK
              have e53 : a.tmps[53]?.getD undef = .agg (cells7 rk rb ri rf rt rkv rlv).toArray := hsl 11 53 rfl (hdep 11 rfl)
              clear hcl hsl hot hdep
              unfold cells7 at e53
              go_simp
              refine hK _ _ ⟨_, rfl, hG.hlo, Blk.new _ (cells7 rk rb ri rf rt rkv rlv) _⟩ (by simpa [dn] using hG.chgNo ((Chg.refl _ _).alloc _)) (fun _ _ _ _ h => h.keepNo ((Chg.refl _ _).alloc _))
            · intro done a w1 K hd hcl hsl hot hdep hG hK
              have e48 : a.tmps[48]?.getD undef = lv := hsl 6 48 rfl (hdep 6 rfl)
              obtain ⟨t, e54, hlt, hbt⟩ := hsl 12 54 rfl (hdep 12 rfl)
              have n15 : done 15 = false := by
                cases h : done 15 with
                | false => rfl
                | true => have := hcl 15 13 rfl h; rw [hd] at this; cases this
              have n17 : done 17 = false := by
                cases h : done 17 with
                | false => rfl
                | true => have := hcl 17 13 rfl h; rw [hd] at this; cases this
              rw [n15, n17] at hG
              refine if_wanted rfl ?_
              refine wp_appendRows elem24 rfl (by simpa [Act.eval] using e48) hG.cl (by simpa [Act.eval] using e54) (hbt.row1 rfl) (by intro r hr; obtain rfl := List.mem_singleton.1 hr; exact HV9.out.one) (by simp only [List.length_singleton]; have := hlen; have := HI.out.rv.1; omega) (by decide) (Nat.le_trans hG.bb hG.hlo) fun v' w' hO hC hB hOld => ?_
              have hC2 := hG.ck.chg hC (fun k hk hk2 => hG.cl.apart hG.ck (by decide) hk2 hk)
              refine hK v' w' hO (by simpa [dn, n15, n17] using hG.app hC (fun k hk => (hG.cl.elem hk).1) hC2 hOld) ?_
              refine fun j hj _ u hu => hu.keep hC (safe_of (i := 13) (fun j hl hj => ?_) j hj)
              match j, hj with
              | 0, _ => exact trivial
              | 1, _ => exact trivial
              | 2, _ => exact trivial
              | 3, _ => exact fun k hk => hG.llo k hk
              | 4, _ => exact fun k hk _ => hG.cl.notElem (by decide) hk
              | 5, _ => exact trivial
              | 6, _ => exact trivial
              | 7, _ => exact trivial
              | 8, _ => exact trivial
              | 9, _ => exact trivial
              | 10, _ => exact trivial
              | 11, _ => exact trivial
              | 12, _ => exact fun k hk => hG.llo k hk
              | 13, hj => exact absurd rfl hj
              | 14, _ => exact trivial
              | 15, _ => exact trivial
              | 16, _ => exact trivial
              | 17, _ => exact trivial
              | j + 18, _ => exact absurd hl (by simp)
            · intro done a w1 K hd hcl hsl hot hdep hG hK
              have e7 : a.tmps[7]?.getD undef = .pointer (some ⟨g3, 0, none⟩) := hot 7 rfl
              clear hcl hsl hot hdep
              go_simp
              exact hK _ _ rfl (by simpa [dn] using hG) (fun _ _ _ _ h => h)
            · intro done a w1 K hd hcl hsl hot hdep hG hK
              have e56 : a.tmps[56]?.getD undef = .pointer (some ⟨g3, 5, none⟩) := hsl 14 56 rfl (hdep 14 rfl)
              have hO := hsl 4 46 rfl (hdep 4 rfl)
              obtain ⟨sa, sn, sc, hv⟩ := OwnR.slice hO
              rw [hd] at hG
              obtain ⟨k', l', hb, -, -⟩ := hG.b
              have c5 : w1.cell? ⟨g3, 5, none⟩ = some k' := hb.cell 5
              have f5 : w1.frozen? ⟨g3, 5, none⟩ = false := hb.frozen 5
              change OwnR _ _ _ _ _ _ at hO
              rw [hv] at hO
              have e46 := hv
              obtain ⟨hG2, hC⟩ := hG.store5 hO
              have HK2 := Lib.hid hG2
              have HC2 := Lib.hid hC
              have hgb := hG.gb
              have hgl := Nat.lt_of_lt_of_le hG.gb hG.bb
              clear hcl hsl hot hdep
              clear hv hG hO hG2 hC
              go_simp
              refine hK undef _ trivial (by simpa [dn] using HK2.out) ?_
              have hC := HC2.out
              refine fun j hj _ u hu => hu.keep hC (safe_of (i := 15) (fun j hl hj => ?_) j hj)
              match j, hj with
              | 0, _ => exact trivial
              | 1, _ => exact trivial
              | 2, _ => exact trivial
              | 3, _ => exact fun k hk => by omega
              | 4, _ => exact fun k hk hb => by omega
              | 5, _ => exact trivial
              | 6, _ => exact trivial
              | 7, _ => exact trivial
              | 8, _ => exact trivial
              | 9, _ => exact trivial
              | 10, _ => exact trivial
              | 11, _ => exact trivial
              | 12, _ => exact fun k hk => by omega
              | 13, _ => exact fun k hk hb => by omega
              | 14, _ => exact trivial
              | 15, hj => exact absurd rfl hj
              | 16, _ => exact trivial
              | 17, _ => exact trivial
              | j + 18, _ => exact absurd hl (by simp)
            · intro done a w1 K hd hcl hsl hot hdep hG hK
              have e7 : a.tmps[7]?.getD undef = .pointer (some ⟨g3, 0, none⟩) := hot 7 rfl
              clear hcl hsl hot hdep
              go_simp
              exact hK _ _ rfl (by simpa [dn] using hG) (fun _ _ _ _ h => h)
            · intro done a w1 K hd hcl hsl hot hdep hG hK
              have e57 : a.tmps[57]?.getD undef = .pointer (some ⟨g3, 6, none⟩) := hsl 16 57 rfl (hdep 16 rfl)
              have hO := hsl 13 55 rfl (hdep 13 rfl)
              obtain ⟨sa, sn, sc, hv⟩ := OwnR.slice hO
              rw [hd] at hG
              obtain ⟨k', l', hb, -, -⟩ := hG.b
              have c5 : w1.cell? ⟨g3, 6, none⟩ = some l' := hb.cell 6
              have f5 : w1.frozen? ⟨g3, 6, none⟩ = false := hb.frozen 6
              change OwnR _ _ _ _ _ _ at hO
              rw [hv] at hO
              have e55 := hv
              obtain ⟨hG2, hC⟩ := hG.store6 hO
              have HK2 := Lib.hid hG2
              have HC2 := Lib.hid hC
              have hgb := hG.gb
              have hgl := Nat.lt_of_lt_of_le hG.gb hG.bb
              clear hcl hsl hot hdep
              clear hv hG hO hG2 hC
              go_simp
              refine hK undef _ trivial (by simpa [dn] using HK2.out) ?_
              have hC := HC2.out
              refine fun j hj _ u hu => hu.keep hC (safe_of (i := 17) (fun j hl hj => ?_) j hj)
              match j, hj with
              | 0, _ => exact trivial
              | 1, _ => exact trivial
              | 2, _ => exact trivial
              | 3, _ => exact fun k hk => by omega
              | 4, _ => exact fun k hk hb => by omega
              | 5, _ => exact trivial
              | 6, _ => exact trivial
              | 7, _ => exact trivial
              | 8, _ => exact trivial
              | 9, _ => exact trivial
              | 10, _ => exact trivial
              | 11, _ => exact trivial
              | 12, _ => exact fun k hk => by omega
              | 13, _ => exact fun k hk hb => by omega
              | 14, _ => exact trivial
              | 15, _ => exact trivial
              | 16, _ => exact trivial
              | 17, hj => exact absurd rfl hj
              | j + 18, _ => exact absurd hl (by simp)
          · intro vs w2 hvs _ hG
            obtain ⟨k9, l9, h9⟩ := OutMid.out hG HI.out.rv HV9.out
            have H9 := Lib.hid h9
            clear h9 hG hvs
            simp only [putAll, Act.put, List.setIfInBounds_toArray, List.set_cons_succ, List.set_cons_zero]
            go_wp2_with fail
            go_roundw
            case rel => exact ⟨n + 1, false, acc ++ [p], rows ++ [(cells7 rk rb ri rf rt rkv rlv)], k9, l9, by omega, rfl, by go_num, HA2.out, H9.out⟩
            case measure => simp [intOf]; omega
        · have hbl : Op.bytesLess p.1.toList key.toList = false := by rw [bytesLess_klt]; simpa using hk
          have hA2 := HA.out.stepC HP.out hk
          have hlen2 : acc.length ≤ n := by obtain ⟨e, -⟩ := HA.out.acc0 rfl; rw [e]; exact List.length_take_le _ _
          clear hk
          have HA2 := Lib.hid hA2
          clear hA2
          go_wp2_with fail
          refine wp_region_inv (FI [.eq (.pointer (some ⟨g3, 5, none⟩)), .eq kv, .eq (.string key), .temp wr.heap.size [.string key] 9, .own (g3 + 1) 9 1 (keyRows acc ++ [[.string key]]), .eq (.pointer (some ⟨g3, 6, none⟩)), .eq lv, .eq (.agg (cells7 vk vb vi vf vt vkv vlv).toArray), .temp wr.heap.size (cells7 vk vb vi vf vt vkv vlv) 26, .own (g3 + 1) 26 7 (rows ++ [(cells7 vk vb vi vf vt vkv vlv)]), .eq (.pointer (some ⟨g3, 5, none⟩)), .any, .eq (.pointer (some ⟨g3, 6, none⟩)), .any, .eq (.bool true)])
            (fun done w' => OutMid ok w w' wr.heap.size bsl g3 (g3 + 1) acc rows kv lv key (cells7 vk vb vi vf vt vkv vlv) (done 11) (done 13))
            (by kernel_rfl) (by kernel_rfl) (HI.out.mid _ _) ?_ ?_
          · refine ⟨?_, ?_, ?_, ?_, ?_, ?_, ?_, ?_, ?_, ?_, ?_, ?_, ?_, ?_, ?_, trivial⟩
            · intro done a w1 K hd hcl hsl hot hdep hG hK
              have e7 : a.tmps[7]?.getD undef = .pointer (some ⟨g3, 0, none⟩) := hot 7 rfl
              clear hcl hsl hot hdep
              go_simp
              exact hK _ _ rfl (by simpa [dn] using hG) (fun _ _ _ _ h => h)
            · intro done a w1 K hd hcl hsl hot hdep hG hK
              have e27 : a.tmps[27]?.getD undef = .pointer (some ⟨g3, 5, none⟩) := hsl 0 27 rfl (hdep 0 rfl)
              have n11 : done 11 = false := by
                cases h : done 11 with
                | false => rfl
                | true => have := hcl 11 1 rfl h; rw [hd] at this; cases this
              obtain ⟨k', l', hb, h1, -⟩ := hG.b
              rw [n11] at h1
              obtain rfl : k' = kv := h1
              have c5 : w1.cell? ⟨g3, 5, none⟩ = some k' := hb.cell 5
              clear hcl hsl hot hdep
              go_simp
              exact hK _ _ rfl (by simpa [dn] using hG) (fun _ _ _ _ h => h)
            · intro done a w1 K hd hcl hsl hot hdep hG hK
              have e1 : a.tmps[1]?.getD undef = .string key := hot 1 rfl
              clear hcl hsl hot hdep
              go_simp
              exact hK _ _ rfl (by simpa [dn] using hG) (fun _ _ _ _ h => h)
            · intro done a w1 K hd hcl hsl hot hdep hG hK
              have e29 : a.tmps[29]?.getD undef = .string key := hsl 2 29 rfl (hdep 2 rfl)
              clear hcl hsl hot hdep
              go_simp
              refine hK _ _ ⟨_, rfl, hG.hlo, Blk.new _ [.string key] _⟩ (by simpa [dn] using hG.chgNo ((Chg.refl _ _).alloc _)) (fun _ _ _ _ h => h.keepNo ((Chg.refl _ _).alloc _))
            · intro done a w1 K hd hcl hsl hot hdep hG hK
              have e28 : a.tmps[28]?.getD undef = kv := hsl 1 28 rfl (hdep 1 rfl)
              obtain ⟨t, e30, hlt, hbt⟩ := hsl 3 30 rfl (hdep 3 rfl)
              have n11 : done 11 = false := by
                cases h : done 11 with
                | false => rfl
                | true => have := hcl 11 4 rfl h; rw [hd] at this; cases this
              have n13 : done 13 = false := by
                cases h : done 13 with
                | false => rfl
                | true => have := hcl 13 4 rfl h; rw [hd] at this; cases this
              rw [n11, n13] at hG
              refine if_wanted rfl ?_
              refine wp_appendRows elem23 rfl (by simpa [Act.eval] using e28) hG.ck (by simpa [Act.eval] using e30) (hbt.row1 rfl) (by simp [Value.oneCell']) (by simp only [keyRows, List.length_map, List.length_singleton]; have := hlen; omega) (by decide) (Nat.le_trans hG.bb hG.hlo) fun v' w' hO hC hB hOld => ?_
              have hC2 := hG.cl.chg hC (fun k hk hk2 => hG.ck.apart hG.cl (by decide) hk2 hk)
              refine hK v' w' hO (by simpa [dn, n11, n13] using hG.app hC (fun k hk => (hG.ck.elem hk).1) hOld hC2) ?_
              refine fun j hj _ u hu => hu.keep hC (safe_of (i := 4) (fun j hl hj => ?_) j hj)
              match j, hj with
              | 0, _ => exact trivial
              | 1, _ => exact trivial
              | 2, _ => exact trivial
              | 3, _ => exact fun k hk => hG.klo k hk
              | 4, hj => exact absurd rfl hj
              | 5, _ => exact trivial
              | 6, _ => exact trivial
              | 7, _ => exact trivial
              | 8, _ => exact fun k hk => hG.klo k hk
              | 9, _ => exact fun k hk _ => hG.ck.notElem (by decide) hk
              | 10, _ => exact trivial
              | 11, _ => exact trivial
              | 12, _ => exact trivial
              | 13, _ => exact trivial
              | 14, _ => exact trivial
              | j + 15, _ => exact absurd hl (by simp)
            · intro done a w1 K hd hcl hsl hot hdep hG hK
              have e7 : a.tmps[7]?.getD undef = .pointer (some ⟨g3, 0, none⟩) := hot 7 rfl
              clear hcl hsl hot hdep
              go_simp
              exact hK _ _ rfl (by simpa [dn] using hG) (fun _ _ _ _ h => h)
            · intro done a w1 K hd hcl hsl hot hdep hG hK
              have e32 : a.tmps[32]?.getD undef = .pointer (some ⟨g3, 6, none⟩) := hsl 5 32 rfl (hdep 5 rfl)
              have n13 : done 13 = false := by
                cases h : done 13 with
                | false => rfl
                | true => have := hcl 13 6 rfl h; rw [hd] at this; cases this
              obtain ⟨k', l', hb, -, h2⟩ := hG.b
              rw [n13] at h2
              obtain rfl : l' = lv := h2
              have c6 : w1.cell? ⟨g3, 6, none⟩ = some l' := hb.cell 6
              clear hcl hsl hot hdep
              go_simp
              exact hK _ _ rfl (by simpa [dn] using hG) (fun _ _ _ _ h => h)
            · intro done a w1 K hd hcl hsl hot hdep hG hK
              have e5 : a.tmps[5]?.getD undef = .pointer (some ⟨g1, 0, none⟩) := hot 5 rfl
              have hb1 : Blk w1 g1 (cells7 vk vb vi vf vt vkv vlv) 26 := (hG.bs _ M1.out).1
              refine if_wanted rfl ?_
              refine wp_loadAgg agg26 rfl (by simpa [Act.eval] using e5) hb1.cells rfl ?_
              exact hK _ _ rfl (by simpa [dn] using hG) (fun _ _ _ _ h => h)
            · intro done a w1 K hd hcl hsl hot hdep hG hK
              have e34 : a.tmps[34]?.getD undef = .agg (cells7 vk vb vi vf vt vkv vlv).toArray := hsl 7 34 rfl (hdep 7 rfl)
              clear hcl hsl hot hdep
              unfold cells7 at e34
              go_simp
              refine hK _ _ ⟨_, rfl, hG.hlo, Blk.new _ (cells7 vk vb vi vf vt vkv vlv) _⟩ (by simpa [dn] using hG.chgNo ((Chg.refl _ _).alloc _)) (fun _ _ _ _ h => h.keepNo ((Chg.refl _ _).alloc _))
            · intro done a w1 K hd hcl hsl hot hdep hG hK
              have e33 : a.tmps[33]?.getD undef = lv := hsl 6 33 rfl (hdep 6 rfl)
              obtain ⟨t, e35, hlt, hbt⟩ := hsl 8 35 rfl (hdep 8 rfl)
              have n11 : done 11 = false := by
                cases h : done 11 with
                | false => rfl
                | true => have := hcl 11 9 rfl h; rw [hd] at this; cases this
              have n13 : done 13 = false := by
                cases h : done 13 with
                | false => rfl
                | true => have := hcl 13 9 rfl h; rw [hd] at this; cases this
              rw [n11, n13] at hG
              refine if_wanted rfl ?_
              refine wp_appendRows elem24 rfl (by simpa [Act.eval] using e33) hG.cl (by simpa [Act.eval] using e35) (hbt.row1 rfl) (by intro r hr; obtain rfl := List.mem_singleton.1 hr; exact HV.out.one) (by simp only [List.length_singleton]; have := hlen; have := HI.out.rv.1; omega) (by decide) (Nat.le_trans hG.bb hG.hlo) fun v' w' hO hC hB hOld => ?_
              have hC2 := hG.ck.chg hC (fun k hk hk2 => hG.cl.apart hG.ck (by decide) hk2 hk)
              refine hK v' w' hO (by simpa [dn, n11, n13] using hG.app hC (fun k hk => (hG.cl.elem hk).1) hC2 hOld) ?_
              refine fun j hj _ u hu => hu.keep hC (safe_of (i := 9) (fun j hl hj => ?_) j hj)
              match j, hj with
              | 0, _ => exact trivial
              | 1, _ => exact trivial
              | 2, _ => exact trivial
              | 3, _ => exact fun k hk => hG.llo k hk
              | 4, _ => exact fun k hk _ => hG.cl.notElem (by decide) hk
              | 5, _ => exact trivial
              | 6, _ => exact trivial
              | 7, _ => exact trivial
              | 8, _ => exact fun k hk => hG.llo k hk
              | 9, hj => exact absurd rfl hj
              | 10, _ => exact trivial
              | 11, _ => exact trivial
              | 12, _ => exact trivial
              | 13, _ => exact trivial
              | 14, _ => exact trivial
              | j + 15, _ => exact absurd hl (by simp)
            · intro done a w1 K hd hcl hsl hot hdep hG hK
              have e7 : a.tmps[7]?.getD undef = .pointer (some ⟨g3, 0, none⟩) := hot 7 rfl
              clear hcl hsl hot hdep
              go_simp
              exact hK _ _ rfl (by simpa [dn] using hG) (fun _ _ _ _ h => h)
            · intro done a w1 K hd hcl hsl hot hdep hG hK
              have e37 : a.tmps[37]?.getD undef = .pointer (some ⟨g3, 5, none⟩) := hsl 10 37 rfl (hdep 10 rfl)
              have hO := hsl 4 31 rfl (hdep 4 rfl)
              obtain ⟨sa, sn, sc, hv⟩ := OwnR.slice hO
              rw [hd] at hG
              obtain ⟨k', l', hb, -, -⟩ := hG.b
              have c5 : w1.cell? ⟨g3, 5, none⟩ = some k' := hb.cell 5
              have f5 : w1.frozen? ⟨g3, 5, none⟩ = false := hb.frozen 5
              change OwnR _ _ _ _ _ _ at hO
              rw [hv] at hO
              have e31 := hv
              obtain ⟨hG2, hC⟩ := hG.store5 hO
              have HK2 := Lib.hid hG2
              have HC2 := Lib.hid hC
              have hgb := hG.gb
              have hgl := Nat.lt_of_lt_of_le hG.gb hG.bb
              clear hcl hsl hot hdep
              clear hv hG hO hG2 hC
              go_simp
              refine hK undef _ trivial (by simpa [dn] using HK2.out) ?_
              have hC := HC2.out
              refine fun j hj _ u hu => hu.keep hC (safe_of (i := 11) (fun j hl hj => ?_) j hj)
              match j, hj with
              | 0, _ => exact trivial
              | 1, _ => exact trivial
              | 2, _ => exact trivial
              | 3, _ => exact fun k hk => by omega
              | 4, _ => exact fun k hk hb => by omega
              | 5, _ => exact trivial
              | 6, _ => exact trivial
              | 7, _ => exact trivial
              | 8, _ => exact fun k hk => by omega
              | 9, _ => exact fun k hk hb => by omega
              | 10, _ => exact trivial
              | 11, hj => exact absurd rfl hj
              | 12, _ => exact trivial
              | 13, _ => exact trivial
              | 14, _ => exact trivial
              | j + 15, _ => exact absurd hl (by simp)
            · intro done a w1 K hd hcl hsl hot hdep hG hK
              have e7 : a.tmps[7]?.getD undef = .pointer (some ⟨g3, 0, none⟩) := hot 7 rfl
              clear hcl hsl hot hdep
              go_simp
              exact hK _ _ rfl (by simpa [dn] using hG) (fun _ _ _ _ h => h)
            · intro done a w1 K hd hcl hsl hot hdep hG hK
              have e38 : a.tmps[38]?.getD undef = .pointer (some ⟨g3, 6, none⟩) := hsl 12 38 rfl (hdep 12 rfl)
              have hO := hsl 9 36 rfl (hdep 9 rfl)
              obtain ⟨sa, sn, sc, hv⟩ := OwnR.slice hO
              rw [hd] at hG
              obtain ⟨k', l', hb, -, -⟩ := hG.b
              have c5 : w1.cell? ⟨g3, 6, none⟩ = some l' := hb.cell 6
              have f5 : w1.frozen? ⟨g3, 6, none⟩ = false := hb.frozen 6
              change OwnR _ _ _ _ _ _ at hO
              rw [hv] at hO
              have e36 := hv
              obtain ⟨hG2, hC⟩ := hG.store6 hO
              have HK2 := Lib.hid hG2
              have HC2 := Lib.hid hC
              have hgb := hG.gb
              have hgl := Nat.lt_of_lt_of_le hG.gb hG.bb
              clear hcl hsl hot hdep
              clear hv hG hO hG2 hC
              go_simp
              refine hK undef _ trivial (by simpa [dn] using HK2.out) ?_
              have hC := HC2.out
              refine fun j hj _ u hu => hu.keep hC (safe_of (i := 13) (fun j hl hj => ?_) j hj)
              match j, hj with
              | 0, _ => exact trivial
              | 1, _ => exact trivial
              | 2, _ => exact trivial
              | 3, _ => exact fun k hk => by omega
              | 4, _ => exact fun k hk hb => by omega
              | 5, _ => exact trivial
              | 6, _ => exact trivial
              | 7, _ => exact trivial
              | 8, _ => exact fun k hk => by omega
              | 9, _ => exact fun k hk hb => by omega
              | 10, _ => exact trivial
              | 11, _ => exact trivial
              | 12, _ => exact trivial
              | 13, hj => exact absurd rfl hj
              | 14, _ => exact trivial
              | j + 15, _ => exact absurd hl (by simp)
            · intro done a w1 K hd hcl hsl hot hdep hG hK
              clear hcl hsl hot hdep
              go_simp
              exact hK _ _ rfl (by simpa [dn] using hG) (fun _ _ _ _ h => h)
          · intro vs w2 hvs _ hG
            obtain ⟨k7, l7, h7⟩ := OutMid.out hG HI.out.rv HV.out
            have e8 : vs 14 = .bool true := hvs 14 _ rfl (by simp)
            have HI7 := Lib.hid h7
            clear h7 hG hvs
            simp only [putAll, Act.put, List.setIfInBounds_toArray, List.set_cons_succ, List.set_cons_zero, e8]
            by_cases hpk : p.1 = key
            · have hpb : (p.1.toList == key.toList) = true := by rw [toList_beq]; simpa using hpk
              have HPK := Lib.hid hpk
              clear hpk
              go_wp2_with fail
              go_roundw
              case rel => exact ⟨n + 1, true, acc ++ [(key, x)], rows ++ [(cells7 vk vb vi vf vt vkv vlv)], k7, l7, by omega, rfl, by go_num, by have := HA2.out; rwa [if_pos HPK.out] at this, HI7.out⟩
              case measure => simp [intOf]; omega
            · have hpb : (p.1.toList == key.toList) = false := by rw [toList_beq]; simpa using hpk
              have HPK := Lib.hid hpk
              clear hpk
              have hlen3 : (acc ++ [(key, x)]).length ≤ n + 1 := by simp; omega
              go_wp2_with fail
              refine wp_region_inv (FI [.eq (.pointer (some ⟨g3, 5, none⟩)), .eq k7, .eq (.string p.1), .temp w2.heap.size [.string p.1] 9, .own (g3 + 1) 9 1 (keyRows (acc ++ [(key, x)]) ++ [[.string p.1]]), .eq (.pointer (some ⟨g3, 6, none⟩)), .eq l7, .eq (.pointer (some ⟨w.heap.size, 6, none⟩)), .eq (.slice (some ⟨lb, lo, none⟩) rows0.length lc), .eq (.int .i64 n), .eq (.pointer (some ⟨lb, lo + n * 7, none⟩)), .eq (.agg (cells7 rk rb ri rf rt rkv rlv).toArray), .temp w2.heap.size (cells7 rk rb ri rf rt rkv rlv) 26, .own (g3 + 1) 26 7 ((rows ++ [(cells7 vk vb vi vf vt vkv vlv)]) ++ [(cells7 rk rb ri rf rt rkv rlv)]), .eq (.pointer (some ⟨g3, 5, none⟩)), .any, .eq (.pointer (some ⟨g3, 6, none⟩)), .any])
                (fun done w' => OutMid ok w w' w2.heap.size bsl g3 (g3 + 1) (acc ++ [(key, x)]) (rows ++ [(cells7 vk vb vi vf vt vkv vlv)]) k7 l7 p.1 (cells7 rk rb ri rf rt rkv rlv) (done 15) (done 17))
                (by kernel_rfl) (by kernel_rfl) (HI7.out.mid _ _) ?_ ?_
              · refine ⟨?_, ?_, ?_, ?_, ?_, ?_, ?_, ?_, ?_, ?_, ?_, ?_, ?_, ?_, ?_, ?_, ?_, ?_, trivial⟩
                · intro done a w1 K hd hcl hsl hot hdep hG hK
                  have e7 : a.tmps[7]?.getD undef = .pointer (some ⟨g3, 0, none⟩) := hot 7 rfl
                  clear hcl hsl hot hdep
                  go_simp
                  exact hK _ _ rfl (by simpa [dn] using hG) (fun _ _ _ _ h => h)
                · intro done a w1 K hd hcl hsl hot hdep hG hK
                  have e42 : a.tmps[42]?.getD undef = .pointer (some ⟨g3, 5, none⟩) := hsl 0 42 rfl (hdep 0 rfl)
                  have n15 : done 15 = false := by
                    cases h : done 15 with
                    | false => rfl
                    | true => have := hcl 15 1 rfl h; rw [hd] at this; cases this
                  obtain ⟨k', l', hb, h1, -⟩ := hG.b
                  rw [n15] at h1
                  obtain rfl : k' = k7 := h1
                  have c5 : w1.cell? ⟨g3, 5, none⟩ = some k' := hb.cell 5
                  clear hcl hsl hot hdep
                  go_simp
                  exact hK _ _ rfl (by simpa [dn] using hG) (fun _ _ _ _ h => h)
                · intro done a w1 K hd hcl hsl hot hdep hG hK
                  have e10 : a.tmps[10]?.getD undef = .string p.1 := hot 10 rfl
                  clear hcl hsl hot hdep
                  go_simp
                  exact hK _ _ rfl (by simpa [dn] using hG) (fun _ _ _ _ h => h)
                · intro done a w1 K hd hcl hsl hot hdep hG hK
                  have e44 : a.tmps[44]?.getD undef = .string p.1 := hsl 2 44 rfl (hdep 2 rfl)
                  clear hcl hsl hot hdep
                  go_simp
                  refine hK _ _ ⟨_, rfl, hG.hlo, Blk.new _ [.string p.1] _⟩ (by simpa [dn] using hG.chgNo ((Chg.refl _ _).alloc _)) (fun _ _ _ _ h => h.keepNo ((Chg.refl _ _).alloc _))
                · intro done a w1 K hd hcl hsl hot hdep hG hK
                  have e43 : a.tmps[43]?.getD undef = k7 := hsl 1 43 rfl (hdep 1 rfl)
                  obtain ⟨t, e45, hlt, hbt⟩ := hsl 3 45 rfl (hdep 3 rfl)
                  have n15 : done 15 = false := by
                    cases h : done 15 with
                    | false => rfl
                    | true => have := hcl 15 4 rfl h; rw [hd] at this; cases this
                  have n17 : done 17 = false := by
                    cases h : done 17 with
                    | false => rfl
                    | true => have := hcl 17 4 rfl h; rw [hd] at this; cases this
                  rw [n15, n17] at hG
                  refine if_wanted rfl ?_
                  refine wp_appendRows elem23 rfl (by simpa [Act.eval] using e43) hG.ck (by simpa [Act.eval] using e45) (hbt.row1 rfl) (by simp [Value.oneCell']) (by simp only [keyRows, List.length_map, List.length_singleton]; have := hlen3; omega) (by decide) (Nat.le_trans hG.bb hG.hlo) fun v' w' hO hC hB hOld => ?_
                  have hC2 := hG.cl.chg hC (fun k hk hk2 => hG.ck.apart hG.cl (by decide) hk2 hk)
                  refine hK v' w' hO (by simpa [dn, n15, n17] using hG.app hC (fun k hk => (hG.ck.elem hk).1) hOld hC2) ?_
                  refine fun j hj _ u hu => hu.keep hC (safe_of (i := 4) (fun j hl hj => ?_) j hj)
                  match j, hj with
                  | 0, _ => exact trivial
                  | 1, _ => exact trivial
                  | 2, _ => exact trivial
                  | 3, _ => exact fun k hk => hG.klo k hk
                  | 4, hj => exact absurd rfl hj
                  | 5, _ => exact trivial
                  | 6, _ => exact trivial
                  | 7, _ => exact trivial
                  | 8, _ => exact trivial
                  | 9, _ => exact trivial
                  | 10, _ => exact trivial
                  | 11, _ => exact trivial
                  | 12, _ => exact fun k hk => hG.klo k hk
                  | 13, _ => exact fun k hk _ => hG.ck.notElem (by decide) hk
                  | 14, _ => exact trivial
                  | 15, _ => exact trivial
                  | 16, _ => exact trivial
                  | 17, _ => exact trivial
                  | j + 18, _ => exact absurd hl (by simp)
                · intro done a w1 K hd hcl hsl hot hdep hG hK
                  have e7 : a.tmps[7]?.getD undef = .pointer (some ⟨g3, 0, none⟩) := hot 7 rfl
                  clear hcl hsl hot hdep
                  go_simp
                  exact hK _ _ rfl (by simpa [dn] using hG) (fun _ _ _ _ h => h)
                · intro done a w1 K hd hcl hsl hot hdep hG hK
                  have e47 : a.tmps[47]?.getD undef = .pointer (some ⟨g3, 6, none⟩) := hsl 5 47 rfl (hdep 5 rfl)
                  have n17 : done 17 = false := by
                    cases h : done 17 with
                    | false => rfl
                    | true => have := hcl 17 6 rfl h; rw [hd] at this; cases this
                  obtain ⟨k', l', hb, -, h2⟩ := hG.b
                  rw [n17] at h2
                  obtain rfl : l' = l7 := h2
                  have c6 : w1.cell? ⟨g3, 6, none⟩ = some l' := hb.cell 6
                  clear hcl hsl hot hdep
                  go_simp
                  exact hK _ _ rfl (by simpa [dn] using hG) (fun _ _ _ _ h => h)
                · intro done a w1 K hd hcl hsl hot hdep hG hK
                  have e3 : a.tmps[3]?.getD undef = .pointer (some ⟨w.heap.size, 0, none⟩) := hot 3 rfl
                  clear hcl hsl hot hdep
                  go_simp
                  exact hK _ _ rfl (by simpa [dn] using hG) (fun _ _ _ _ h => h)
                · intro done a w1 K hd hcl hsl hot hdep hG hK
                  have e49 : a.tmps[49]?.getD undef = .pointer (some ⟨w.heap.size, 6, none⟩) := hsl 7 49 rfl (hdep 7 rfl)
                  have c6 : w1.cell? ⟨w.heap.size, 6, none⟩ = some (.slice (some ⟨lb, lo, none⟩) rows0.length lc) := (hG.bs _ M0.out).1.cell 6
                  clear hcl hsl hot hdep
                  go_simp
                  exact hK _ _ rfl (by simpa [dn] using hG) (fun _ _ _ _ h => h)
                · intro done a w1 K hd hcl hsl hot hdep hG hK
                  have e9 : a.tmps[9]?.getD undef = .int .i64 n := hot 9 rfl
                  clear hcl hsl hot hdep
                  go_simp
                  exact hK _ _ rfl (by simpa [dn] using hG) (fun _ _ _ _ h => h)
                · intro done a w1 K hd hcl hsl hot hdep hG hK
                  have e50 : a.tmps[50]?.getD undef = .slice (some ⟨lb, lo, none⟩) rows0.length lc := hsl 8 50 rfl (hdep 8 rfl)
                  have e51 : a.tmps[51]?.getD undef = .int .i64 n := hsl 9 51 rfl (hdep 9 rfl)
                  clear hcl hsl hot hdep
                  go_simp
                  exact hK _ _ rfl (by simpa [dn] using hG) (fun _ _ _ _ h => h)
                · intro done a w1 K hd hcl hsl hot hdep hG hK
                  have e52 : a.tmps[52]?.getD undef = .pointer (some ⟨lb, lo + n * 7, none⟩) := hsl 10 52 rfl (hdep 10 rfl)
                  refine if_wanted rfl ?_
                  refine wp_loadAgg agg26 rfl (by simpa [Act.eval] using e52) (HLC.chg hG.chg id) hrl ?_
                  exact hK _ _ rfl (by simpa [dn] using hG) (fun _ _ _ _ h => h)
                · intro done a w1 K hd hcl hsl hot hdep hG hK
                  have e53 : a.tmps[53]?.getD undef = .agg (cells7 rk rb ri rf rt rkv rlv).toArray := hsl 11 53 rfl (hdep 11 rfl)
                  clear hcl hsl hot hdep
                  unfold cells7 at e53
                  go_simp
                  refine hK _ _ ⟨_, rfl, hG.hlo, Blk.new _ (cells7 rk rb ri rf rt rkv rlv) _⟩ (by simpa [dn] using hG.chgNo ((Chg.refl _ _).alloc _)) (fun _ _ _ _ h => h.keepNo ((Chg.refl _ _).alloc _))
                · intro done a w1 K hd hcl hsl hot hdep hG hK
                  have e48 : a.tmps[48]?.getD undef = l7 := hsl 6 48 rfl (hdep 6 rfl)
                  obtain ⟨t, e54, hlt, hbt⟩ := hsl 12 54 rfl (hdep 12 rfl)
                  have n15 : done 15 = false := by
                    cases h : done 15 with
                    | false => rfl
                    | true => have := hcl 15 13 rfl h; rw [hd] at this; cases this
                  have n17 : done 17 = false := by
                    cases h : done 17 with
                    | false => rfl
                    | true => have := hcl 17 13 rfl h; rw [hd] at this; cases this
                  rw [n15, n17] at hG
                  refine if_wanted rfl ?_
                  refine wp_appendRows elem24 rfl (by simpa [Act.eval] using e48) hG.cl (by simpa [Act.eval] using e54) (hbt.row1 rfl) (by intro r hr; obtain rfl := List.mem_singleton.1 hr; exact HV9.out.one) (by simp only [List.length_singleton]; have := hlen3; have := HI7.out.rv.1; omega) (by decide) (Nat.le_trans hG.bb hG.hlo) fun v' w' hO hC hB hOld => ?_
                  have hC2 := hG.ck.chg hC (fun k hk hk2 => hG.cl.apart hG.ck (by decide) hk2 hk)
                  refine hK v' w' hO (by simpa [dn, n15, n17] using hG.app hC (fun k hk => (hG.cl.elem hk).1) hC2 hOld) ?_
                  refine fun j hj _ u hu => hu.keep hC (safe_of (i := 13) (fun j hl hj => ?_) j hj)
                  match j, hj with
                  | 0, _ => exact trivial
                  | 1, _ => exact trivial
                  | 2, _ => exact trivial
                  | 3, _ => exact fun k hk => hG.llo k hk
                  | 4, _ => exact fun k hk _ => hG.cl.notElem (by decide) hk
                  | 5, _ => exact trivial
                  | 6, _ => exact trivial
                  | 7, _ => exact trivial
                  | 8, _ => exact trivial
                  | 9, _ => exact trivial
                  | 10, _ => exact trivial
                  | 11, _ => exact trivial
                  | 12, _ => exact fun k hk => hG.llo k hk
                  | 13, hj => exact absurd rfl hj
                  | 14, _ => exact trivial
                  | 15, _ => exact trivial
                  | 16, _ => exact trivial
                  | 17, _ => exact trivial
                  | j + 18, _ => exact absurd hl (by simp)
                · intro done a w1 K hd hcl hsl hot hdep hG hK
                  have e7 : a.tmps[7]?.getD undef = .pointer (some ⟨g3, 0, none⟩) := hot 7 rfl
                  clear hcl hsl hot hdep
                  go_simp
                  exact hK _ _ rfl (by simpa [dn] using hG) (fun _ _ _ _ h => h)
                · intro done a w1 K hd hcl hsl hot hdep hG hK
                  have e56 : a.tmps[56]?.getD undef = .pointer (some ⟨g3, 5, none⟩) := hsl 14 56 rfl (hdep 14 rfl)
                  have hO := hsl 4 46 rfl (hdep 4 rfl)
                  obtain ⟨sa, sn, sc, hv⟩ := OwnR.slice hO
                  rw [hd] at hG
                  obtain ⟨k', l', hb, -, -⟩ := hG.b
                  have c5 : w1.cell? ⟨g3, 5, none⟩ = some k' := hb.cell 5
                  have f5 : w1.frozen? ⟨g3, 5, none⟩ = false := hb.frozen 5
                  change OwnR _ _ _ _ _ _ at hO
                  rw [hv] at hO
                  have e46 := hv
                  obtain ⟨hG2, hC⟩ := hG.store5 hO
                  have HK2 := Lib.hid hG2
                  have HC2 := Lib.hid hC
                  have hgb := hG.gb
                  have hgl := Nat.lt_of_lt_of_le hG.gb hG.bb
                  clear hcl hsl hot hdep
                  clear hv hG hO hG2 hC
                  go_simp
                  refine hK undef _ trivial (by simpa [dn] using HK2.out) ?_
                  have hC := HC2.out
                  refine fun j hj _ u hu => hu.keep hC (safe_of (i := 15) (fun j hl hj => ?_) j hj)
                  match j, hj with
                  | 0, _ => exact trivial
                  | 1, _ => exact trivial
                  | 2, _ => exact trivial
                  | 3, _ => exact fun k hk => by omega
                  | 4, _ => exact fun k hk hb => by omega
                  | 5, _ => exact trivial
                  | 6, _ => exact trivial
                  | 7, _ => exact trivial
                  | 8, _ => exact trivial
                  | 9, _ => exact trivial
                  | 10, _ => exact trivial
                  | 11, _ => exact trivial
                  | 12, _ => exact fun k hk => by omega
                  | 13, _ => exact fun k hk hb => by omega
                  | 14, _ => exact trivial
                  | 15, hj => exact absurd rfl hj
                  | 16, _ => exact trivial
                  | 17, _ => exact trivial
                  | j + 18, _ => exact absurd hl (by simp)
                · intro done a w1 K hd hcl hsl hot hdep hG hK
                  have e7 : a.tmps[7]?.getD undef = .pointer (some ⟨g3, 0, none⟩) := hot 7 rfl
                  clear hcl hsl hot hdep
                  go_simp
                  exact hK _ _ rfl (by simpa [dn] using hG) (fun _ _ _ _ h => h)
                · intro done a w1 K hd hcl hsl hot hdep hG hK
                  have e57 : a.tmps[57]?.getD undef = .pointer (some ⟨g3, 6, none⟩) := hsl 16 57 rfl (hdep 16 rfl)
                  have hO := hsl 13 55 rfl (hdep 13 rfl)
                  obtain ⟨sa, sn, sc, hv⟩ := OwnR.slice hO
                  rw [hd] at hG
                  obtain ⟨k', l', hb, -, -⟩ := hG.b
                  have c5 : w1.cell? ⟨g3, 6, none⟩ = some l' := hb.cell 6
                  have f5 : w1.frozen? ⟨g3, 6, none⟩ = false := hb.frozen 6
                  change OwnR _ _ _ _ _ _ at hO
                  rw [hv] at hO
                  have e55 := hv
                  obtain ⟨hG2, hC⟩ := hG.store6 hO
                  have HK2 := Lib.hid hG2
                  have HC2 := Lib.hid hC
                  have hgb := hG.gb
                  have hgl := Nat.lt_of_lt_of_le hG.gb hG.bb
                  clear hcl hsl hot hdep
                  clear hv hG hO hG2 hC
                  go_simp
                  refine hK undef _ trivial (by simpa [dn] using HK2.out) ?_
                  have hC := HC2.out
                  refine fun j hj _ u hu => hu.keep hC (safe_of (i := 17) (fun j hl hj => ?_) j hj)
                  match j, hj with
                  | 0, _ => exact trivial
                  | 1, _ => exact trivial
                  | 2, _ => exact trivial
                  | 3, _ => exact fun k hk => by omega
                  | 4, _ => exact fun k hk hb => by omega
                  | 5, _ => exact trivial
                  | 6, _ => exact trivial
                  | 7, _ => exact trivial
                  | 8, _ => exact trivial
                  | 9, _ => exact trivial
                  | 10, _ => exact trivial
                  | 11, _ => exact trivial
                  | 12, _ => exact fun k hk => by omega
                  | 13, _ => exact fun k hk hb => by omega
                  | 14, _ => exact trivial
                  | 15, _ => exact trivial
                  | 16, _ => exact trivial
                  | 17, hj => exact absurd rfl hj
                  | j + 18, _ => exact absurd hl (by simp)
              · intro vs w2 hvs _ hG
                obtain ⟨k9, l9, h9⟩ := OutMid.out hG HI7.out.rv HV9.out
                have H9 := Lib.hid h9
                clear h9 hG hvs
                simp only [putAll, Act.put, List.setIfInBounds_toArray, List.set_cons_succ, List.set_cons_zero]
                go_wp2_with fail
                go_roundw
                case rel => exact ⟨n + 1, true, (acc ++ [(key, x)]) ++ [p], (rows ++ [(cells7 vk vb vi vf vt vkv vlv)]) ++ [(cells7 rk rb ri rf rt rkv rlv)], k9, l9, by omega, rfl, by go_num, by have := HA2.out; rw [if_neg HPK.out] at this; simpa using this, H9.out⟩
                case measure => simp [intOf]; omega
    · obtain rfl : n = kvs.length := by omega
      have hlen := HA.out.len
      cases db with
      | true =>
        have hacc : acc = ins kvs key x := by have := (HA.out.acc1 rfl).1; rwa [List.take_length] at this
        have HACC := Lib.hid hacc
        clear hacc
        have hb3 := HI.out.b
        have hb2 := (HI.out.bs _ M2.out).1
        have ho1 := cells7_one (k := 7) (b := false) (i := 0) (f := 0) (t := ByteArray.empty) HI.out.ck.rowAt.one HI.out.cl.rowAt.one
        go_wp2_with (first | (refine wpList_loadAgg rfl agg26 rfl rfl hb3.cells rfl ?_) | (refine wpList_storeBlk rfl agg26 rfl rfl rfl hb2 rfl rfl ho1 ?_; intro w4 hb4 hc4 hs4))
        obtain ⟨hval, hch⟩ := HI.out.done hc4 (by rw [HG2.out]; omega) (by rw [HG2.out, HG3.out]; omega)
        refine bodyPost_ret (results_blk rfl agg26 rfl hb4 rfl) rfl ⟨_, rfl, ?_, hch⟩
        rw [← HACC.out]
        exact hval
      | false =>
        have hacc : acc ++ [(key, x)] = ins kvs key x := by obtain ⟨h1, h2⟩ := HA.out.acc0 rfl; rw [List.take_length] at h1 h2; rw [h1, ins_all h2]
        have HACC := Lib.hid hacc
        have hlen2 : acc.length ≤ kvs.length := by obtain ⟨e, -⟩ := HA.out.acc0 rfl; rw [e]; exact List.length_take_le _ _
        clear hacc
        go_wp2_with fail
        refine wp_region_inv (FI [.eq (.pointer (some ⟨g3, 5, none⟩)), .eq kv, .eq (.string key), .temp wr.heap.size [.string key] 9, .own (g3 + 1) 9 1 (keyRows acc ++ [[.string key]]), .eq (.pointer (some ⟨g3, 6, none⟩)), .eq lv, .eq (.agg (cells7 vk vb vi vf vt vkv vlv).toArray), .temp wr.heap.size (cells7 vk vb vi vf vt vkv vlv) 26, .own (g3 + 1) 26 7 (rows ++ [(cells7 vk vb vi vf vt vkv vlv)]), .eq (.pointer (some ⟨g3, 5, none⟩)), .any, .eq (.pointer (some ⟨g3, 6, none⟩)), .any])
          (fun done w' => OutMid ok w w' wr.heap.size bsl g3 (g3 + 1) acc rows kv lv key (cells7 vk vb vi vf vt vkv vlv) (done 11) (done 13))
          (by kernel_rfl) (by kernel_rfl) (HI.out.mid _ _) ?_ ?_
        · refine ⟨?_, ?_, ?_, ?_, ?_, ?_, ?_, ?_, ?_, ?_, ?_, ?_, ?_, ?_, trivial⟩
          · intro done a w1 K hd hcl hsl hot hdep hG hK
            have e7 : a.tmps[7]?.getD undef = .pointer (some ⟨g3, 0, none⟩) := hot 7 rfl
            clear hcl hsl hot hdep
            go_simp
            exact hK _ _ rfl (by simpa [dn] using hG) (fun _ _ _ _ h => h)
          · intro done a w1 K hd hcl hsl hot hdep hG hK
            have e61 : a.tmps[61]?.getD undef = .pointer (some ⟨g3, 5, none⟩) := hsl 0 61 rfl (hdep 0 rfl)
            have n11 : done 11 = false := by
              cases h : done 11 with
              | false => rfl
              | true => have := hcl 11 1 rfl h; rw [hd] at this; cases this
            obtain ⟨k', l', hb, h1, -⟩ := hG.b
            rw [n11] at h1
            obtain rfl : k' = kv := h1
            have c5 : w1.cell? ⟨g3, 5, none⟩ = some k' := hb.cell 5
            clear hcl hsl hot hdep
            go_simp
            exact hK _ _ rfl (by simpa [dn] using hG) (fun _ _ _ _ h => h)
          · intro done a w1 K hd hcl hsl hot hdep hG hK
            have e1 : a.tmps[1]?.getD undef = .string key := hot 1 rfl
            clear hcl hsl hot hdep
            go_simp
            exact hK _ _ rfl (by simpa [dn] using hG) (fun _ _ _ _ h => h)
          · intro done a w1 K hd hcl hsl hot hdep hG hK
            have e63 : a.tmps[63]?.getD undef = .string key := hsl 2 63 rfl (hdep 2 rfl)
            clear hcl hsl hot hdep
            go_simp
            refine hK _ _ ⟨_, rfl, hG.hlo, Blk.new _ [.string key] _⟩ (by simpa [dn] using hG.chgNo ((Chg.refl _ _).alloc _)) (fun _ _ _ _ h => h.keepNo ((Chg.refl _ _).alloc _))
          · intro done a w1 K hd hcl hsl hot hdep hG hK
            have e62 : a.tmps[62]?.getD undef = kv := hsl 1 62 rfl (hdep 1 rfl)
            obtain ⟨t, e64, hlt, hbt⟩ := hsl 3 64 rfl (hdep 3 rfl)
            have n11 : done 11 = false := by
              cases h : done 11 with
              | false => rfl
              | true => have := hcl 11 4 rfl h; rw [hd] at this; cases this
            have n13 : done 13 = false := by
              cases h : done 13 with
              | false => rfl
              | true => have := hcl 13 4 rfl h; rw [hd] at this; cases this
            rw [n11, n13] at hG
            refine if_wanted rfl ?_
            refine wp_appendRows elem23 rfl (by simpa [Act.eval] using e62) hG.ck (by simpa [Act.eval] using e64) (hbt.row1 rfl) (by simp [Value.oneCell']) (by simp only [keyRows, List.length_map, List.length_singleton]; have := hlen2; omega) (by decide) (Nat.le_trans hG.bb hG.hlo) fun v' w' hO hC hB hOld => ?_
            have hC2 := hG.cl.chg hC (fun k hk hk2 => hG.ck.apart hG.cl (by decide) hk2 hk)
            refine hK v' w' hO (by simpa [dn, n11, n13] using hG.app hC (fun k hk => (hG.ck.elem hk).1) hOld hC2) ?_
            refine fun j hj _ u hu => hu.keep hC (safe_of (i := 4) (fun j hl hj => ?_) j hj)
            match j, hj with
            | 0, _ => exact trivial
            | 1, _ => exact trivial
            | 2, _ => exact trivial
            | 3, _ => exact fun k hk => hG.klo k hk
            | 4, hj => exact absurd rfl hj
            | 5, _ => exact trivial
            | 6, _ => exact trivial
            | 7, _ => exact trivial
            | 8, _ => exact fun k hk => hG.klo k hk
            | 9, _ => exact fun k hk _ => hG.ck.notElem (by decide) hk
            | 10, _ => exact trivial
            | 11, _ => exact trivial
            | 12, _ => exact trivial
            | 13, _ => exact trivial
            | j + 14, _ => exact absurd hl (by simp)
          · intro done a w1 K hd hcl hsl hot hdep hG hK
            have e7 : a.tmps[7]?.getD undef = .pointer (some ⟨g3, 0, none⟩) := hot 7 rfl
            clear hcl hsl hot hdep
            go_simp
            exact hK _ _ rfl (by simpa [dn] using hG) (fun _ _ _ _ h => h)
          · intro done a w1 K hd hcl hsl hot hdep hG hK
            have e66 : a.tmps[66]?.getD undef = .pointer (some ⟨g3, 6, none⟩) := hsl 5 66 rfl (hdep 5 rfl)
            have n13 : done 13 = false := by
              cases h : done 13 with
              | false => rfl
              | true => have := hcl 13 6 rfl h; rw [hd] at this; cases this
            obtain ⟨k', l', hb, -, h2⟩ := hG.b
            rw [n13] at h2
            obtain rfl : l' = lv := h2
            have c6 : w1.cell? ⟨g3, 6, none⟩ = some l' := hb.cell 6
            clear hcl hsl hot hdep
            go_simp
            exact hK _ _ rfl (by simpa [dn] using hG) (fun _ _ _ _ h => h)
          · intro done a w1 K hd hcl hsl hot hdep hG hK
            have e5 : a.tmps[5]?.getD undef = .pointer (some ⟨g1, 0, none⟩) := hot 5 rfl
            have hb1 : Blk w1 g1 (cells7 vk vb vi vf vt vkv vlv) 26 := (hG.bs _ M1.out).1
            refine if_wanted rfl ?_
            refine wp_loadAgg agg26 rfl (by simpa [Act.eval] using e5) hb1.cells rfl ?_
            exact hK _ _ rfl (by simpa [dn] using hG) (fun _ _ _ _ h => h)
          · intro done a w1 K hd hcl hsl hot hdep hG hK
            have e68 : a.tmps[68]?.getD undef = .agg (cells7 vk vb vi vf vt vkv vlv).toArray := hsl 7 68 rfl (hdep 7 rfl)
            clear hcl hsl hot hdep
            unfold cells7 at e68
            go_simp
            refine hK _ _ ⟨_, rfl, hG.hlo, Blk.new _ (cells7 vk vb vi vf vt vkv vlv) _⟩ (by simpa [dn] using hG.chgNo ((Chg.refl _ _).alloc _)) (fun _ _ _ _ h => h.keepNo ((Chg.refl _ _).alloc _))
          · intro done a w1 K hd hcl hsl hot hdep hG hK
            have e67 : a.tmps[67]?.getD undef = lv := hsl 6 67 rfl (hdep 6 rfl)
            obtain ⟨t, e69, hlt, hbt⟩ := hsl 8 69 rfl (hdep 8 rfl)
            have n11 : done 11 = false := by
              cases h : done 11 with
              | false => rfl
              | true => have := hcl 11 9 rfl h; rw [hd] at this; cases this
            have n13 : done 13 = false := by
              cases h : done 13 with
              | false => rfl
              | true => have := hcl 13 9 rfl h; rw [hd] at this; cases this
            rw [n11, n13] at hG
            refine if_wanted rfl ?_
            refine wp_appendRows elem24 rfl (by simpa [Act.eval] using e67) hG.cl (by simpa [Act.eval] using e69) (hbt.row1 rfl) (by intro r hr; obtain rfl := List.mem_singleton.1 hr; exact HV.out.one) (by simp only [List.length_singleton]; have := hlen2; have := HI.out.rv.1; omega) (by decide) (Nat.le_trans hG.bb hG.hlo) fun v' w' hO hC hB hOld => ?_
            have hC2 := hG.ck.chg hC (fun k hk hk2 => hG.cl.apart hG.ck (by decide) hk2 hk)
            refine hK v' w' hO (by simpa [dn, n11, n13] using hG.app hC (fun k hk => (hG.cl.elem hk).1) hC2 hOld) ?_
            refine fun j hj _ u hu => hu.keep hC (safe_of (i := 9) (fun j hl hj => ?_) j hj)
            match j, hj with
            | 0, _ => exact trivial
            | 1, _ => exact trivial
            | 2, _ => exact trivial
            | 3, _ => exact fun k hk => hG.llo k hk
            | 4, _ => exact fun k hk _ => hG.cl.notElem (by decide) hk
            | 5, _ => exact trivial
            | 6, _ => exact trivial
            | 7, _ => exact trivial
            | 8, _ => exact fun k hk => hG.llo k hk
            | 9, hj => exact absurd rfl hj
            | 10, _ => exact trivial
            | 11, _ => exact trivial
            | 12, _ => exact trivial
            | 13, _ => exact trivial
            | j + 14, _ => exact absurd hl (by simp)
          · intro done a w1 K hd hcl hsl hot hdep hG hK
            have e7 : a.tmps[7]?.getD undef = .pointer (some ⟨g3, 0, none⟩) := hot 7 rfl
            clear hcl hsl hot hdep
            go_simp
            exact hK _ _ rfl (by simpa [dn] using hG) (fun _ _ _ _ h => h)
          · intro done a w1 K hd hcl hsl hot hdep hG hK
            have e71 : a.tmps[71]?.getD undef = .pointer (some ⟨g3, 5, none⟩) := hsl 10 71 rfl (hdep 10 rfl)
            have hO := hsl 4 65 rfl (hdep 4 rfl)
            obtain ⟨sa, sn, sc, hv⟩ := OwnR.slice hO
            rw [hd] at hG
            obtain ⟨k', l', hb, -, -⟩ := hG.b
            have c5 : w1.cell? ⟨g3, 5, none⟩ = some k' := hb.cell 5
            have f5 : w1.frozen? ⟨g3, 5, none⟩ = false := hb.frozen 5
            change OwnR _ _ _ _ _ _ at hO
            rw [hv] at hO
            have e65 := hv
            obtain ⟨hG2, hC⟩ := hG.store5 hO
            have HK2 := Lib.hid hG2
            have HC2 := Lib.hid hC
            have hgb := hG.gb
            have hgl := Nat.lt_of_lt_of_le hG.gb hG.bb
            clear hcl hsl hot hdep
            clear hv hG hO hG2 hC
            go_simp
            refine hK undef _ trivial (by simpa [dn] using HK2.out) ?_
            have hC := HC2.out
            refine fun j hj _ u hu => hu.keep hC (safe_of (i := 11) (fun j hl hj => ?_) j hj)
            match j, hj with
            | 0, _ => exact trivial
            | 1, _ => exact trivial
            | 2, _ => exact trivial
            | 3, _ => exact fun k hk => by omega
            | 4, _ => exact fun k hk hb => by omega
            | 5, _ => exact trivial
            | 6, _ => exact trivial
            | 7, _ => exact trivial
            | 8, _ => exact fun k hk => by omega
            | 9, _ => exact fun k hk hb => by omega
            | 10, _ => exact trivial
            | 11, hj => exact absurd rfl hj
            | 12, _ => exact trivial
            | 13, _ => exact trivial
            | j + 14, _ => exact absurd hl (by simp)
          · intro done a w1 K hd hcl hsl hot hdep hG hK
            have e7 : a.tmps[7]?.getD undef = .pointer (some ⟨g3, 0, none⟩) := hot 7 rfl
            clear hcl hsl hot hdep
            go_simp
            exact hK _ _ rfl (by simpa [dn] using hG) (fun _ _ _ _ h => h)
          · intro done a w1 K hd hcl hsl hot hdep hG hK
            have e72 : a.tmps[72]?.getD undef = .pointer (some ⟨g3, 6, none⟩) := hsl 12 72 rfl (hdep 12 rfl)
            have hO := hsl 9 70 rfl (hdep 9 rfl)
            obtain ⟨sa, sn, sc, hv⟩ := OwnR.slice hO
            rw [hd] at hG
            obtain ⟨k', l', hb, -, -⟩ := hG.b
            have c5 : w1.cell? ⟨g3, 6, none⟩ = some l' := hb.cell 6
            have f5 : w1.frozen? ⟨g3, 6, none⟩ = false := hb.frozen 6
            change OwnR _ _ _ _ _ _ at hO
            rw [hv] at hO
            have e70 := hv
            obtain ⟨hG2, hC⟩ := hG.store6 hO
            have HK2 := Lib.hid hG2
            have HC2 := Lib.hid hC
            have hgb := hG.gb
            have hgl := Nat.lt_of_lt_of_le hG.gb hG.bb
            clear hcl hsl hot hdep
            clear hv hG hO hG2 hC
            go_simp
            refine hK undef _ trivial (by simpa [dn] using HK2.out) ?_
            have hC := HC2.out
            refine fun j hj _ u hu => hu.keep hC (safe_of (i := 13) (fun j hl hj => ?_) j hj)
            match j, hj with
            | 0, _ => exact trivial
            | 1, _ => exact trivial
            | 2, _ => exact trivial
            | 3, _ => exact fun k hk => by omega
            | 4, _ => exact fun k hk hb => by omega
            | 5, _ => exact trivial
            | 6, _ => exact trivial
            | 7, _ => exact trivial
            | 8, _ => exact fun k hk => by omega
            | 9, _ => exact fun k hk hb => by omega
            | 10, _ => exact trivial
            | 11, _ => exact trivial
            | 12, _ => exact trivial
            | 13, hj => exact absurd rfl hj
            | j + 14, _ => exact absurd hl (by simp)
        · intro vs w2 hvs _ hG
          obtain ⟨k7, l7, h7⟩ := OutMid.out hG HI.out.rv HV.out
          have HI7 := Lib.hid h7
          clear h7 hG hvs
          simp only [putAll, Act.put, List.setIfInBounds_toArray, List.set_cons_succ, List.set_cons_zero]
          have hb3 := HI7.out.b
          have hb2 := (HI7.out.bs _ M2.out).1
          have ho1 := cells7_one (k := 7) (b := false) (i := 0) (f := 0) (t := ByteArray.empty) HI7.out.ck.rowAt.one HI7.out.cl.rowAt.one
          go_wp2_with (first | (refine wpList_loadAgg rfl agg26 rfl rfl hb3.cells rfl ?_) | (refine wpList_storeBlk rfl agg26 rfl rfl rfl hb2 rfl rfl ho1 ?_; intro w4 hb4 hc4 hs4))
          obtain ⟨hval, hch⟩ := HI7.out.done hc4 (by rw [HG2.out]; omega) (by rw [HG2.out, HG3.out]; omega)
          refine bodyPost_ret (results_blk rfl agg26 rfl hb4 rfl) rfl ⟨_, rfl, ?_, hch⟩
          rw [← HACC.out]
          exact hval

end Go.Proofs.YtljaoopfomcaoaaGreatDoor
