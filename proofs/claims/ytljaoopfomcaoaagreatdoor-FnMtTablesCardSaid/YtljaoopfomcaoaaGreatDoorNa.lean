/-
  The walk of Names: the parts of a text.
-/
import Derived.Test.YtljaoopfomcaoaaGreatDoorVg
set_option linter.unusedVariables false
set_option linter.unusedSimpArgs false
namespace Go.Proofs.YtljaoopfomcaoaaGreatDoor
open Go.RowKit

/-- Is there a sign at a place, or the text's end? -/
def cutAt (s : K) (c : Nat) (i : Nat) : Bool := if h : i < s.size then s[i].toNat == c else true

/-- The parts of a text from place i on, the first one from 'b' on; k places are left. -/
def partsGo (s : K) (c : Nat) : Nat → Nat → Nat → List K
  | 0, _, _ => []
  | k + 1, i, b => if cutAt s c i then s.extract b i :: partsGo s c k (i + 1) (i + 1) else partsGo s c k (i + 1) b

def parts (s : K) (c : Nat) : List K := partsGo s c (s.size + 1) 0 0

theorem partsGo_length (s : K) (c : Nat) : ∀ k i b, (partsGo s c k i b).length ≤ k
  | 0, _, _ => Nat.le_refl _
  | k + 1, i, b => by
    unfold partsGo
    split
    · have := partsGo_length s c k (i + 1) (i + 1); simp only [List.length_cons]; omega
    · have := partsGo_length s c k (i + 1) b; omega

theorem partsGo_cut {s : K} {c n b : Nat} (hn : n ≤ s.size) (h : cutAt s c n = true) (acc : List K) : (acc ++ [s.extract b n]) ++ partsGo s c (s.size + 1 - (n + 1)) (n + 1) (n + 1) = acc ++ partsGo s c (s.size + 1 - n) n b := by
  rw [show s.size + 1 - n = (s.size + 1 - (n + 1)) + 1 by omega, partsGo, if_pos h]
  simp

theorem partsGo_on {s : K} {c n b : Nat} (hn : n ≤ s.size) (h : cutAt s c n = false) : partsGo s c (s.size + 1 - (n + 1)) (n + 1) b = partsGo s c (s.size + 1 - n) n b := by
  rw [show s.size + 1 - n = (s.size + 1 - (n + 1)) + 1 by omega, partsGo, if_neg (by rw [h]; decide)]

theorem OwnR.slice1 {w : World} {base e size : Nat} {v : Value} {rows : List (List Value)} (h : OwnR w base e size v rows) : ∃ a c, v = .slice a rows.length c := by
  obtain ⟨-, -, a, c, h, -⟩ := h.rowAt
  exact ⟨a, c, h⟩

/-- A key appended to an owned slice of keys. -/
theorem keys_app {w wr w6 : World} {v v' : Value} {acc : List K} {k : K} (hown : OwnR wr w.heap.size 9 1 v (kRows acc)) (hc : Chg No w wr) (h6 : Chg (fun b => v.ownBlock = some b) (wr.alloc (.cells #[.string k] 9)) w6)
    (hown' : OwnR w6 w.heap.size 9 1 v' (kRows acc ++ [[.string k]])) : OwnR w6 w.heap.size 9 1 v' (kRows (acc ++ [k])) ∧ Chg No w w6 := by
  refine ⟨by simpa [kRows] using hown', ?_⟩
  have h1 : Chg No w (wr.alloc (.cells #[.string k] 9)) := hc.alloc _
  exact h1.trans h6 (fun i hi e => by have := (hown.elem e).1; omega)

set_option maxRecDepth 100000 in
set_option maxHeartbeats 1000000 in
theorem names_any (s : K) (hs : s.size < 1099511627776) (w : World) :
    Calls Tryz.prog 77 #[.string s] w fun e w' => ∃ v, e = .returned v ∧ OwnR w' w.heap.size 9 1 v (kRows (parts s 46)) ∧ Chg No w w' := by
  have HS := Lib.hid hs
  go_enter Tryz.func77, Tryz.ntmps77
  go_wp2_with fail
  go_loopw [3, 4, 5] (fun v bt it wr => ∃ (acc : List K) (b n : Nat), bt = .int .i64 b ∧ it = .int .i64 n ∧ b ≤ n ∧ n ≤ s.size + 1 ∧ OwnR wr w.heap.size 9 1 v (kRows acc) ∧ acc.length ≤ n ∧ acc ++ partsGo s 46 (s.size + 1 - n) n b = parts s 46 ∧ Chg No w wr)
    (fun _ _ it _ => s.size + 1 - (intOf it).toNat)
  case atStart => exact ⟨[], 0, 0, rfl, rfl, Nat.le_refl _, Nat.zero_le _, OwnR.nil _ _ _ _, Nat.le_refl _, rfl, Chg.refl _ _⟩
  case round =>
    obtain ⟨acc, b, n, rfl, rfl, hbn, hn, hown, hal, hacc, hc⟩ := hrel
    obtain ⟨va, vc, rfl⟩ := hown.slice1
    have HACC := Lib.hid hacc
    have HC := Lib.hid hc
    have HAL := Lib.hid hal
    have HN := Lib.hid hn
    have hbs : w.heap.size ≤ wr.heap.size + 1 := by have := hc.size; omega
    have HOWN := Lib.hid hown
    clear hacc hc hal hn
    by_cases hlt : n ≤ s.size
    · have hnb : (kRows acc).length + 1 ≤ 1099511627776 := by have := HAL.out; have := HS.out; simp only [kRows, List.length_map]; omega
      by_cases heq : n = s.size
      · subst heq
        have hcut : cutAt s 46 s.size = true := by unfold cutAt; rw [dif_neg (Nat.lt_irrefl _)]
        have HCUT := Lib.hid hcut
        clear hcut
        have hll : (ByteArray.size s : Int) ≤ (ByteArray.size s : Int) := Int.le_refl _
        go_wp2_with (first | (at_builtin; refine wpList_appendRows rfl elem23 rfl rfl (hown.alloc _) rfl (RowAt.one1 wr [.string (ByteArray.extract s b s.size)] 9 1 rfl) (by simp [Value.oneCell']) hnb (by decide) (by simpa using hbs) ?_; intro v' w6 hown' hc6 hv' hold; go_frame))
        have HAPP := Lib.hid (keys_app HOWN.out HC.out hc6 hown')
        clear hown' hc6 hv' hold hown
        go_roundw
        case rel => exact ⟨acc ++ [s.extract b s.size], s.size + 1, s.size + 1, by go_num, by go_num, Nat.le_refl _, Nat.le_refl _, HAPP.out.1, (by have := HAL.out; simp; omega), (by rw [partsGo_cut (Nat.le_refl _) HCUT.out]; exact HACC.out), HAPP.out.2⟩
        case measure => simp [intOf]
      · have hlt2 : n < s.size := by omega
        have hne : ((n : Int) == (s.size : Int)) = false := by simp; omega
        by_cases hb : (s[n].toNat : Int) = 46
        · have hbb : ((s[n].toNat : Int) == 46) = true := by simpa using hb
          have HCUT := Lib.hid (show cutAt s 46 n = true by unfold cutAt; rw [dif_pos hlt2]; simp; omega)
          clear hb
          go_wp2_with (first | (at_builtin; refine wpList_appendRows rfl elem23 rfl rfl (hown.alloc _) rfl (RowAt.one1 wr [.string (ByteArray.extract s b n)] 9 1 rfl) (by simp [Value.oneCell']) hnb (by decide) (by simpa using hbs) ?_; intro v' w6 hown' hc6 hv' hold; go_frame))
          have HAPP := Lib.hid (keys_app HOWN.out HC.out hc6 hown')
          clear hown' hc6 hv' hold hown
          go_roundw
          case rel => exact ⟨acc ++ [s.extract b n], n + 1, n + 1, by go_num, by go_num, Nat.le_refl _, by omega, HAPP.out.1, (by have := HAL.out; simp; omega), (by rw [partsGo_cut hlt HCUT.out]; exact HACC.out), HAPP.out.2⟩
          case measure => simp [intOf]; omega
        · have hbb : ((s[n].toNat : Int) == 46) = false := by simpa using hb
          have HCUT := Lib.hid (show cutAt s 46 n = false by unfold cutAt; rw [dif_pos hlt2]; simp; omega)
          clear hb
          go_wp2_with fail
          go_roundw
          case rel => exact ⟨acc, b, n + 1, rfl, by go_num, by omega, by omega, HOWN.out, (by have := HAL.out; omega), (by rw [partsGo_on hlt HCUT.out]; exact HACC.out), HC.out⟩
          case measure => simp [intOf]; omega
    · have hn2 : n = s.size + 1 := by have := HN.out; omega
      have hll : ¬ (n : Int) ≤ (s.size : Int) := by omega
      go_wp2
      go_ret
      have h1 := HACC.out
      rw [hn2, Nat.sub_self, partsGo, List.append_nil] at h1
      rw [← h1]
      have h2 := HOWN.out
      simp only [kRows, List.length_map] at h2
      exact ⟨_, rfl, h2, HC.out⟩

end Go.Proofs.YtljaoopfomcaoaaGreatDoor
