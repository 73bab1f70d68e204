/-
  A float less itself is nought only if it is like itself.
-/
import Derived.Test.YtljaoopfomcaoaaGreatDoorVn
set_option linter.unusedVariables false
set_option linter.unusedSimpArgs false
namespace Go.Proofs.YtljaoopfomcaoaaGreatDoor
open Go.RowKit

theorem nan_order (t : Nat) : FloatKind.f64.format.order ((t % 2) * 2 ^ 63 + 0x7ff0000000000000 + 1 + (t / 2) % (2 ^ 52 - 1)) 0 = none := by
  have hx : (t / 2) % (2 ^ 52 - 1) < 2 ^ 52 - 1 := Nat.mod_lt _ (by decide)
  generalize (t / 2) % (2 ^ 52 - 1) = x at hx
  have hs : t % 2 = 0 ∨ t % 2 = 1 := by omega
  have hr : ∃ s fr, FloatKind.f64.format.read ((t % 2) * 2 ^ 63 + 0x7ff0000000000000 + 1 + x) = .nan s fr := by
    unfold Ieee.Format.read
    have h1 : FloatKind.f64.format.signWeight = 2 ^ 63 := by decide
    have h2 : FloatKind.f64.format.infRung = 0x7ff0000000000000 := by decide
    have h3 : FloatKind.f64.format.binade = 2 ^ 52 := by decide
    rw [h1, h2, h3]
    have h4 : ((t % 2) * 2 ^ 63 + 0x7ff0000000000000 + 1 + x) % 2 ^ 63 = 0x7ff0000000000000 + 1 + x := by omega
    simp only [h4]
    rw [if_neg (by omega), if_neg (by omega), if_neg (by omega)]
    exact ⟨_, _, rfl⟩
  obtain ⟨s, fr, h⟩ := hr
  unfold Ieee.Format.order
  rw [h]
  rfl

theorem sub_fin {f r : Nat} (h : FloatKind.f64.format.sub f f = some r) : FinBits f := by
  unfold FinBits Ieee.Format.order
  unfold Ieee.Format.sub at h
  cases hd : FloatKind.f64.format.read f with
  | number s m p => simp [Ieee.Datum.order]
  | infinity s => simp [Ieee.Datum.order]
  | nan s m => rw [hd] at h; simp [Ieee.Datum.sum, Ieee.Datum.opposite] at h

theorem float_self (f : Nat) (w : World) : ∃ r w1, (Go.binOp BinOp.sub 22 (.float .f64 f) (.float .f64 f)).run Tryz.prog w = .ok (.float .f64 r) w1 ∧ (w1 = w ∨ w1 = w.drew) ∧ ((FloatKind.f64.format.order r 0 == some .eq) = true → FinBits f) := by
  have hb : (Go.binOp BinOp.sub 22 (.float .f64 f) (.float .f64 f)).run Tryz.prog w = (Go.Op.floatArith .sub .f64 f f).run Tryz.prog w := by kernel_rfl
  rw [hb]
  unfold Go.Op.floatArith
  cases hs : FloatKind.f64.format.sub f f with
  | some r => exact ⟨r, w, by simp [Sem.run_bind, Result.andThen, hs], .inl rfl, fun _ => sub_fin hs⟩
  | none =>
    refine ⟨(Question.nanBits .f64 f f).cut (w.tape w.drawn (Question.nanBits .f64 f f)), w.drew, ?_, .inr rfl, fun h => ?_⟩
    · simp [Sem.run_bind, Result.andThen, hs, Question.forced]
    · exfalso
      generalize w.tape w.drawn (Question.nanBits .f64 f f) = t at h
      have h2 : FloatKind.f64.format.order ((Question.nanBits .f64 f f).cut t) 0 = none := nan_order t
      rw [h2] at h
      cases h

end Go.Proofs.YtljaoopfomcaoaaGreatDoor
