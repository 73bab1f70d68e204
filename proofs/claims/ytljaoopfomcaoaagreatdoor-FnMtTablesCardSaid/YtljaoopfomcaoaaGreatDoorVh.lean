/-
  The walk of valueOf.
-/
import Derived.Test.YtljaoopfomcaoaaGreatDoorVg
set_option linter.unusedVariables false
set_option linter.unusedSimpArgs false
namespace Go.Proofs.YtljaoopfomcaoaaGreatDoor
open Go.RowKit

set_option maxRecDepth 100000 in
theorem valueOf_any (N : Nat) (hN : N < 1099511627776) {d : Nat} (hd : d ≤ 4001) {ok : Nat → Prop} {j : J} {v : Value} {w : World} (hv : AnyJ ok w v j) (wf : Wf N d j) :
    Calls Tryz.prog 59 #[v] w (ValPost w j) := by
  have hcall := valueIn_any N hN d (okB ok w) j v (w.alloc (.cells zero7.toArray 26)) 0 (hv.bel.chg ((Chg.refl No w).alloc _) (fun _ _ e => e)) wf (by omega)
  have HC := Lib.hid hcall
  have hb := Blk.new w zero7 26
  clear hcall hv wf
  go_enter Tryz.func59, Tryz.ntmps59
  go_wp2_with fail
  refine HC.out.mono ?_
  rintro e w1 ⟨cs, rfl, hj, hc⟩
  have hb1 := hb.chg hc id
  have hl := hj.length
  have ho := hj.one
  have HJ := Lib.hid hj
  clear hj
  go_wp2_with (first | (with_reducible refine wpList_storeBlk rfl agg26 rfl rfl rfl hb1 rfl hl ho ?_; intro w6 hb6 hc6 hs6))
  refine bodyPost_ret (results_blk rfl agg26 rfl hb6 hl) rfl ⟨_, rfl, ?_, (((Chg.refl No w).alloc _).trans' hc).trans hc6 (fun i hi e => absurd e (by omega))⟩
  refine ((HJ.out.chg hc6 (fun b hb e => ?_)).mono (fun b _ hb => ?_))
  · simp at hb; omega
  · simp at hb; omega

end Go.Proofs.YtljaoopfomcaoaaGreatDoor
