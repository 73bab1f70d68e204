/-
  Closed facts on this program: composite literals of impl.Value.
-/
import Derived.Test.YtljaoopfomcaoaaGreatDoorOq
import Derived.KernelRfl
set_option linter.unusedVariables false
set_option linter.unusedSimpArgs false
namespace Go.Proofs.YtljaoopfomcaoaaGreatDoor
open Go.RowKit

@[go_sem] theorem run_store_float {P : Program} {w : World} {a : Addr} {m : Mode} (k : FloatKind) (n : Nat) : (store a (.float k n) m).run P w = stored P w a (.float k n) m := run_store P w a _ m rfl

theorem build26_0 (w : World) : (Instr.build 26 #[]).run Tryz.prog w = .ok (.agg zero7.toArray) w := by kernel_rfl
theorem build26_k (k : Int) (w : World) : (Instr.build 26 #[(0, .int .i64 k)]).run Tryz.prog w = .ok (.agg (cells7 k false 0 0 ByteArray.empty (.slice none 0 0) (.slice none 0 0)).toArray) w := by kernel_rfl
theorem build26_b (k : Int) (b : Bool) (w : World) : (Instr.build 26 #[(0, .int .i64 k), (1, .bool b)]).run Tryz.prog w = .ok (.agg (cells7 k b 0 0 ByteArray.empty (.slice none 0 0) (.slice none 0 0)).toArray) w := by kernel_rfl
theorem build26_i (k i : Int) (w : World) : (Instr.build 26 #[(0, .int .i64 k), (2, .int .i64 i)]).run Tryz.prog w = .ok (.agg (cells7 k false i 0 ByteArray.empty (.slice none 0 0) (.slice none 0 0)).toArray) w := by kernel_rfl
theorem build26_f (k : Int) (f : Nat) (w : World) : (Instr.build 26 #[(0, .int .i64 k), (3, .float .f64 f)]).run Tryz.prog w = .ok (.agg (cells7 k false 0 f ByteArray.empty (.slice none 0 0) (.slice none 0 0)).toArray) w := by kernel_rfl
theorem build26_t (k : Int) (t : K) (w : World) : (Instr.build 26 #[(0, .int .i64 k), (4, .string t)]).run Tryz.prog w = .ok (.agg (cells7 k false 0 0 t (.slice none 0 0) (.slice none 0 0)).toArray) w := by kernel_rfl
theorem build26_kl (k : Int) (a b : Option Addr) (n m c d : Nat) (w : World) : (Instr.build 26 #[(0, .int .i64 k), (5, .slice a n c), (6, .slice b m d)]).run Tryz.prog w = .ok (.agg (cells7 k false 0 0 ByteArray.empty (.slice a n c) (.slice b m d)).toArray) w := by kernel_rfl

end Go.Proofs.YtljaoopfomcaoaaGreatDoor
