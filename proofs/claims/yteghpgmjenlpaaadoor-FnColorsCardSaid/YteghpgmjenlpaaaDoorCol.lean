/-
  color.NewSimpleColor, laws.close, impl.ColorNumber: the walks.
-/
import Derived.Test.YteghpgmjenlpaaaDoorRows
import Derived.Test.YteghpgmjenlpaaaDoorBy
import Derived.Test.YteghpgmjenlpaaaDoorFlSem
import Derived.WalkKit
import Derived.BigCall
import Derived.BigGuard
import Derived.Below
import Derived.BigQuiet
import Derived.BigGuardPart
import Derived.Deep.QuietTactic
import Derived.Lib.Hide
import Derived.Laws.Pointers
import Derived.Laws.Externs

import Derived.Laws.BitsAll
import Derived.Laws.ShiftsVar
namespace Go.Proofs.YteghpgmjenlpaaaDoor.col
open Go.RowKit

theorem u32_32 : (Tryd.prog.underlying 22).isSome = true := by rw [Tryd.underlying22]; rfl

theorem and255 (n : Int) (h0 : 0 ≤ n) (h1 : n < 4294967296) : bits .and .u32 n 255 = ((n.toNat % 256 : Nat) : Int) := by
  rw [u32_and _ _ h0 h1 (by decide) (by decide)]
  rw [show (255 : Int).toNat = 2 ^ 8 - 1 from rfl, Nat.and_two_pow_sub_one_eq_mod]

theorem new7 (r g b : Nat) (hr : r < 256) (hg : g < 256) (hb : b < 256) (w : World) :
    Calls Tryd.prog 7 #[.int .u32 ((r * 65536 + g * 256 + b : Nat) : Int)] w fun e w' => e = .returned (.agg #[.float .f32 (By.q r), .float .f32 (By.q g), .float .f32 (By.q b)]) ∧ Below w.heap.size w w' := by
  have e1 : bits .and .u32 (((r * 65536 + g * 256 + b : Nat) : Int) / 65536) 255 = (r : Int) := by rw [and255 _ (by omega) (by omega)]; omega
  have e2 : bits .and .u32 (((r * 65536 + g * 256 + b : Nat) : Int) / 256) 255 = (g : Int) := by rw [and255 _ (by omega) (by omega)]; omega
  have e3 : bits .and .u32 (((r * 65536 + g * 256 + b : Nat) : Int)) 255 = (b : Int) := by rw [and255 _ (by omega) (by omega)]; omega
  have n0 : (0 : Int) ≤ ((r * 65536 + g * 256 + b : Nat) : Int) := by omega
  have n1 : ((r * 65536 + g * 256 + b : Nat) : Int) ≤ 4294967295 := by omega
  generalize ((r * 65536 + g * 256 + b : Nat) : Int) = n at e1 e2 e3 n0 n1 ⊢
  have k1 := fun t w => run_float_arith (P := Tryd.prog) w .quo t .f32 _ _ _ (By.quo r hr)
  have k2 := fun t w => run_float_arith (P := Tryd.prog) w .quo t .f32 _ _ _ (By.quo g hg)
  have k3 := fun t w => run_float_arith (P := Tryd.prog) w .quo t .f32 _ _ _ (By.quo b hb)
  go_enter Tryd.func7, Tryd.ntmps7
  go_wp2
  refine bodyPost_ret (v := .agg #[.float .f32 (By.q r), .float .f32 (By.q g), .float .f32 (By.q b)]) (by simp [results, Tryd.results7, go_sem]) rfl ⟨rfl, ?_⟩
  exact (Below.refl _ _).alloc (Nat.le_refl _) _

theorem bits19 (x : Nat) (w : World) : Sem.run Tryd.prog (callFunc 19 #[.float .f64 x]) w = .ok (.value (.int .u64 (x : Int))) w := by
  rw [run_callFunc_extern Tryd.func19 (by kernel_rfl) (by kernel_rfl) (by kernel_rfl) (e := Extern.MathFloatBits.float64bits) (by kernel_rfl)]
  rfl
theorem from18 (x : Nat) (w : World) : Sem.run Tryd.prog (callFunc 18 #[.int .u64 (x : Int)]) w = .ok (.value (.float .f64 x)) w := by
  rw [run_callFunc_extern Tryd.func18 (by kernel_rfl) (by kernel_rfl) (by kernel_rfl) (e := Extern.MathFloatBits.float64frombits) (by kernel_rfl)]
  rfl

set_option maxRecDepth 100000 in
theorem abs11 (x : Nat) (hx : x < 18446744073709551616) (w : World) :
    Calls Tryd.prog 11 #[.float .f64 x] w fun e w' => e = .returned (.float .f64 (x &&& 9223372036854775807)) ∧ w = w' := by
  have e1 : bits .andNot .u64 (x : Int) 9223372036854775808 = ((x &&& 9223372036854775807 : Nat) : Int) := by
    rw [u64_andNot _ _ (by omega) (by omega) (by decide) (by decide)]
    rw [Int.toNat_natCast, show (18446744073709551615 - Int.toNat 9223372036854775808) = 9223372036854775807 from rfl]
  go_enter Tryd.func11, Tryd.ntmps11
  go_wp2
  rw [bits19]
  rw [Oper.upon_value]
  go_wp2
  rw [from18]
  rw [Oper.upon_value]
  go_wp2
  go_ret
  exact ⟨rfl, rfl⟩

theorem close6 (b : Nat) (hb : b < 256) (w : World) :
    Calls Tryd.prog 6 #[.float .f64 (By.d b), .int .u32 (b : Int)] w fun e w' => e = .returned (.bool true) ∧ w = w' := by
  have k1 := fun t w => run_float_arith (P := Tryd.prog) w .mul t .f64 _ _ _ (By.mul b hb)
  have k2 := fun t w => run_float_arith (P := Tryd.prog) w .sub t .f64 _ _ _ (By.sub b hb)
  have c1 := Lib.hid fun w => abs11 (By.s b) (By.fits b hb) w
  have k3 : (FloatKind.f64.format.order (By.s b &&& 9223372036854775807) 4562254508917369340 == some .lt) = true := By.less b hb
  go_enter Tryd.func6, Tryd.ntmps6
  go_wp2_with (go_at_call 11; refine (c1.out _).mono ?_; rintro e w1 ⟨rfl, rfl⟩)
  go_ret
  exact ⟨rfl, rfl⟩

theorem number4 (r g b : Nat) (hr : r < 256) (hg : g < 256) (hb : b < 256) (w : World) :
    Calls Tryd.prog 4 #[.int .u32 ((r * 65536 + g * 256 + b : Nat) : Int)] w fun e w' => e = .returned (.tuple #[.float .f64 (By.d r), .float .f64 (By.d g), .float .f64 (By.d b)]) ∧ Below w.heap.size w w' := by
  have c1 := Lib.hid fun w => new7 r g b hr hg hb w
  generalize ((r * 65536 + g * 256 + b : Nat) : Int) = n at c1 ⊢
  have k1 := fun w => run_convert_float_float (P := Tryd.prog) (w := w) 31 23 .f32 .f64 _ _ (by rw [Tryd.underlying31]; rfl) Tryd.underlying23 (By.wide r hr)
  have k2 := fun w => run_convert_float_float (P := Tryd.prog) (w := w) 31 23 .f32 .f64 _ _ (by rw [Tryd.underlying31]; rfl) Tryd.underlying23 (By.wide g hg)
  have k3 := fun w => run_convert_float_float (P := Tryd.prog) (w := w) 31 23 .f32 .f64 _ _ (by rw [Tryd.underlying31]; rfl) Tryd.underlying23 (By.wide b hb)
  go_enter Tryd.func4, Tryd.ntmps4
  go_wp2_with (go_at_call 7; refine (c1.out _).mono ?_; rintro e w1 ⟨rfl, hb1⟩)
  go_quiet (fail)
  go_wp2
  refine bodyPost_ret (v := .tuple #[.float .f64 (By.d r), .float .f64 (By.d g), .float .f64 (By.d b)]) (by simp [results, Tryd.results4, go_sem]) rfl ⟨rfl, ?_⟩
  have hx := hb1.alloc hb1.size (.cells #[.float .f32 (By.q r), .float .f32 (By.q g), .float .f32 (By.q b)] 33)
  exact ⟨hx.os, hx.tape, hx.output, hx.size, hx.block⟩
end Go.Proofs.YteghpgmjenlpaaaDoor.col
