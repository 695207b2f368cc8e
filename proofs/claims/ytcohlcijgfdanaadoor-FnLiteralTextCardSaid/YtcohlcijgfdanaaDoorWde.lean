/-
  utf16.RuneLen and utf16.EncodeRune at a code point.
-/
import Derived.Test.YtcohlcijgfdanaaDoorWdw
namespace Go.Proofs.YtcohlcijgfdanaaDoor.wd
open Go.RowKit

theorem i32_and_low (n : Nat) (h : n < 2147483648) : bits .and .i32 (n : Int) 1023 = ((n % 1024 : Nat) : Int) := by
  have h127 : (BitVec.ofInt 32 1023).toNat = 2 ^ 10 - 1 := by decide
  have key : (BitVec.ofInt 32 (n : Int) &&& BitVec.ofInt 32 1023).toNat = ((n : Int) % ((2 ^ 32 : Nat) : Int)).toNat % 2 ^ 10 := by
    rw [BitVec.toNat_and, BitVec.toNat_ofInt, h127, Nat.and_two_pow_sub_one_eq_mod]
  show IntKind.i32.wrap ((BitVec.ofInt 32 (n : Int) &&& BitVec.ofInt 32 1023).toNat : Nat) = _
  rw [key, IntKind.wrap_i32]
  omega

theorem len90_lo (d : Int) (h0 : 0 ≤ d) (h : d < 55296) (w : World) : Calls Tryd.prog 90 #[.int .i32 d] w fun e w' => e = .returned (.int .i64 1) ∧ w = w' := by
  go_enter Tryd.func90, Tryd.ntmps90
  go_wp2
  go_ret
  exact ⟨rfl, rfl⟩
theorem len90_mid (d : Int) (h0 : 57344 ≤ d) (h : d < 65536) (w : World) : Calls Tryd.prog 90 #[.int .i32 d] w fun e w' => e = .returned (.int .i64 1) ∧ w = w' := by
  go_enter Tryd.func90, Tryd.ntmps90
  go_wp2
  go_ret
  exact ⟨rfl, rfl⟩
theorem len90_hi (d : Int) (h0 : 65536 ≤ d) (h : d ≤ 1114111) (w : World) : Calls Tryd.prog 90 #[.int .i32 d] w fun e w' => e = .returned (.int .i64 2) ∧ w = w' := by
  go_enter Tryd.func90, Tryd.ntmps90
  go_wp2
  go_ret
  exact ⟨rfl, rfl⟩
theorem len90 (c : Nat) (hc : Scal c) (h : c < 65536) (w : World) : Calls Tryd.prog 90 #[.int .i32 (c : Int)] w fun e w' => e = .returned (.int .i64 1) ∧ w = w' := by
  rcases hc with h1 | h1
  · exact len90_lo c (by omega) (by omega) w
  · exact len90_mid c (by omega) (by omega) w

theorem enc91' (d x y : Int) (e1 : bits .and .i32 ((d - 65536) / 1024) 1023 = x) (e2 : bits .and .i32 (d - 65536) 1023 = y) (k0 : 65536 ≤ d) (k1 : d ≤ 1114111) (a0 : 0 ≤ x) (a1 : x ≤ 1023) (b0 : 0 ≤ y) (b1 : y ≤ 1023) (w : World) :
    Calls Tryd.prog 91 #[.int .i32 d] w fun e w' => e = .returned (.tuple #[.int .i32 (55296 + x), .int .i32 (56320 + y)]) ∧ w = w' := by
  go_enter Tryd.func91, Tryd.ntmps91
  go_wp2
  refine bodyPost_ret (v := .tuple #[.int .i32 (55296 + x), .int .i32 (56320 + y)]) (by simp [results, Tryd.results91, go_sem]) rfl ⟨rfl, rfl⟩

theorem enc91 (c : Nat) (h0 : 65536 ≤ (c : Int)) (h : (c : Int) ≤ 1114111) (w : World) :
    Calls Tryd.prog 91 #[.int .i32 (c : Int)] w fun e w' => e = .returned (.tuple #[.int .i32 ((55296 + (c - 65536) / 1024 : Nat) : Int), .int .i32 ((56320 + (c - 65536) % 1024 : Nat) : Int)]) ∧ w = w' := by
  have e1 : bits .and .i32 (((c : Int) - 65536) / 1024) 1023 = (((c - 65536) / 1024 : Nat) : Int) := by
    rw [show ((c : Int) - 65536) / 1024 = (((c - 65536) / 1024 : Nat) : Int) by omega, i32_and_low _ (by omega)]
    omega
  have e2 : bits .and .i32 ((c : Int) - 65536) 1023 = (((c - 65536) % 1024 : Nat) : Int) := by
    rw [show (c : Int) - 65536 = ((c - 65536 : Nat) : Int) by omega, i32_and_low _ (by omega)]
  have hk := enc91' c _ _ e1 e2 h0 h (by omega) (by omega) (by omega) (by omega) w
  rw [show ((55296 + (c - 65536) / 1024 : Nat) : Int) = 55296 + (((c - 65536) / 1024 : Nat) : Int) by omega, show ((56320 + (c - 65536) % 1024 : Nat) : Int) = 56320 + (((c - 65536) % 1024 : Nat) : Int) by omega]
  exact hk
end Go.Proofs.YtcohlcijgfdanaaDoor.wd
