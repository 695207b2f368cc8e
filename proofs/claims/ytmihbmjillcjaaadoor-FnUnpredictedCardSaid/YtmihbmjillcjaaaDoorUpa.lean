/-
  Package filter: safemath, predictorRowParams, decodeLimit, intMemberOf, validatePredictor, abs.
-/
import Derived.Test.YtmihbmjillcjaaaDoorRows
import Derived.Test.YtmihbmjillcjaaaDoorPre
import Derived.WalkKit
import Derived.WalkSpells
import Derived.BigCall
import Derived.BigGuard
import Derived.Below
import Derived.Lib.Hide
import Derived.Deep.QuietTactic
import Derived.BigQuiet
import Derived.LoopN
namespace Go.Proofs.YtmihbmjillcjaaaDoor.up
set_option linter.unusedVariables false
set_option linter.unusedSimpArgs false
open Go.RowKit

theorem mul32 (a b : Int) (h1 : 1 ≤ a) (h2 : a ≤ 100000) (h3 : 0 ≤ b) (h4 : b ≤ 100000) (w : World) :
    Calls Tryd.prog 32 #[.int .i64 a, .int .i64 b] w fun e w' => e = .returned (.tuple #[.int .i64 (a * b), .nilIface]) ∧ w = w' := by
  have hab : a * b ≤ 100000 * 100000 := Int.mul_le_mul h2 h4 h3 (by omega)
  have hab0 : 0 ≤ a * b := Int.mul_nonneg (by omega) h3
  have hq : ¬ (9223372036854775807 : Int) / a < b := by
    have := Int.le_ediv_of_mul_le (c := a) (a := b) (b := 9223372036854775807) (by omega) (by rw [Int.mul_comm]; omega)
    omega
  have ha0 : (a == 0) = false := by simp; omega
  have ha1 : (a != 0) = true := by simp; omega
  go_enter Tryd.func32, Tryd.ntmps32
  go_wp2_with fail
  go_ret2
  exact ⟨rfl, rfl⟩

theorem add33 (a b : Int) (h1 : 0 ≤ a) (h2 : a ≤ 10000000000) (h3 : 0 ≤ b) (h4 : b ≤ 100000) (w : World) :
    Calls Tryd.prog 33 #[.int .i64 a, .int .i64 b] w fun e w' => e = .returned (.tuple #[.int .i64 (a + b), .nilIface]) ∧ w = w' := by
  go_enter Tryd.func33, Tryd.ntmps33
  go_wp2_with fail
  go_ret2
  exact ⟨rfl, rfl⟩

theorem ret_i {k : IntKind} {a b : Int} (h : a = b) : Ending.returned (.int k a) = .returned (.int k b) := by rw [h]

set_option maxHeartbeats 1000000 in
theorem params25 (p colors bpc columns A B : Int) (hA : bpc * colors = A) (hB : A * columns = B) (h1 : 1 ≤ colors) (h2 : colors ≤ 8) (h3 : 1 ≤ bpc) (h4 : bpc ≤ 16) (h5 : 1 ≤ columns) (h6 : columns ≤ 1000) (h7 : 1 ≤ A) (h8 : A ≤ 128) (h9 : 1 ≤ B) (h10 : B ≤ 128000) (w : World) :
    Calls Tryd.prog 25 #[.int .i64 p, .int .i64 colors, .int .i64 bpc, .int .i64 columns] w fun e w' => e = .returned (.tuple #[.int .i64 ((B + 7) / 8), .int .i64 (if p = 2 then (B + 7) / 8 else (B + 7) / 8 + 1), .int .i64 ((A + 7) / 8), .nilIface]) ∧ w = w' := by
  have c1 := mul32 bpc colors h3 (by omega) (by omega) (by omega)
  have c2 := mul32 A columns h7 (by omega) (by omega) (by omega)
  rw [hA] at c1
  rw [hB] at c2
  have C1 := Lib.hid c1
  have C2 := Lib.hid c2
  clear c1 c2 hA hB
  by_cases hp : p = 2
  · subst hp
    go_enter Tryd.func25, Tryd.ntmps25
    go_wp2_with (first
      | (go_at_call 32; (with_reducible refine (C1.out _).mono ?_); rintro e w1 ⟨rfl, rfl⟩)
      | (go_at_call 32; (with_reducible refine (C2.out _).mono ?_); rintro e w1 ⟨rfl, rfl⟩)
      | (go_at_call 33; refine (add33 _ _ (by omega) (by omega) (by omega) (by omega) _).mono ?_; rintro e w1 ⟨rfl, rfl⟩))
    exact bodyPost_ret (v := .tuple #[.int .i64 ((B + 7) / 8), .int .i64 ((B + 7) / 8), .int .i64 ((A + 7) / 8), .nilIface]) (by simp [results, Tryd.results25, go_sem]) rfl ⟨rfl, rfl⟩
  · have hp2 : (p == 2) = false := by simpa using hp
    rw [if_neg hp]
    go_enter Tryd.func25, Tryd.ntmps25
    go_wp2_with (first
      | (go_at_call 32; (with_reducible refine (C1.out _).mono ?_); rintro e w1 ⟨rfl, rfl⟩)
      | (go_at_call 32; (with_reducible refine (C2.out _).mono ?_); rintro e w1 ⟨rfl, rfl⟩)
      | (go_at_call 33; refine (add33 _ _ (by omega) (by omega) (by omega) (by omega) _).mono ?_; rintro e w1 ⟨rfl, rfl⟩))
    exact bodyPost_ret (v := .tuple #[.int .i64 ((B + 7) / 8), .int .i64 ((B + 7) / 8 + 1), .int .i64 ((A + 7) / 8), .nilIface]) (by simp [results, Tryd.results25, go_sem]) rfl ⟨rfl, rfl⟩

theorem abs42 (n : Int) (h1 : -1000 ≤ n) (h2 : n ≤ 1000) (w : World) : Calls Tryd.prog 42 #[.int .i64 n] w fun e w' => e = .returned (.int .i64 (iabs n)) ∧ w = w' := by
  go_enter Tryd.func42, Tryd.ntmps42
  go_wp2_with fail
  go_ret
  refine ⟨ret_i ?_, rfl⟩
  have key : ∀ x : Fin 2001, wrap64 (bits BinOp.xor IntKind.i64 ((x.val : Int) - 1000) (((x.val : Int) - 1000) / 2147483648) - ((x.val : Int) - 1000) / 2147483648) = iabs ((x.val : Int) - 1000) := by decide +kernel
  have h := key ⟨(n + 1000).toNat, by omega⟩
  simp only at h
  rw [show (((n + 1000).toNat : Nat) : Int) - 1000 = n by omega] at h
  exact h

theorem abs30 (n : Int) (h1 : -1000 ≤ n) (h2 : n ≤ 1000) (w : World) : Calls Tryd.prog 30 #[.int .i64 n] w fun e w' => e = .returned (.int .i64 (iabs n)) ∧ w = w' := by
  by_cases h : 0 ≤ n
  · go_enter Tryd.func30, Tryd.ntmps30
    go_wp2_with fail
    all_goals
      go_ret
      exact ⟨ret_i (by unfold iabs; omega), rfl⟩
  · go_enter Tryd.func30, Tryd.ntmps30
    go_wp2_with fail
    all_goals
      go_ret
      exact ⟨ret_i (by unfold iabs; omega), rfl⟩

set_option maxHeartbeats 1000000 in
theorem member31 (x : Int) (zs : List Int) (hx : x ∈ zs) (hl : zs.length ≤ 100) (b : Nat) (w : World) (hc : ∀ (i : Nat) (z : Int), zs[i]? = some z → w.cell? ⟨b, i, none⟩ = some (.int .i64 z)) :
    Calls Tryd.prog 31 #[.int .i64 x, .slice (some ⟨b, 0, none⟩) zs.length zs.length] w fun e w' => e = .returned (.bool true) ∧ w = w' := by
  have HC := Lib.hid hc
  have HX := Lib.hid hx
  clear hc hx
  go_enter Tryd.func31, Tryd.ntmps31
  go_wp2_with fail
  go_loopw [9, 6] (fun i _ wr => ∃ k : Nat, i = .int .i64 (k : Int) ∧ k ≤ zs.length ∧ Hid (x ∉ zs.take k) ∧ w = wr) (fun i _ _ => zs.length - (intOf i).toNat)
  case atStart => exact ⟨0, rfl, by omega, Lib.hid (by simp), rfl⟩
  case round =>
    obtain ⟨k, rfl, hk, hno, rfl⟩ := hrel
    by_cases hkn : k < zs.length
    · obtain ⟨z, hz⟩ : ∃ z, zs[k]? = some z := ⟨_, List.getElem?_eq_getElem hkn⟩
      have hcell := HC.out k z hz
      have hki : (k : Int) < (zs.length : Int) := by omega
      have hnext : Hid (z ≠ x → x ∉ zs.take (k + 1)) := Lib.hid fun h hm => by
        obtain ⟨hk', rfl⟩ := List.getElem?_eq_some_iff.1 hz
        rw [List.take_succ_eq_append_getElem hk'] at hm
        rcases List.mem_append.1 hm with hm | hm
        · exact hno.out hm
        · exact h (List.mem_singleton.1 hm).symm
      clear hz
      by_cases hzx : z = x
      · subst hzx
        go_wp2_with fail
        go_ret
        exact ⟨rfl, rfl⟩
      · have hzx2 : (z == x) = false := by simpa using hzx
        have hn := Lib.hid (hnext.out hzx)
        clear hnext hzx
        go_wp2_with fail
        go_roundw
        case rel => exact ⟨k + 1, by go_num, by omega, hn, trivial⟩
        case measure => simp [intOf]; omega
    · exact absurd (by rw [List.take_of_length_le (by omega)] at hno; exact HX.out) (by have := hno.out; rw [List.take_of_length_le (by omega)] at this; exact this)
end Go.Proofs.YtmihbmjillcjaaaDoor.up
