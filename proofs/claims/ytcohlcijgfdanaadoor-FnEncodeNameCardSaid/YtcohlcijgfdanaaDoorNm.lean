/-
  FnEncodeName: small contracts: what needs a hexadecimal sequence, what is regular, what a hexadecimal digit is worth, what can be a name.
-/
import Derived.Test.YtcohlcijgfdanaaDoorRows
import Derived.Test.YtcohlcijgfdanaaDoorNmp
import Derived.WalkKit
import Derived.BigCall
import Derived.BigGuard
import Derived.Below
import Derived.Lib.Hide
import Derived.Lib.Strings
namespace Go.Proofs.YtcohlcijgfdanaaDoor
open Go.RowKit

theorem ret_b {a b : Bool} (h : a = b) : Ending.returned (.bool a) = .returned (.bool b) := by rw [h]
theorem ret_i {a b : Int} (h : a = b) : Ending.returned (.int .i64 a) = .returned (.int .i64 b) := by rw [h]

set_option maxHeartbeats 2000000 in
theorem needsHex (c : Nat) (hc : c < 256) (w : World) : Calls Tryd.prog 52 #[.int .u8 c] w fun e w' => e = .returned (.bool (needs c)) ∧ w = w' := by
  go_enter Tryd.func52, Tryd.ntmps52
  go_wp2
  all_goals
    go_ret
    refine ⟨ret_b ?_, rfl⟩
    simp [needs] at *
    try omega
    try (rw [Bool.eq_iff_iff]; simp; omega)

set_option maxHeartbeats 2000000 in
theorem white (c : Nat) (hc : c < 256) (w : World) : Calls Tryd.prog 30 #[.int .u8 c] w fun e w' => e = .returned (.bool (c == 0 || c == 9 || c == 10 || c == 12 || c == 13 || c == 32)) ∧ w = w' := by
  go_enter Tryd.func30, Tryd.ntmps30
  go_wp2
  all_goals
    go_ret
    refine ⟨ret_b ?_, rfl⟩
    simp [needs] at *
    try omega
    try (rw [Bool.eq_iff_iff]; simp; omega)
set_option maxHeartbeats 2000000 in
theorem delim (c : Nat) (hc : c < 256) (w : World) : Calls Tryd.prog 31 #[.int .u8 c] w fun e w' => e = .returned (.bool (c == 40 || c == 41 || c == 60 || c == 62 || c == 91 || c == 93 || c == 123 || c == 125 || c == 47 || c == 37)) ∧ w = w' := by
  go_enter Tryd.func31, Tryd.ntmps31
  go_wp2
  all_goals
    go_ret
    refine ⟨ret_b ?_, rfl⟩
    simp [needs] at *
    try omega
    try (rw [Bool.eq_iff_iff]; simp; omega)
set_option maxHeartbeats 2000000 in
theorem regularGood (c : Nat) (hc : c < 256) (hg : good c = true) (w : World) : Calls Tryd.prog 11 #[.int .u8 c] w fun e w' => e = .returned (.bool true) ∧ w = w' := by
  have h1 : (c == 0 || c == 9 || c == 10 || c == 12 || c == 13 || c == 32) = false := by
    simp only [good, Bool.and_eq_true, decide_eq_true_eq] at hg
    simp only [Bool.or_eq_false_iff, beq_eq_false_iff_ne]
    omega
  have h2 : (c == 40 || c == 41 || c == 60 || c == 62 || c == 91 || c == 93 || c == 123 || c == 125 || c == 47 || c == 37) = false := by
    simp only [good, Bool.and_eq_true, Bool.not_eq_true'] at hg
    exact hg.2
  have c1 := white c hc
  have c2 := delim c hc
  rw [h1] at c1
  rw [h2] at c2
  have C1 := Lib.hid c1
  have C2 := Lib.hid c2
  clear c1 c2 h1 h2
  go_enter Tryd.func11, Tryd.ntmps11
  go_wp2_with (first
    | (go_at_call 30; refine (C1.out _).mono ?_; rintro e w' ⟨rfl, rfl⟩)
    | (go_at_call 31; refine (C2.out _).mono ?_; rintro e w' ⟨rfl, rfl⟩))
  go_ret
  exact ⟨rfl, rfl⟩
set_option maxHeartbeats 2000000 in
theorem hexc (c : Nat) (hc : c < 256) (w : World) : Calls Tryd.prog 32 #[.int .u8 c] w fun e w' => e = .returned (.int .i64 (hexd c)) ∧ w = w' := by
  go_enter Tryd.func32, Tryd.ntmps32
  go_wp2
  all_goals
    go_ret
    refine ⟨ret_i ?_, rfl⟩
    unfold hexd
    repeat' split
    all_goals omega

/-- Can some bytes be those of a name. -/
def nameOk (l : List UInt8) : Bool := l.all fun c => c != 0

set_option maxHeartbeats 2000000 in
theorem nameable (s : ByteArray) (hbig : s.size ≤ 4096) (w : World) : Calls Tryd.prog 28 #[.string s] w fun e w' => e = .returned (.bool (nameOk s.data.toList)) ∧ w = w' := by
  obtain ⟨bs, hL⟩ : ∃ bs, bs = s.data.toList := ⟨_, rfl⟩
  have hLn : bs.length = s.size := by rw [hL, Lib.size_eq]
  have hget : ∀ k (h : k < s.size), s[k] = bs[k]'(by omega) := by
    intro k h
    subst hL
    simp
    rfl
  rw [← hL]
  clear hL
  go_enter Tryd.func28, Tryd.ntmps28
  go_wp2
  go_loop [3, 6] (fun _ vi => ∃ (k : Nat), vi = .int .i64 k ∧ k ≤ s.size ∧ Hid (nameOk bs = nameOk (bs.drop k)))
    (fun _ vi => s.size - (intOf vi).toNat)
  case atStart => exact ⟨0, rfl, by omega, rfl⟩
  case round =>
    obtain ⟨k, rfl, hk, hh⟩ := hrel
    have hdec := hh.out
    clear hh
    by_cases hkn : k < s.size
    · have hg := hget k hkn
      have hdrop : bs.drop k = bs[k]'(by omega) :: bs.drop (k + 1) := List.drop_eq_getElem_cons (by omega)
      rw [hdrop] at hdec
      generalize bs[k]'(by omega) = c at hg hdec
      have hc256 : c.toNat < 256 := c.toNat_lt
      clear hdrop hget
      by_cases h0 : c.toNat = 0
      · have hF : nameOk bs = false := by
          rw [hdec]
          have : c = 0 := by apply UInt8.toNat_inj.1; simpa using h0
          simp [nameOk, this]
        have HF := Lib.hid hF
        clear hdec hF
        go_wp2
        go_ret
        exact ⟨ret_b HF.out.symm, rfl⟩
      · have HN : Hid (nameOk bs = nameOk (bs.drop (k + 1))) := by
          refine Lib.hid ?_
          rw [hdec]
          have : c ≠ 0 := fun e => h0 (by rw [e]; rfl)
          simp [nameOk, this]
        clear hdec
        go_wp2
        refine ⟨⟨k + 1, (by first | rfl | (congr 1; omega)), by omega, HN⟩, by simp [intOf]; omega⟩
    · have hF : nameOk bs = true := by
        rw [hdec, List.drop_eq_nil_of_le (by omega)]
        rfl
      have hkk : k = s.size := by omega
      subst hkk
      have HF := Lib.hid hF
      clear hdec hF
      go_wp2
      go_ret
      exact ⟨ret_b HF.out.symm, rfl⟩
end Go.Proofs.YtcohlcijgfdanaaDoor
