/-
  The walk of FnTakesParms: it returns true for every string, and makes nothing.
-/
import Derived.Test.YtmaphdfhoddnmaaRows
import Derived.WalkKit
import Derived.WalkSpells
import Derived.WalkLawsBesides
import Derived.Outline
import Derived.Below
import Derived.BigQuiet
import Derived.BigGuardPart
import Derived.Deep.QuietTactic
namespace Go.Proofs.Ytmaphdfhoddnmaa
open Go.RowKit

def ccitt : List UInt8 := [67, 67, 73, 84, 84, 70, 97, 120, 68, 101, 99, 111, 100, 101]
def lzw : List UInt8 := [76, 90, 87, 68, 101, 99, 111, 100, 101]
def flate : List UInt8 := [70, 108, 97, 116, 101, 68, 101, 99, 111, 100, 101]
def supB (l : List UInt8) : Bool := l == ccitt || (l == lzw || l == flate)

theorem ret_bool {a b : Bool} (h : a = b) : Ending.returned (.bool a) = .returned (.bool b) := by rw [h]

set_option maxHeartbeats 400000 in
theorem supports (s : ByteArray) (w : World) : Calls Try.prog 24 #[.string s] w fun e w' => e = .returned (.bool (supB s.toList)) ∧ w = w' := by
  go_enter Try.func24, Try.ntmps24
  go_wp2
  all_goals
    go_ret
    refine ⟨ret_bool ?_, rfl⟩
    unfold supB ccitt lzw flate
    first
    | (simp [*]; done)
    | (have h1 := ‹¬ s.toList = [67, 67, 73, 84, 84, 70, 97, 120, 68, 101, 99, 111, 100, 101]›
       have h2 := ‹¬ s.toList = [76, 90, 87, 68, 101, 99, 111, 100, 101]›
       have g1 := beq_eq_false_iff_ne.2 h1
       have g2 := beq_eq_false_iff_ne.2 h2
       rw [g1, g2]
       rfl)

set_option maxHeartbeats 400000 in
theorem takes (s : ByteArray) (w : World) : Calls Try.prog 11 #[.string s] w fun e w' => e = .returned (.bool (supB s.toList)) ∧ w = w' := by
  go_enter Try.func11, Try.ntmps11
  go_wp2_with (go_at_call 24; refine (supports _ _).mono ?_; rintro e w' ⟨rfl, rfl⟩)
  go_ret
  exact ⟨rfl, rfl⟩

theorem beq_f {l m : List UInt8} (h : ¬ l = m) : (l == m) = false := by simpa using h
theorem beq_t {l m : List UInt8} (h : l = m) : (l == m) = true := by simpa using h
theorem sup_lzw : supB [76, 90, 87, 68, 101, 99, 111, 100, 101] = true := by decide

def jbig2 : List UInt8 := [74, 66, 73, 71, 50, 68, 101, 99, 111, 100, 101]
def dct : List UInt8 := [68, 67, 84, 68, 101, 99, 111, 100, 101]
def jpx : List UInt8 := [74, 80, 88, 68, 101, 99, 111, 100, 101]
def crypt : List UInt8 := [67, 114, 121, 112, 116]

set_option maxHeartbeats 1000000 in
theorem fnTakesParms_walk (s : ByteArray) (w : World) (_hs : s.size ≤ maxLen) : Calls Try.prog 3 #[.string s] w fun e w' => e = .returned (.bool true) ∧ Below w.heap.size w w' := by
  have L := sup_lzw
  by_cases hb : 2147483647 < (s.size : Int)
  · go_enter Try.func3, Try.ntmps3
    go_wp2_with (go_at_call 11; refine (takes _ _).mono ?_; rintro e w' ⟨rfl, rfl⟩)
    go_ret
    exact ⟨rfl, Below.refl _ _⟩
  by_cases e1 : s.toList = lzw
  · have S : supB s.toList = true := by rw [e1]; decide
    have h1 := beq_t e1
    unfold lzw at h1
    clear e1
    go_enter Try.func3, Try.ntmps3
    go_wp2_with (go_at_call 11; refine (takes _ _).mono ?_; rintro e w' ⟨rfl, rfl⟩)
    go_ret
    exact ⟨rfl, Below.refl _ _⟩
  by_cases e2 : s.toList = flate
  · have S : supB s.toList = true := by rw [e2]; decide
    have h1 := beq_f e1
    have h2 := beq_t e2
    unfold lzw at h1
    unfold flate at h2
    clear e1 e2
    go_enter Try.func3, Try.ntmps3
    go_wp2_with (go_at_call 11; refine (takes _ _).mono ?_; rintro e w' ⟨rfl, rfl⟩)
    go_ret
    exact ⟨rfl, Below.refl _ _⟩
  have h1 := beq_f e1
  have h2 := beq_f e2
  unfold lzw at h1
  unfold flate at h2
  by_cases e3 : s.toList = ccitt
  · have h3 := beq_t e3
    unfold ccitt at h3
    clear e1 e2 e3
    go_enter Try.func3, Try.ntmps3
    go_wp2_with (go_at_call 11; refine (takes _ _).mono ?_; rintro e w' ⟨rfl, rfl⟩)
    go_ret
    exact ⟨rfl, Below.refl _ _⟩
  have S : supB s.toList = false := by unfold supB; rw [beq_f e1, beq_f e2, beq_f e3]; rfl
  have h3 := beq_f e3
  unfold ccitt at h3
  clear e1 e2 e3
  by_cases e4 : s.toList = jbig2
  · have h4 := beq_t e4
    unfold jbig2 at h4
    clear e4
    go_enter Try.func3, Try.ntmps3
    go_wp2_with (go_at_call 11; refine (takes _ _).mono ?_; rintro e w' ⟨rfl, rfl⟩)
    go_ret
    exact ⟨rfl, Below.refl _ _⟩
  have h4 := beq_f e4
  unfold jbig2 at h4
  clear e4
  by_cases e5 : s.toList = dct
  · have h5 := beq_t e5
    unfold dct at h5
    clear e5
    go_enter Try.func3, Try.ntmps3
    go_wp2_with (go_at_call 11; refine (takes _ _).mono ?_; rintro e w' ⟨rfl, rfl⟩)
    go_ret
    exact ⟨rfl, Below.refl _ _⟩
  have h5 := beq_f e5
  unfold dct at h5
  clear e5
  by_cases e6 : s.toList = jpx
  · have h6 := beq_t e6
    unfold jpx at h6
    clear e6
    go_enter Try.func3, Try.ntmps3
    go_wp2_with (go_at_call 11; refine (takes _ _).mono ?_; rintro e w' ⟨rfl, rfl⟩)
    go_ret
    exact ⟨rfl, Below.refl _ _⟩
  have h6 := beq_f e6
  unfold jpx at h6
  clear e6
  by_cases e7 : s.toList = crypt
  · have h7 := beq_t e7
    unfold crypt at h7
    clear e7
    go_enter Try.func3, Try.ntmps3
    go_wp2_with (go_at_call 11; refine (takes _ _).mono ?_; rintro e w' ⟨rfl, rfl⟩)
    go_ret
    exact ⟨rfl, Below.refl _ _⟩
  have h7 := beq_f e7
  unfold crypt at h7
  clear e7
  go_enter Try.func3, Try.ntmps3
  go_wp2_with (go_at_call 11; refine (takes _ _).mono ?_; rintro e w' ⟨rfl, rfl⟩)
  go_ret
  exact ⟨rfl, Below.refl _ _⟩
end Go.Proofs.Ytmaphdfhoddnmaa
