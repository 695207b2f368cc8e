/-
  impl.BestFit over whatever BestFitRectIntoRect gives.
-/
import Derived.Test.YtmaphdfhoddnmaaBst
namespace Go.Proofs.Ytmaphdfhoddnmaa
open Go.RowKit Fl

/-- BestFitRectIntoRect gives these five numbers. -/
def Gives (a b c d a' b' c' d' : Nat) (up : Bool) (p q r s t : Nat) : Prop := ∀ (g k : Nat) (w : World), IsRect w g a b c d → IsRect w k a' b' c' d' →
  Calls Try.prog 35 #[.pointer (some ⟨g, 0, none⟩), .pointer (some ⟨k, 0, none⟩), .bool false, .bool up] w fun e w' => e = .returned (.tuple #[.float .f64 p, .float .f64 q, .float .f64 r, .float .f64 s, .float .f64 t]) ∧ Below w.heap.size w w'

set_option maxHeartbeats 4000000 in
theorem implBest (a b c d a' b' c' d' : Nat) (up : Bool) (p q r s t : Nat) (H : Gives a b c d a' b' c' d' up p q r s t) (w : World) :
    Calls Try.prog 22 #[rv a b c d, rv a' b' c' d', .bool false, .bool up] w fun e w' => e = .returned (.tuple #[.float .f64 p, .float .f64 q, .float .f64 r, .float .f64 s, .float .f64 t]) ∧ Below w.heap.size w w' := by
  have HF := Lib.hid H
  clear H
  go_enter Try.func22, Try.ntmps22
  go_wp2_with fail
  go_region_with (first
    | (go_at_call 29; ((with_reducible refine (rectangle a b c d _).mono ?_); rintro e w1 ⟨rfl, rfl⟩))
    | (go_at_call 29; ((with_reducible refine (rectangle a' b' c' d' _).mono ?_); rintro e w1 ⟨rfl, rfl⟩))
    | (go_at_call 35; refine (HF.out _ _ _ ?_ ?_).mono ?_; exact ⟨by simp [go_sem], by simp [go_sem], by simp [go_sem], by simp [go_sem]⟩; exact ⟨by simp [go_sem], by simp [go_sem], by simp [go_sem], by simp [go_sem]⟩; rintro e w1 ⟨rfl, hb1⟩))
  all_goals
    go_wp2
    refine bodyPost_ret (v := .tuple #[.float .f64 p, .float .f64 q, .float .f64 r, .float .f64 s, .float .f64 t]) (by simp [results, Try.results22, go_sem]) rfl ⟨rfl, ?_⟩
    refine thenC ?_ hb1
    repeat' (first | exact Below.refl _ _ | refine Below.drew ?_ | refine Below.alloc ?_ ?_ _ | (simp; done) | (simp; omega))
end Go.Proofs.Ytmaphdfhoddnmaa
