/-
  The walk of FnBestFit: it returns true for every input.
-/
import Derived.Test.YtmaphdfhoddnmaaBfo
namespace Go.Proofs.Ytmaphdfhoddnmaa
open Go.RowKit Fl

/-- A difference in any case: a number, or a NaN whose bits the tape gives. -/
theorem sub_any (P : Program) (x y : Nat) : ∃ (f : World → Nat) (n : Nat), ∀ (t : TypeId) (w : World), (binOp .sub t (.float .f64 x) (.float .f64 y)).run P w = .ok (.float .f64 (f w)) (w.drewN n) := by
  cases h : floatBits .sub .f64 x y with
  | some r => exact ⟨fun _ => r, 0, fun t w => run_float_arith w .sub t .f64 _ _ _ h⟩
  | none =>
    have h : FloatKind.f64.format.sub x y = none := h
    by_cases hf : (Question.nanBits .f64 x y).forced = true
    · refine ⟨fun _ => 0, 0, fun t w => ?_⟩
      simp [binOp, Op.floatArith, h, hf]
      rfl
    · refine ⟨fun w => (Question.nanBits .f64 x y).cut (w.tape w.drawn (Question.nanBits .f64 x y)), 1, fun t w => ?_⟩
      simp [binOp, Op.floatArith, h, hf]
      rfl

set_option maxRecDepth 100000 in
set_option maxHeartbeats 4000000 in
theorem bestFit_far (a b c d a' b' c' d' : Nat) (up : Bool) (w : World) (HP1 : Hid (∀ w, Calls Try.prog 16 #[rv a b c d] w fun e w' => e = .returned (.bool false) ∧ Below w.heap.size w w')) :
    Calls Try.prog 10 #[rv a b c d, rv a' b' c' d', .bool up] w fun e w' => e = .returned (.bool true) ∧ Below w.heap.size w w' := by
  obtain ⟨f1, n1, k1⟩ := sub_any Try.prog c a
  obtain ⟨f2, n2, k2⟩ := sub_any Try.prog d b
  obtain ⟨f3, n3, k3⟩ := sub_any Try.prog c' a'
  obtain ⟨f4, n4, k4⟩ := sub_any Try.prog d' b'
  go_enter Try.func10, Try.ntmps10
  go_wp2_with fail
  go_region
  all_goals
    go_wp2_with fail
    go_region
  all_goals
    go_wp2_with fail
    refine (HP1.out _).mono ?_
    rintro e w1 ⟨rfl, hb⟩
    go_wp2
    go_ret
    refine ⟨rfl, thenC ?_ hb⟩
    repeat' (first | exact Below.refl _ _ | refine Below.drew ?_ | refine below_drewN ?_ _ | refine Below.alloc ?_ ?_ _ | (simp; done) | (simp; omega))

set_option maxRecDepth 100000 in
set_option maxHeartbeats 4000000 in
theorem bestFit_far2 (a b c d a' b' c' d' : Nat) (up : Bool) (w : World) (HP1 : Hid (∀ w, Calls Try.prog 16 #[rv a b c d] w fun e w' => e = .returned (.bool true) ∧ Below w.heap.size w w'))
    (HP2 : Hid (∀ w, Calls Try.prog 16 #[rv a' b' c' d'] w fun e w' => e = .returned (.bool false) ∧ Below w.heap.size w w')) :
    Calls Try.prog 10 #[rv a b c d, rv a' b' c' d', .bool up] w fun e w' => e = .returned (.bool true) ∧ Below w.heap.size w w' := by
  obtain ⟨f1, n1, k1⟩ := sub_any Try.prog c a
  obtain ⟨f2, n2, k2⟩ := sub_any Try.prog d b
  obtain ⟨f3, n3, k3⟩ := sub_any Try.prog c' a'
  obtain ⟨f4, n4, k4⟩ := sub_any Try.prog d' b'
  go_enter Try.func10, Try.ntmps10
  go_wp2_with fail
  go_region
  all_goals
    go_wp2_with fail
    go_region
  all_goals
    go_wp2_with fail
    refine (HP1.out _).mono ?_
    rintro e w1 ⟨rfl, hb⟩
    have z0 : w1.cell? ⟨w.heap.size + 1, 0, none⟩ = some (.float .f64 a') := keepC hb (by simp [go_sem])
    have z1 : w1.cell? ⟨w.heap.size + 1, 1, none⟩ = some (.float .f64 b') := keepC hb (by simp [go_sem])
    have z2 : w1.cell? ⟨w.heap.size + 1, 2, none⟩ = some (.float .f64 c') := keepC hb (by simp [go_sem])
    have z3 : w1.cell? ⟨w.heap.size + 1, 3, none⟩ = some (.float .f64 d') := keepC hb (by simp [go_sem])
    have HB1 : Hid (Below w.heap.size w w1) := by
      refine thenC ?_ hb
      repeat' (first | exact Below.refl _ _ | refine Below.drew ?_ | refine below_drewN ?_ _ | refine Below.alloc ?_ ?_ _ | (simp; done) | (simp; omega))
    clear hb
    go_wp2_with fail
    refine (HP2.out _).mono ?_
    rintro e w2 ⟨rfl, hb⟩
    go_wp2
    go_ret
    exact ⟨rfl, thenC HB1.out hb⟩
end Go.Proofs.Ytmaphdfhoddnmaa
