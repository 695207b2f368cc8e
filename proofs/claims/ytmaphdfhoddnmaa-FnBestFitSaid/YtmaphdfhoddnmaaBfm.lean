/-
  The walk of FnBestFit where both rectangles are plain.
-/
import Derived.Test.YtmaphdfhoddnmaaBfo
namespace Go.Proofs.Ytmaphdfhoddnmaa
open Go.RowKit Fl
set_option linter.unusedVariables false

set_option maxRecDepth 100000 in
set_option maxHeartbeats 4000000 in
theorem best_out1 (a b c d a' b' c' d' ws hs wd hd : Nat) (up : Bool) (e1 : floatBits .sub .f64 c a = some ws) (e2 : floatBits .sub .f64 d b = some hs) (e3 : floatBits .sub .f64 c' a' = some wd) (e4 : floatBits .sub .f64 d' b' = some hd) (w : World)
    (HP1 : Hid (∀ w, Calls Try.prog 16 #[rv a b c d] w fun e w' => e = .returned (.bool true) ∧ Below w.heap.size w w')) (HP2 : Hid (∀ w, Calls Try.prog 16 #[rv a' b' c' d'] w fun e w' => e = .returned (.bool true) ∧ Below w.heap.size w w'))
    (l0 : (FloatKind.f64.format.order ws 4607182418800017408 == some .lt) = true) :
    Calls Try.prog 10 #[rv a b c d, rv a' b' c' d', .bool up] w fun e w' => e = .returned (.bool true) ∧ Below w.heap.size w w' := by
  have k1 := fun t w => run_float_arith (P := Try.prog) w .sub t .f64 _ _ _ e1
  have k2 := fun t w => run_float_arith (P := Try.prog) w .sub t .f64 _ _ _ e2
  have k3 := fun t w => run_float_arith (P := Try.prog) w .sub t .f64 _ _ _ e3
  have k4 := fun t w => run_float_arith (P := Try.prog) w .sub t .f64 _ _ _ e4
  clear e1 e2 e3 e4
  go_enter Try.func10, Try.ntmps10
  go_wp2_with fail
  go_quiet (fail)
  go_wp2_with fail
  go_quiet (fail)
  go_wp2_with fail
  refine (HP1.out _).mono ?_
  rintro e w1 ⟨rfl, hb⟩
  have y0 : w1.cell? ⟨w.heap.size, 0, none⟩ = some (.float .f64 a) := keepC hb (by simp [go_sem])
  have y1 : w1.cell? ⟨w.heap.size, 1, none⟩ = some (.float .f64 b) := keepC hb (by simp [go_sem])
  have y2 : w1.cell? ⟨w.heap.size, 2, none⟩ = some (.float .f64 c) := keepC hb (by simp [go_sem])
  have y3 : w1.cell? ⟨w.heap.size, 3, none⟩ = some (.float .f64 d) := keepC hb (by simp [go_sem])
  have z0 : w1.cell? ⟨w.heap.size + 1, 0, none⟩ = some (.float .f64 a') := keepC hb (by simp [go_sem])
  have z1 : w1.cell? ⟨w.heap.size + 1, 1, none⟩ = some (.float .f64 b') := keepC hb (by simp [go_sem])
  have z2 : w1.cell? ⟨w.heap.size + 1, 2, none⟩ = some (.float .f64 c') := keepC hb (by simp [go_sem])
  have z3 : w1.cell? ⟨w.heap.size + 1, 3, none⟩ = some (.float .f64 d') := keepC hb (by simp [go_sem])
  have HB1 : Hid (Below w.heap.size w w1) := by
    refine thenC ?_ hb
    repeat' (first | exact Below.refl _ _ | refine Below.drew ?_ | refine below_drewN ?_ _ | refine Below.alloc ?_ ?_ _ | (simp; done) | (simp; omega))
  clear hb
  go_wp2_with fail
  refine (HP2.out _).mono ?_
  rintro e w2 ⟨rfl, hb⟩
  have HB2 : Hid (Below w.heap.size w w2) := thenC HB1.out hb
  clear hb y0 y1 y2 y3 z0 z1 z2 z3
  go_wp2
  go_ret
  exact ⟨rfl, HB2.out⟩

set_option maxRecDepth 100000 in
set_option maxHeartbeats 4000000 in
theorem best_out2 (a b c d a' b' c' d' ws hs wd hd : Nat) (up : Bool) (e1 : floatBits .sub .f64 c a = some ws) (e2 : floatBits .sub .f64 d b = some hs) (e3 : floatBits .sub .f64 c' a' = some wd) (e4 : floatBits .sub .f64 d' b' = some hd) (w : World)
    (HP1 : Hid (∀ w, Calls Try.prog 16 #[rv a b c d] w fun e w' => e = .returned (.bool true) ∧ Below w.heap.size w w')) (HP2 : Hid (∀ w, Calls Try.prog 16 #[rv a' b' c' d'] w fun e w' => e = .returned (.bool true) ∧ Below w.heap.size w w'))
    (l0 : (FloatKind.f64.format.order ws 4607182418800017408 == some .lt) = false) (l1 : (FloatKind.f64.format.order hs 4607182418800017408 == some .lt) = true) :
    Calls Try.prog 10 #[rv a b c d, rv a' b' c' d', .bool up] w fun e w' => e = .returned (.bool true) ∧ Below w.heap.size w w' := by
  have k1 := fun t w => run_float_arith (P := Try.prog) w .sub t .f64 _ _ _ e1
  have k2 := fun t w => run_float_arith (P := Try.prog) w .sub t .f64 _ _ _ e2
  have k3 := fun t w => run_float_arith (P := Try.prog) w .sub t .f64 _ _ _ e3
  have k4 := fun t w => run_float_arith (P := Try.prog) w .sub t .f64 _ _ _ e4
  clear e1 e2 e3 e4
  go_enter Try.func10, Try.ntmps10
  go_wp2_with fail
  go_quiet (fail)
  go_wp2_with fail
  go_quiet (fail)
  go_wp2_with fail
  refine (HP1.out _).mono ?_
  rintro e w1 ⟨rfl, hb⟩
  have y0 : w1.cell? ⟨w.heap.size, 0, none⟩ = some (.float .f64 a) := keepC hb (by simp [go_sem])
  have y1 : w1.cell? ⟨w.heap.size, 1, none⟩ = some (.float .f64 b) := keepC hb (by simp [go_sem])
  have y2 : w1.cell? ⟨w.heap.size, 2, none⟩ = some (.float .f64 c) := keepC hb (by simp [go_sem])
  have y3 : w1.cell? ⟨w.heap.size, 3, none⟩ = some (.float .f64 d) := keepC hb (by simp [go_sem])
  have z0 : w1.cell? ⟨w.heap.size + 1, 0, none⟩ = some (.float .f64 a') := keepC hb (by simp [go_sem])
  have z1 : w1.cell? ⟨w.heap.size + 1, 1, none⟩ = some (.float .f64 b') := keepC hb (by simp [go_sem])
  have z2 : w1.cell? ⟨w.heap.size + 1, 2, none⟩ = some (.float .f64 c') := keepC hb (by simp [go_sem])
  have z3 : w1.cell? ⟨w.heap.size + 1, 3, none⟩ = some (.float .f64 d') := keepC hb (by simp [go_sem])
  have HB1 : Hid (Below w.heap.size w w1) := by
    refine thenC ?_ hb
    repeat' (first | exact Below.refl _ _ | refine Below.drew ?_ | refine below_drewN ?_ _ | refine Below.alloc ?_ ?_ _ | (simp; done) | (simp; omega))
  clear hb
  go_wp2_with fail
  refine (HP2.out _).mono ?_
  rintro e w2 ⟨rfl, hb⟩
  have HB2 : Hid (Below w.heap.size w w2) := thenC HB1.out hb
  clear hb y0 y1 y2 y3 z0 z1 z2 z3
  go_wp2
  go_ret
  exact ⟨rfl, HB2.out⟩

set_option maxRecDepth 100000 in
set_option maxHeartbeats 4000000 in
theorem best_out3 (a b c d a' b' c' d' ws hs wd hd : Nat) (up : Bool) (e1 : floatBits .sub .f64 c a = some ws) (e2 : floatBits .sub .f64 d b = some hs) (e3 : floatBits .sub .f64 c' a' = some wd) (e4 : floatBits .sub .f64 d' b' = some hd) (w : World)
    (HP1 : Hid (∀ w, Calls Try.prog 16 #[rv a b c d] w fun e w' => e = .returned (.bool true) ∧ Below w.heap.size w w')) (HP2 : Hid (∀ w, Calls Try.prog 16 #[rv a' b' c' d'] w fun e w' => e = .returned (.bool true) ∧ Below w.heap.size w w'))
    (l0 : (FloatKind.f64.format.order ws 4607182418800017408 == some .lt) = false) (l1 : (FloatKind.f64.format.order hs 4607182418800017408 == some .lt) = false) (l2 : (FloatKind.f64.format.order wd 4607182418800017408 == some .lt) = true) :
    Calls Try.prog 10 #[rv a b c d, rv a' b' c' d', .bool up] w fun e w' => e = .returned (.bool true) ∧ Below w.heap.size w w' := by
  have k1 := fun t w => run_float_arith (P := Try.prog) w .sub t .f64 _ _ _ e1
  have k2 := fun t w => run_float_arith (P := Try.prog) w .sub t .f64 _ _ _ e2
  have k3 := fun t w => run_float_arith (P := Try.prog) w .sub t .f64 _ _ _ e3
  have k4 := fun t w => run_float_arith (P := Try.prog) w .sub t .f64 _ _ _ e4
  clear e1 e2 e3 e4
  go_enter Try.func10, Try.ntmps10
  go_wp2_with fail
  go_quiet (fail)
  go_wp2_with fail
  go_quiet (fail)
  go_wp2_with fail
  refine (HP1.out _).mono ?_
  rintro e w1 ⟨rfl, hb⟩
  have y0 : w1.cell? ⟨w.heap.size, 0, none⟩ = some (.float .f64 a) := keepC hb (by simp [go_sem])
  have y1 : w1.cell? ⟨w.heap.size, 1, none⟩ = some (.float .f64 b) := keepC hb (by simp [go_sem])
  have y2 : w1.cell? ⟨w.heap.size, 2, none⟩ = some (.float .f64 c) := keepC hb (by simp [go_sem])
  have y3 : w1.cell? ⟨w.heap.size, 3, none⟩ = some (.float .f64 d) := keepC hb (by simp [go_sem])
  have z0 : w1.cell? ⟨w.heap.size + 1, 0, none⟩ = some (.float .f64 a') := keepC hb (by simp [go_sem])
  have z1 : w1.cell? ⟨w.heap.size + 1, 1, none⟩ = some (.float .f64 b') := keepC hb (by simp [go_sem])
  have z2 : w1.cell? ⟨w.heap.size + 1, 2, none⟩ = some (.float .f64 c') := keepC hb (by simp [go_sem])
  have z3 : w1.cell? ⟨w.heap.size + 1, 3, none⟩ = some (.float .f64 d') := keepC hb (by simp [go_sem])
  have HB1 : Hid (Below w.heap.size w w1) := by
    refine thenC ?_ hb
    repeat' (first | exact Below.refl _ _ | refine Below.drew ?_ | refine below_drewN ?_ _ | refine Below.alloc ?_ ?_ _ | (simp; done) | (simp; omega))
  clear hb
  go_wp2_with fail
  refine (HP2.out _).mono ?_
  rintro e w2 ⟨rfl, hb⟩
  have HB2 : Hid (Below w.heap.size w w2) := thenC HB1.out hb
  clear hb y0 y1 y2 y3 z0 z1 z2 z3
  go_wp2
  go_ret
  exact ⟨rfl, HB2.out⟩

set_option maxRecDepth 100000 in
set_option maxHeartbeats 4000000 in
theorem best_out4 (a b c d a' b' c' d' ws hs wd hd : Nat) (up : Bool) (e1 : floatBits .sub .f64 c a = some ws) (e2 : floatBits .sub .f64 d b = some hs) (e3 : floatBits .sub .f64 c' a' = some wd) (e4 : floatBits .sub .f64 d' b' = some hd) (w : World)
    (HP1 : Hid (∀ w, Calls Try.prog 16 #[rv a b c d] w fun e w' => e = .returned (.bool true) ∧ Below w.heap.size w w')) (HP2 : Hid (∀ w, Calls Try.prog 16 #[rv a' b' c' d'] w fun e w' => e = .returned (.bool true) ∧ Below w.heap.size w w'))
    (l0 : (FloatKind.f64.format.order ws 4607182418800017408 == some .lt) = false) (l1 : (FloatKind.f64.format.order hs 4607182418800017408 == some .lt) = false) (l2 : (FloatKind.f64.format.order wd 4607182418800017408 == some .lt) = false) (l3 : (FloatKind.f64.format.order hd 4607182418800017408 == some .lt) = true) :
    Calls Try.prog 10 #[rv a b c d, rv a' b' c' d', .bool up] w fun e w' => e = .returned (.bool true) ∧ Below w.heap.size w w' := by
  have k1 := fun t w => run_float_arith (P := Try.prog) w .sub t .f64 _ _ _ e1
  have k2 := fun t w => run_float_arith (P := Try.prog) w .sub t .f64 _ _ _ e2
  have k3 := fun t w => run_float_arith (P := Try.prog) w .sub t .f64 _ _ _ e3
  have k4 := fun t w => run_float_arith (P := Try.prog) w .sub t .f64 _ _ _ e4
  clear e1 e2 e3 e4
  go_enter Try.func10, Try.ntmps10
  go_wp2_with fail
  go_quiet (fail)
  go_wp2_with fail
  go_quiet (fail)
  go_wp2_with fail
  refine (HP1.out _).mono ?_
  rintro e w1 ⟨rfl, hb⟩
  have y0 : w1.cell? ⟨w.heap.size, 0, none⟩ = some (.float .f64 a) := keepC hb (by simp [go_sem])
  have y1 : w1.cell? ⟨w.heap.size, 1, none⟩ = some (.float .f64 b) := keepC hb (by simp [go_sem])
  have y2 : w1.cell? ⟨w.heap.size, 2, none⟩ = some (.float .f64 c) := keepC hb (by simp [go_sem])
  have y3 : w1.cell? ⟨w.heap.size, 3, none⟩ = some (.float .f64 d) := keepC hb (by simp [go_sem])
  have z0 : w1.cell? ⟨w.heap.size + 1, 0, none⟩ = some (.float .f64 a') := keepC hb (by simp [go_sem])
  have z1 : w1.cell? ⟨w.heap.size + 1, 1, none⟩ = some (.float .f64 b') := keepC hb (by simp [go_sem])
  have z2 : w1.cell? ⟨w.heap.size + 1, 2, none⟩ = some (.float .f64 c') := keepC hb (by simp [go_sem])
  have z3 : w1.cell? ⟨w.heap.size + 1, 3, none⟩ = some (.float .f64 d') := keepC hb (by simp [go_sem])
  have HB1 : Hid (Below w.heap.size w w1) := by
    refine thenC ?_ hb
    repeat' (first | exact Below.refl _ _ | refine Below.drew ?_ | refine below_drewN ?_ _ | refine Below.alloc ?_ ?_ _ | (simp; done) | (simp; omega))
  clear hb
  go_wp2_with fail
  refine (HP2.out _).mono ?_
  rintro e w2 ⟨rfl, hb⟩
  have HB2 : Hid (Below w.heap.size w w2) := thenC HB1.out hb
  clear hb y0 y1 y2 y3 z0 z1 z2 z3
  go_wp2
  go_ret
  exact ⟨rfl, HB2.out⟩

set_option maxRecDepth 100000 in
set_option maxHeartbeats 4000000 in
theorem best_out5t (a b c d a' b' c' d' ws hs wd hd : Nat) (up : Bool) (e1 : floatBits .sub .f64 c a = some ws) (e2 : floatBits .sub .f64 d b = some hs) (e3 : floatBits .sub .f64 c' a' = some wd) (e4 : floatBits .sub .f64 d' b' = some hd) (w : World)
    (HP1 : Hid (∀ w, Calls Try.prog 16 #[rv a b c d] w fun e w' => e = .returned (.bool true) ∧ Below w.heap.size w w')) (HP2 : Hid (∀ w, Calls Try.prog 16 #[rv a' b' c' d'] w fun e w' => e = .returned (.bool true) ∧ Below w.heap.size w w'))
    (l0 : (FloatKind.f64.format.order ws 4607182418800017408 == some .lt) = false) (l1 : (FloatKind.f64.format.order hs 4607182418800017408 == some .lt) = false) (l2 : (FloatKind.f64.format.order wd 4607182418800017408 == some .lt) = false) (l3 : (FloatKind.f64.format.order hd 4607182418800017408 == some .lt) = false) (l4 : (FloatKind.f64.format.order ws hs == some .gt) = true) (l5 : (FloatKind.f64.format.order wd hd == some .gt) = false) :
    Calls Try.prog 10 #[rv a b c d, rv a' b' c' d', .bool up] w fun e w' => e = .returned (.bool true) ∧ Below w.heap.size w w' := by
  have k1 := fun t w => run_float_arith (P := Try.prog) w .sub t .f64 _ _ _ e1
  have k2 := fun t w => run_float_arith (P := Try.prog) w .sub t .f64 _ _ _ e2
  have k3 := fun t w => run_float_arith (P := Try.prog) w .sub t .f64 _ _ _ e3
  have k4 := fun t w => run_float_arith (P := Try.prog) w .sub t .f64 _ _ _ e4
  clear e1 e2 e3 e4
  go_enter Try.func10, Try.ntmps10
  go_wp2_with fail
  go_quiet (fail)
  go_wp2_with fail
  go_quiet (fail)
  go_wp2_with fail
  refine (HP1.out _).mono ?_
  rintro e w1 ⟨rfl, hb⟩
  have y0 : w1.cell? ⟨w.heap.size, 0, none⟩ = some (.float .f64 a) := keepC hb (by simp [go_sem])
  have y1 : w1.cell? ⟨w.heap.size, 1, none⟩ = some (.float .f64 b) := keepC hb (by simp [go_sem])
  have y2 : w1.cell? ⟨w.heap.size, 2, none⟩ = some (.float .f64 c) := keepC hb (by simp [go_sem])
  have y3 : w1.cell? ⟨w.heap.size, 3, none⟩ = some (.float .f64 d) := keepC hb (by simp [go_sem])
  have z0 : w1.cell? ⟨w.heap.size + 1, 0, none⟩ = some (.float .f64 a') := keepC hb (by simp [go_sem])
  have z1 : w1.cell? ⟨w.heap.size + 1, 1, none⟩ = some (.float .f64 b') := keepC hb (by simp [go_sem])
  have z2 : w1.cell? ⟨w.heap.size + 1, 2, none⟩ = some (.float .f64 c') := keepC hb (by simp [go_sem])
  have z3 : w1.cell? ⟨w.heap.size + 1, 3, none⟩ = some (.float .f64 d') := keepC hb (by simp [go_sem])
  have HB1 : Hid (Below w.heap.size w w1) := by
    refine thenC ?_ hb
    repeat' (first | exact Below.refl _ _ | refine Below.drew ?_ | refine below_drewN ?_ _ | refine Below.alloc ?_ ?_ _ | (simp; done) | (simp; omega))
  clear hb
  go_wp2_with fail
  refine (HP2.out _).mono ?_
  rintro e w2 ⟨rfl, hb⟩
  have HB2 : Hid (Below w.heap.size w w2) := thenC HB1.out hb
  clear hb y0 y1 y2 y3 z0 z1 z2 z3
  go_wp2
  go_ret
  exact ⟨rfl, HB2.out⟩

set_option maxRecDepth 100000 in
set_option maxHeartbeats 4000000 in
theorem best_out5f (a b c d a' b' c' d' ws hs wd hd : Nat) (up : Bool) (e1 : floatBits .sub .f64 c a = some ws) (e2 : floatBits .sub .f64 d b = some hs) (e3 : floatBits .sub .f64 c' a' = some wd) (e4 : floatBits .sub .f64 d' b' = some hd) (w : World)
    (HP1 : Hid (∀ w, Calls Try.prog 16 #[rv a b c d] w fun e w' => e = .returned (.bool true) ∧ Below w.heap.size w w')) (HP2 : Hid (∀ w, Calls Try.prog 16 #[rv a' b' c' d'] w fun e w' => e = .returned (.bool true) ∧ Below w.heap.size w w'))
    (l0 : (FloatKind.f64.format.order ws 4607182418800017408 == some .lt) = false) (l1 : (FloatKind.f64.format.order hs 4607182418800017408 == some .lt) = false) (l2 : (FloatKind.f64.format.order wd 4607182418800017408 == some .lt) = false) (l3 : (FloatKind.f64.format.order hd 4607182418800017408 == some .lt) = false) (l4 : (FloatKind.f64.format.order ws hs == some .gt) = false) (l5 : (FloatKind.f64.format.order wd hd == some .gt) = true) :
    Calls Try.prog 10 #[rv a b c d, rv a' b' c' d', .bool up] w fun e w' => e = .returned (.bool true) ∧ Below w.heap.size w w' := by
  have k1 := fun t w => run_float_arith (P := Try.prog) w .sub t .f64 _ _ _ e1
  have k2 := fun t w => run_float_arith (P := Try.prog) w .sub t .f64 _ _ _ e2
  have k3 := fun t w => run_float_arith (P := Try.prog) w .sub t .f64 _ _ _ e3
  have k4 := fun t w => run_float_arith (P := Try.prog) w .sub t .f64 _ _ _ e4
  clear e1 e2 e3 e4
  go_enter Try.func10, Try.ntmps10
  go_wp2_with fail
  go_quiet (fail)
  go_wp2_with fail
  go_quiet (fail)
  go_wp2_with fail
  refine (HP1.out _).mono ?_
  rintro e w1 ⟨rfl, hb⟩
  have y0 : w1.cell? ⟨w.heap.size, 0, none⟩ = some (.float .f64 a) := keepC hb (by simp [go_sem])
  have y1 : w1.cell? ⟨w.heap.size, 1, none⟩ = some (.float .f64 b) := keepC hb (by simp [go_sem])
  have y2 : w1.cell? ⟨w.heap.size, 2, none⟩ = some (.float .f64 c) := keepC hb (by simp [go_sem])
  have y3 : w1.cell? ⟨w.heap.size, 3, none⟩ = some (.float .f64 d) := keepC hb (by simp [go_sem])
  have z0 : w1.cell? ⟨w.heap.size + 1, 0, none⟩ = some (.float .f64 a') := keepC hb (by simp [go_sem])
  have z1 : w1.cell? ⟨w.heap.size + 1, 1, none⟩ = some (.float .f64 b') := keepC hb (by simp [go_sem])
  have z2 : w1.cell? ⟨w.heap.size + 1, 2, none⟩ = some (.float .f64 c') := keepC hb (by simp [go_sem])
  have z3 : w1.cell? ⟨w.heap.size + 1, 3, none⟩ = some (.float .f64 d') := keepC hb (by simp [go_sem])
  have HB1 : Hid (Below w.heap.size w w1) := by
    refine thenC ?_ hb
    repeat' (first | exact Below.refl _ _ | refine Below.drew ?_ | refine below_drewN ?_ _ | refine Below.alloc ?_ ?_ _ | (simp; done) | (simp; omega))
  clear hb
  go_wp2_with fail
  refine (HP2.out _).mono ?_
  rintro e w2 ⟨rfl, hb⟩
  have HB2 : Hid (Below w.heap.size w w2) := thenC HB1.out hb
  clear hb y0 y1 y2 y3 z0 z1 z2 z3
  go_wp2
  go_ret
  exact ⟨rfl, HB2.out⟩

set_option maxRecDepth 100000 in
set_option maxHeartbeats 4000000 in
theorem best_out6tt (a b c d a' b' c' d' ws hs wd hd : Nat) (up : Bool) (e1 : floatBits .sub .f64 c a = some ws) (e2 : floatBits .sub .f64 d b = some hs) (e3 : floatBits .sub .f64 c' a' = some wd) (e4 : floatBits .sub .f64 d' b' = some hd) (w : World)
    (HP1 : Hid (∀ w, Calls Try.prog 16 #[rv a b c d] w fun e w' => e = .returned (.bool true) ∧ Below w.heap.size w w')) (HP2 : Hid (∀ w, Calls Try.prog 16 #[rv a' b' c' d'] w fun e w' => e = .returned (.bool true) ∧ Below w.heap.size w w'))
    (l0 : (FloatKind.f64.format.order ws 4607182418800017408 == some .lt) = false) (l1 : (FloatKind.f64.format.order hs 4607182418800017408 == some .lt) = false) (l2 : (FloatKind.f64.format.order wd 4607182418800017408 == some .lt) = false) (l3 : (FloatKind.f64.format.order hd 4607182418800017408 == some .lt) = false) (l4 : (FloatKind.f64.format.order ws hs == some .gt) = true) (l5 : (FloatKind.f64.format.order wd hd == some .gt) = true) (l6 : (FloatKind.f64.format.order ws hs == some .lt) = true) (l7 : (FloatKind.f64.format.order wd hd == some .lt) = false) :
    Calls Try.prog 10 #[rv a b c d, rv a' b' c' d', .bool up] w fun e w' => e = .returned (.bool true) ∧ Below w.heap.size w w' := by
  have k1 := fun t w => run_float_arith (P := Try.prog) w .sub t .f64 _ _ _ e1
  have k2 := fun t w => run_float_arith (P := Try.prog) w .sub t .f64 _ _ _ e2
  have k3 := fun t w => run_float_arith (P := Try.prog) w .sub t .f64 _ _ _ e3
  have k4 := fun t w => run_float_arith (P := Try.prog) w .sub t .f64 _ _ _ e4
  clear e1 e2 e3 e4
  go_enter Try.func10, Try.ntmps10
  go_wp2_with fail
  go_quiet (fail)
  go_wp2_with fail
  go_quiet (fail)
  go_wp2_with fail
  refine (HP1.out _).mono ?_
  rintro e w1 ⟨rfl, hb⟩
  have y0 : w1.cell? ⟨w.heap.size, 0, none⟩ = some (.float .f64 a) := keepC hb (by simp [go_sem])
  have y1 : w1.cell? ⟨w.heap.size, 1, none⟩ = some (.float .f64 b) := keepC hb (by simp [go_sem])
  have y2 : w1.cell? ⟨w.heap.size, 2, none⟩ = some (.float .f64 c) := keepC hb (by simp [go_sem])
  have y3 : w1.cell? ⟨w.heap.size, 3, none⟩ = some (.float .f64 d) := keepC hb (by simp [go_sem])
  have z0 : w1.cell? ⟨w.heap.size + 1, 0, none⟩ = some (.float .f64 a') := keepC hb (by simp [go_sem])
  have z1 : w1.cell? ⟨w.heap.size + 1, 1, none⟩ = some (.float .f64 b') := keepC hb (by simp [go_sem])
  have z2 : w1.cell? ⟨w.heap.size + 1, 2, none⟩ = some (.float .f64 c') := keepC hb (by simp [go_sem])
  have z3 : w1.cell? ⟨w.heap.size + 1, 3, none⟩ = some (.float .f64 d') := keepC hb (by simp [go_sem])
  have HB1 : Hid (Below w.heap.size w w1) := by
    refine thenC ?_ hb
    repeat' (first | exact Below.refl _ _ | refine Below.drew ?_ | refine below_drewN ?_ _ | refine Below.alloc ?_ ?_ _ | (simp; done) | (simp; omega))
  clear hb
  go_wp2_with fail
  refine (HP2.out _).mono ?_
  rintro e w2 ⟨rfl, hb⟩
  have HB2 : Hid (Below w.heap.size w w2) := thenC HB1.out hb
  clear hb y0 y1 y2 y3 z0 z1 z2 z3
  go_wp2
  go_ret
  exact ⟨rfl, HB2.out⟩

set_option maxRecDepth 100000 in
set_option maxHeartbeats 4000000 in
theorem best_out6tf (a b c d a' b' c' d' ws hs wd hd : Nat) (up : Bool) (e1 : floatBits .sub .f64 c a = some ws) (e2 : floatBits .sub .f64 d b = some hs) (e3 : floatBits .sub .f64 c' a' = some wd) (e4 : floatBits .sub .f64 d' b' = some hd) (w : World)
    (HP1 : Hid (∀ w, Calls Try.prog 16 #[rv a b c d] w fun e w' => e = .returned (.bool true) ∧ Below w.heap.size w w')) (HP2 : Hid (∀ w, Calls Try.prog 16 #[rv a' b' c' d'] w fun e w' => e = .returned (.bool true) ∧ Below w.heap.size w w'))
    (l0 : (FloatKind.f64.format.order ws 4607182418800017408 == some .lt) = false) (l1 : (FloatKind.f64.format.order hs 4607182418800017408 == some .lt) = false) (l2 : (FloatKind.f64.format.order wd 4607182418800017408 == some .lt) = false) (l3 : (FloatKind.f64.format.order hd 4607182418800017408 == some .lt) = false) (l4 : (FloatKind.f64.format.order ws hs == some .gt) = true) (l5 : (FloatKind.f64.format.order wd hd == some .gt) = true) (l6 : (FloatKind.f64.format.order ws hs == some .lt) = false) (l7 : (FloatKind.f64.format.order wd hd == some .lt) = true) :
    Calls Try.prog 10 #[rv a b c d, rv a' b' c' d', .bool up] w fun e w' => e = .returned (.bool true) ∧ Below w.heap.size w w' := by
  have k1 := fun t w => run_float_arith (P := Try.prog) w .sub t .f64 _ _ _ e1
  have k2 := fun t w => run_float_arith (P := Try.prog) w .sub t .f64 _ _ _ e2
  have k3 := fun t w => run_float_arith (P := Try.prog) w .sub t .f64 _ _ _ e3
  have k4 := fun t w => run_float_arith (P := Try.prog) w .sub t .f64 _ _ _ e4
  clear e1 e2 e3 e4
  go_enter Try.func10, Try.ntmps10
  go_wp2_with fail
  go_quiet (fail)
  go_wp2_with fail
  go_quiet (fail)
  go_wp2_with fail
  refine (HP1.out _).mono ?_
  rintro e w1 ⟨rfl, hb⟩
  have y0 : w1.cell? ⟨w.heap.size, 0, none⟩ = some (.float .f64 a) := keepC hb (by simp [go_sem])
  have y1 : w1.cell? ⟨w.heap.size, 1, none⟩ = some (.float .f64 b) := keepC hb (by simp [go_sem])
  have y2 : w1.cell? ⟨w.heap.size, 2, none⟩ = some (.float .f64 c) := keepC hb (by simp [go_sem])
  have y3 : w1.cell? ⟨w.heap.size, 3, none⟩ = some (.float .f64 d) := keepC hb (by simp [go_sem])
  have z0 : w1.cell? ⟨w.heap.size + 1, 0, none⟩ = some (.float .f64 a') := keepC hb (by simp [go_sem])
  have z1 : w1.cell? ⟨w.heap.size + 1, 1, none⟩ = some (.float .f64 b') := keepC hb (by simp [go_sem])
  have z2 : w1.cell? ⟨w.heap.size + 1, 2, none⟩ = some (.float .f64 c') := keepC hb (by simp [go_sem])
  have z3 : w1.cell? ⟨w.heap.size + 1, 3, none⟩ = some (.float .f64 d') := keepC hb (by simp [go_sem])
  have HB1 : Hid (Below w.heap.size w w1) := by
    refine thenC ?_ hb
    repeat' (first | exact Below.refl _ _ | refine Below.drew ?_ | refine below_drewN ?_ _ | refine Below.alloc ?_ ?_ _ | (simp; done) | (simp; omega))
  clear hb
  go_wp2_with fail
  refine (HP2.out _).mono ?_
  rintro e w2 ⟨rfl, hb⟩
  have HB2 : Hid (Below w.heap.size w w2) := thenC HB1.out hb
  clear hb y0 y1 y2 y3 z0 z1 z2 z3
  go_wp2
  go_ret
  exact ⟨rfl, HB2.out⟩

set_option maxRecDepth 100000 in
set_option maxHeartbeats 4000000 in
theorem best_out6ft (a b c d a' b' c' d' ws hs wd hd : Nat) (up : Bool) (e1 : floatBits .sub .f64 c a = some ws) (e2 : floatBits .sub .f64 d b = some hs) (e3 : floatBits .sub .f64 c' a' = some wd) (e4 : floatBits .sub .f64 d' b' = some hd) (w : World)
    (HP1 : Hid (∀ w, Calls Try.prog 16 #[rv a b c d] w fun e w' => e = .returned (.bool true) ∧ Below w.heap.size w w')) (HP2 : Hid (∀ w, Calls Try.prog 16 #[rv a' b' c' d'] w fun e w' => e = .returned (.bool true) ∧ Below w.heap.size w w'))
    (l0 : (FloatKind.f64.format.order ws 4607182418800017408 == some .lt) = false) (l1 : (FloatKind.f64.format.order hs 4607182418800017408 == some .lt) = false) (l2 : (FloatKind.f64.format.order wd 4607182418800017408 == some .lt) = false) (l3 : (FloatKind.f64.format.order hd 4607182418800017408 == some .lt) = false) (l4 : (FloatKind.f64.format.order ws hs == some .gt) = false) (l5 : (FloatKind.f64.format.order wd hd == some .gt) = false) (l6 : (FloatKind.f64.format.order ws hs == some .lt) = true) (l7 : (FloatKind.f64.format.order wd hd == some .lt) = false) :
    Calls Try.prog 10 #[rv a b c d, rv a' b' c' d', .bool up] w fun e w' => e = .returned (.bool true) ∧ Below w.heap.size w w' := by
  have k1 := fun t w => run_float_arith (P := Try.prog) w .sub t .f64 _ _ _ e1
  have k2 := fun t w => run_float_arith (P := Try.prog) w .sub t .f64 _ _ _ e2
  have k3 := fun t w => run_float_arith (P := Try.prog) w .sub t .f64 _ _ _ e3
  have k4 := fun t w => run_float_arith (P := Try.prog) w .sub t .f64 _ _ _ e4
  clear e1 e2 e3 e4
  go_enter Try.func10, Try.ntmps10
  go_wp2_with fail
  go_quiet (fail)
  go_wp2_with fail
  go_quiet (fail)
  go_wp2_with fail
  refine (HP1.out _).mono ?_
  rintro e w1 ⟨rfl, hb⟩
  have y0 : w1.cell? ⟨w.heap.size, 0, none⟩ = some (.float .f64 a) := keepC hb (by simp [go_sem])
  have y1 : w1.cell? ⟨w.heap.size, 1, none⟩ = some (.float .f64 b) := keepC hb (by simp [go_sem])
  have y2 : w1.cell? ⟨w.heap.size, 2, none⟩ = some (.float .f64 c) := keepC hb (by simp [go_sem])
  have y3 : w1.cell? ⟨w.heap.size, 3, none⟩ = some (.float .f64 d) := keepC hb (by simp [go_sem])
  have z0 : w1.cell? ⟨w.heap.size + 1, 0, none⟩ = some (.float .f64 a') := keepC hb (by simp [go_sem])
  have z1 : w1.cell? ⟨w.heap.size + 1, 1, none⟩ = some (.float .f64 b') := keepC hb (by simp [go_sem])
  have z2 : w1.cell? ⟨w.heap.size + 1, 2, none⟩ = some (.float .f64 c') := keepC hb (by simp [go_sem])
  have z3 : w1.cell? ⟨w.heap.size + 1, 3, none⟩ = some (.float .f64 d') := keepC hb (by simp [go_sem])
  have HB1 : Hid (Below w.heap.size w w1) := by
    refine thenC ?_ hb
    repeat' (first | exact Below.refl _ _ | refine Below.drew ?_ | refine below_drewN ?_ _ | refine Below.alloc ?_ ?_ _ | (simp; done) | (simp; omega))
  clear hb
  go_wp2_with fail
  refine (HP2.out _).mono ?_
  rintro e w2 ⟨rfl, hb⟩
  have HB2 : Hid (Below w.heap.size w w2) := thenC HB1.out hb
  clear hb y0 y1 y2 y3 z0 z1 z2 z3
  go_wp2
  go_ret
  exact ⟨rfl, HB2.out⟩

set_option maxRecDepth 100000 in
set_option maxHeartbeats 4000000 in
theorem best_out6ff (a b c d a' b' c' d' ws hs wd hd : Nat) (up : Bool) (e1 : floatBits .sub .f64 c a = some ws) (e2 : floatBits .sub .f64 d b = some hs) (e3 : floatBits .sub .f64 c' a' = some wd) (e4 : floatBits .sub .f64 d' b' = some hd) (w : World)
    (HP1 : Hid (∀ w, Calls Try.prog 16 #[rv a b c d] w fun e w' => e = .returned (.bool true) ∧ Below w.heap.size w w')) (HP2 : Hid (∀ w, Calls Try.prog 16 #[rv a' b' c' d'] w fun e w' => e = .returned (.bool true) ∧ Below w.heap.size w w'))
    (l0 : (FloatKind.f64.format.order ws 4607182418800017408 == some .lt) = false) (l1 : (FloatKind.f64.format.order hs 4607182418800017408 == some .lt) = false) (l2 : (FloatKind.f64.format.order wd 4607182418800017408 == some .lt) = false) (l3 : (FloatKind.f64.format.order hd 4607182418800017408 == some .lt) = false) (l4 : (FloatKind.f64.format.order ws hs == some .gt) = false) (l5 : (FloatKind.f64.format.order wd hd == some .gt) = false) (l6 : (FloatKind.f64.format.order ws hs == some .lt) = false) (l7 : (FloatKind.f64.format.order wd hd == some .lt) = true) :
    Calls Try.prog 10 #[rv a b c d, rv a' b' c' d', .bool up] w fun e w' => e = .returned (.bool true) ∧ Below w.heap.size w w' := by
  have k1 := fun t w => run_float_arith (P := Try.prog) w .sub t .f64 _ _ _ e1
  have k2 := fun t w => run_float_arith (P := Try.prog) w .sub t .f64 _ _ _ e2
  have k3 := fun t w => run_float_arith (P := Try.prog) w .sub t .f64 _ _ _ e3
  have k4 := fun t w => run_float_arith (P := Try.prog) w .sub t .f64 _ _ _ e4
  clear e1 e2 e3 e4
  go_enter Try.func10, Try.ntmps10
  go_wp2_with fail
  go_quiet (fail)
  go_wp2_with fail
  go_quiet (fail)
  go_wp2_with fail
  refine (HP1.out _).mono ?_
  rintro e w1 ⟨rfl, hb⟩
  have y0 : w1.cell? ⟨w.heap.size, 0, none⟩ = some (.float .f64 a) := keepC hb (by simp [go_sem])
  have y1 : w1.cell? ⟨w.heap.size, 1, none⟩ = some (.float .f64 b) := keepC hb (by simp [go_sem])
  have y2 : w1.cell? ⟨w.heap.size, 2, none⟩ = some (.float .f64 c) := keepC hb (by simp [go_sem])
  have y3 : w1.cell? ⟨w.heap.size, 3, none⟩ = some (.float .f64 d) := keepC hb (by simp [go_sem])
  have z0 : w1.cell? ⟨w.heap.size + 1, 0, none⟩ = some (.float .f64 a') := keepC hb (by simp [go_sem])
  have z1 : w1.cell? ⟨w.heap.size + 1, 1, none⟩ = some (.float .f64 b') := keepC hb (by simp [go_sem])
  have z2 : w1.cell? ⟨w.heap.size + 1, 2, none⟩ = some (.float .f64 c') := keepC hb (by simp [go_sem])
  have z3 : w1.cell? ⟨w.heap.size + 1, 3, none⟩ = some (.float .f64 d') := keepC hb (by simp [go_sem])
  have HB1 : Hid (Below w.heap.size w w1) := by
    refine thenC ?_ hb
    repeat' (first | exact Below.refl _ _ | refine Below.drew ?_ | refine below_drewN ?_ _ | refine Below.alloc ?_ ?_ _ | (simp; done) | (simp; omega))
  clear hb
  go_wp2_with fail
  refine (HP2.out _).mono ?_
  rintro e w2 ⟨rfl, hb⟩
  have HB2 : Hid (Below w.heap.size w w2) := thenC HB1.out hb
  clear hb y0 y1 y2 y3 z0 z1 z2 z3
  go_wp2
  go_ret
  exact ⟨rfl, HB2.out⟩

set_option maxRecDepth 100000 in
set_option maxHeartbeats 8000000 in
theorem best_in_tf (a b c d a' b' c' d' ws hs wd hd : Nat) (up : Bool) (e1 : floatBits .sub .f64 c a = some ws) (e2 : floatBits .sub .f64 d b = some hs) (e3 : floatBits .sub .f64 c' a' = some wd) (e4 : floatBits .sub .f64 d' b' = some hd) (w : World)
    (HP1 : Hid (∀ w, Calls Try.prog 16 #[rv a b c d] w fun e w' => e = .returned (.bool true) ∧ Below w.heap.size w w')) (HP2 : Hid (∀ w, Calls Try.prog 16 #[rv a' b' c' d'] w fun e w' => e = .returned (.bool true) ∧ Below w.heap.size w w'))
    (l0 : (FloatKind.f64.format.order ws 4607182418800017408 == some .lt) = false) (l1 : (FloatKind.f64.format.order hs 4607182418800017408 == some .lt) = false) (l2 : (FloatKind.f64.format.order wd 4607182418800017408 == some .lt) = false) (l3 : (FloatKind.f64.format.order hd 4607182418800017408 == some .lt) = false) (l4 : (FloatKind.f64.format.order ws hs == some .gt) = true) (l5 : (FloatKind.f64.format.order wd hd == some .gt) = true) (l6 : (FloatKind.f64.format.order ws hs == some .lt) = false) (l7 : (FloatKind.f64.format.order wd hd == some .lt) = false)
    (p q r s : Nat) (HG : Gives a b c d a' b' c' d' up p q r s 0) (q1 q2 : Bool)
    (l8 : (FloatKind.f64.format.order ws wd == some .lt || FloatKind.f64.format.order ws wd == some .eq) = q1) (l9 : (FloatKind.f64.format.order hs hd == some .lt || FloatKind.f64.format.order hs hd == some .eq) = q2)
    (HF : Fine5 ws hs wd hd p q r s (q1 && q2 && !up)) :
    Calls Try.prog 10 #[rv a b c d, rv a' b' c' d', .bool up] w fun e w' => e = .returned (.bool true) ∧ Below w.heap.size w w' := by
  have k1 := fun t w => run_float_arith (P := Try.prog) w .sub t .f64 _ _ _ e1
  have k2 := fun t w => run_float_arith (P := Try.prog) w .sub t .f64 _ _ _ e2
  have k3 := fun t w => run_float_arith (P := Try.prog) w .sub t .f64 _ _ _ e3
  have k4 := fun t w => run_float_arith (P := Try.prog) w .sub t .f64 _ _ _ e4
  obtain ⟨⟨m1, m2, f1, f2, c1⟩, ⟨n1, n2, f3, f4, g1⟩, ⟨o1, o2, f5, f6, g2⟩, ⟨u1, u2, f7, f8, c2⟩, ⟨v1, v2, f9, f10, c3⟩, hlast⟩ := HF
  have j1 := fun t w => run_float_arith (P := Try.prog) w .mul t .f64 _ _ _ f1
  have j2 := fun t w => run_float_arith (P := Try.prog) w .mul t .f64 _ _ _ f2
  have j3 := fun t w => run_float_arith (P := Try.prog) w .mul t .f64 _ _ _ f3
  have j4 := fun t w => run_float_arith (P := Try.prog) w .add t .f64 _ _ _ f4
  have j5 := fun t w => run_float_arith (P := Try.prog) w .mul t .f64 _ _ _ f5
  have j6 := fun t w => run_float_arith (P := Try.prog) w .add t .f64 _ _ _ f6
  have j7 := fun t w => run_float_arith (P := Try.prog) w .sub t .f64 _ _ _ f7
  have j8 := fun t w => run_float_arith (P := Try.prog) w .quo t .f64 _ _ _ f8
  have j9 := fun t w => run_float_arith (P := Try.prog) w .sub t .f64 _ _ _ f9
  have j10 := fun t w => run_float_arith (P := Try.prog) w .quo t .f64 _ _ _ f10
  have HC1 := Lib.hid c1
  have HC2 := Lib.hid c2
  have HC3 := Lib.hid c3
  have HL := Lib.hid hlast
  have HB := Lib.hid (implBest a b c d a' b' c' d' up p q r s 0 HG)
  have z00 : (FloatKind.f64.format.order 0 0 != some .eq) = false := by decide +kernel
  clear e1 e2 e3 e4 f1 f2 f3 f4 f5 f6 f7 f8 f9 f10 c1 c2 c3 hlast HG
  go_enter Try.func10, Try.ntmps10
  go_wp2_with fail
  go_quiet (fail)
  go_wp2_with fail
  go_quiet (fail)
  go_wp2_with fail
  refine (HP1.out _).mono ?_
  rintro e w1 ⟨rfl, hb⟩
  have y0 : w1.cell? ⟨w.heap.size, 0, none⟩ = some (.float .f64 a) := keepC hb (by simp [go_sem])
  have y1 : w1.cell? ⟨w.heap.size, 1, none⟩ = some (.float .f64 b) := keepC hb (by simp [go_sem])
  have y2 : w1.cell? ⟨w.heap.size, 2, none⟩ = some (.float .f64 c) := keepC hb (by simp [go_sem])
  have y3 : w1.cell? ⟨w.heap.size, 3, none⟩ = some (.float .f64 d) := keepC hb (by simp [go_sem])
  have z0 : w1.cell? ⟨w.heap.size + 1, 0, none⟩ = some (.float .f64 a') := keepC hb (by simp [go_sem])
  have z1 : w1.cell? ⟨w.heap.size + 1, 1, none⟩ = some (.float .f64 b') := keepC hb (by simp [go_sem])
  have z2 : w1.cell? ⟨w.heap.size + 1, 2, none⟩ = some (.float .f64 c') := keepC hb (by simp [go_sem])
  have z3 : w1.cell? ⟨w.heap.size + 1, 3, none⟩ = some (.float .f64 d') := keepC hb (by simp [go_sem])
  have HB1 : Hid (Below w.heap.size w w1) := by
    refine thenC ?_ hb
    repeat' (first | exact Below.refl _ _ | refine Below.drew ?_ | refine below_drewN ?_ _ | refine Below.alloc ?_ ?_ _ | (simp; done) | (simp; omega))
  clear hb
  go_wp2_with fail
  refine (HP2.out _).mono ?_
  rintro e w2 ⟨rfl, hb⟩
  have HB2 : Hid (Below w.heap.size w w2) := thenC HB1.out hb
  replace y0 := keepC hb y0
  replace y1 := keepC hb y1
  replace y2 := keepC hb y2
  replace y3 := keepC hb y3
  replace z0 := keepC hb z0
  replace z1 := keepC hb z1
  replace z2 := keepC hb z2
  replace z3 := keepC hb z3
  clear hb
  go_wp2_with fail
  refine (HB.out _).mono ?_
  rintro e w3 ⟨rfl, hb⟩
  have HB3 : Hid (Below w.heap.size w w3) := thenC HB2.out hb
  clear hb y0 y1 y2 y3 z0 z1 z2 z3
  go_wp2_with fail
  refine (HC1.out _).mono ?_
  rintro e w4 ⟨rfl, rfl⟩
  go_wp2_with fail
  refine (HC2.out _).mono ?_
  rintro e w4 ⟨rfl, rfl⟩
  go_wp2_with fail
  refine (HC3.out _).mono ?_
  rintro e w4 ⟨rfl, rfl⟩
  by_cases hown : (q1 && q2 && !up) = true
  · have hl := HL.out
    rw [if_pos hown] at hl
    obtain ⟨t1, t2⟩ := hl
    have T1 := Lib.hid t1
    have T2 := Lib.hid t2
    clear t1 t2 HL
    simp only [Bool.and_eq_true, Bool.not_eq_true'] at hown
    obtain ⟨⟨rfl, rfl⟩, rfl⟩ := hown
    go_wp2_with fail
    refine (T1.out _).mono ?_
    rintro e w4 ⟨rfl, rfl⟩
    go_wp2_with fail
    refine (T2.out _).mono ?_
    rintro e w4 ⟨rfl, rfl⟩
    go_wp2
    go_ret
    exact ⟨rfl, HB3.out⟩
  · have hl := HL.out
    rw [if_neg hown] at hl
    obtain ⟨b1, b2, t1, t2, hb⟩ := hl
    have T1 := Lib.hid t1
    have T2 := Lib.hid t2
    clear t1 t2 HL
    cases b1
    · obtain rfl : b2 = true := by simpa using hb
      clear hb
      cases q1 <;> cases q2 <;> cases up <;> (first | (exact absurd rfl hown) | skip) <;> clear hown
      all_goals
        go_wp2_with fail
        refine (T1.out _).mono ?_
        rintro e w4 ⟨rfl, rfl⟩
        go_wp2_with fail
        refine (T2.out _).mono ?_
        rintro e w4 ⟨rfl, rfl⟩
        go_wp2
        go_ret
        exact ⟨rfl, HB3.out⟩
    · clear hb T2
      cases q1 <;> cases q2 <;> cases up <;> (first | (exact absurd rfl hown) | skip) <;> clear hown
      all_goals
        go_wp2_with fail
        refine (T1.out _).mono ?_
        rintro e w4 ⟨rfl, rfl⟩
        go_wp2
        go_ret
        exact ⟨rfl, HB3.out⟩

set_option maxRecDepth 100000 in
set_option maxHeartbeats 8000000 in
theorem best_in_ft (a b c d a' b' c' d' ws hs wd hd : Nat) (up : Bool) (e1 : floatBits .sub .f64 c a = some ws) (e2 : floatBits .sub .f64 d b = some hs) (e3 : floatBits .sub .f64 c' a' = some wd) (e4 : floatBits .sub .f64 d' b' = some hd) (w : World)
    (HP1 : Hid (∀ w, Calls Try.prog 16 #[rv a b c d] w fun e w' => e = .returned (.bool true) ∧ Below w.heap.size w w')) (HP2 : Hid (∀ w, Calls Try.prog 16 #[rv a' b' c' d'] w fun e w' => e = .returned (.bool true) ∧ Below w.heap.size w w'))
    (l0 : (FloatKind.f64.format.order ws 4607182418800017408 == some .lt) = false) (l1 : (FloatKind.f64.format.order hs 4607182418800017408 == some .lt) = false) (l2 : (FloatKind.f64.format.order wd 4607182418800017408 == some .lt) = false) (l3 : (FloatKind.f64.format.order hd 4607182418800017408 == some .lt) = false) (l4 : (FloatKind.f64.format.order ws hs == some .gt) = false) (l5 : (FloatKind.f64.format.order wd hd == some .gt) = false) (l6 : (FloatKind.f64.format.order ws hs == some .lt) = true) (l7 : (FloatKind.f64.format.order wd hd == some .lt) = true)
    (p q r s : Nat) (HG : Gives a b c d a' b' c' d' up p q r s 0) (q1 q2 : Bool)
    (l8 : (FloatKind.f64.format.order ws wd == some .lt || FloatKind.f64.format.order ws wd == some .eq) = q1) (l9 : (FloatKind.f64.format.order hs hd == some .lt || FloatKind.f64.format.order hs hd == some .eq) = q2)
    (HF : Fine5 ws hs wd hd p q r s (q1 && q2 && !up)) :
    Calls Try.prog 10 #[rv a b c d, rv a' b' c' d', .bool up] w fun e w' => e = .returned (.bool true) ∧ Below w.heap.size w w' := by
  have k1 := fun t w => run_float_arith (P := Try.prog) w .sub t .f64 _ _ _ e1
  have k2 := fun t w => run_float_arith (P := Try.prog) w .sub t .f64 _ _ _ e2
  have k3 := fun t w => run_float_arith (P := Try.prog) w .sub t .f64 _ _ _ e3
  have k4 := fun t w => run_float_arith (P := Try.prog) w .sub t .f64 _ _ _ e4
  obtain ⟨⟨m1, m2, f1, f2, c1⟩, ⟨n1, n2, f3, f4, g1⟩, ⟨o1, o2, f5, f6, g2⟩, ⟨u1, u2, f7, f8, c2⟩, ⟨v1, v2, f9, f10, c3⟩, hlast⟩ := HF
  have j1 := fun t w => run_float_arith (P := Try.prog) w .mul t .f64 _ _ _ f1
  have j2 := fun t w => run_float_arith (P := Try.prog) w .mul t .f64 _ _ _ f2
  have j3 := fun t w => run_float_arith (P := Try.prog) w .mul t .f64 _ _ _ f3
  have j4 := fun t w => run_float_arith (P := Try.prog) w .add t .f64 _ _ _ f4
  have j5 := fun t w => run_float_arith (P := Try.prog) w .mul t .f64 _ _ _ f5
  have j6 := fun t w => run_float_arith (P := Try.prog) w .add t .f64 _ _ _ f6
  have j7 := fun t w => run_float_arith (P := Try.prog) w .sub t .f64 _ _ _ f7
  have j8 := fun t w => run_float_arith (P := Try.prog) w .quo t .f64 _ _ _ f8
  have j9 := fun t w => run_float_arith (P := Try.prog) w .sub t .f64 _ _ _ f9
  have j10 := fun t w => run_float_arith (P := Try.prog) w .quo t .f64 _ _ _ f10
  have HC1 := Lib.hid c1
  have HC2 := Lib.hid c2
  have HC3 := Lib.hid c3
  have HL := Lib.hid hlast
  have HB := Lib.hid (implBest a b c d a' b' c' d' up p q r s 0 HG)
  have z00 : (FloatKind.f64.format.order 0 0 != some .eq) = false := by decide +kernel
  clear e1 e2 e3 e4 f1 f2 f3 f4 f5 f6 f7 f8 f9 f10 c1 c2 c3 hlast HG
  go_enter Try.func10, Try.ntmps10
  go_wp2_with fail
  go_quiet (fail)
  go_wp2_with fail
  go_quiet (fail)
  go_wp2_with fail
  refine (HP1.out _).mono ?_
  rintro e w1 ⟨rfl, hb⟩
  have y0 : w1.cell? ⟨w.heap.size, 0, none⟩ = some (.float .f64 a) := keepC hb (by simp [go_sem])
  have y1 : w1.cell? ⟨w.heap.size, 1, none⟩ = some (.float .f64 b) := keepC hb (by simp [go_sem])
  have y2 : w1.cell? ⟨w.heap.size, 2, none⟩ = some (.float .f64 c) := keepC hb (by simp [go_sem])
  have y3 : w1.cell? ⟨w.heap.size, 3, none⟩ = some (.float .f64 d) := keepC hb (by simp [go_sem])
  have z0 : w1.cell? ⟨w.heap.size + 1, 0, none⟩ = some (.float .f64 a') := keepC hb (by simp [go_sem])
  have z1 : w1.cell? ⟨w.heap.size + 1, 1, none⟩ = some (.float .f64 b') := keepC hb (by simp [go_sem])
  have z2 : w1.cell? ⟨w.heap.size + 1, 2, none⟩ = some (.float .f64 c') := keepC hb (by simp [go_sem])
  have z3 : w1.cell? ⟨w.heap.size + 1, 3, none⟩ = some (.float .f64 d') := keepC hb (by simp [go_sem])
  have HB1 : Hid (Below w.heap.size w w1) := by
    refine thenC ?_ hb
    repeat' (first | exact Below.refl _ _ | refine Below.drew ?_ | refine below_drewN ?_ _ | refine Below.alloc ?_ ?_ _ | (simp; done) | (simp; omega))
  clear hb
  go_wp2_with fail
  refine (HP2.out _).mono ?_
  rintro e w2 ⟨rfl, hb⟩
  have HB2 : Hid (Below w.heap.size w w2) := thenC HB1.out hb
  replace y0 := keepC hb y0
  replace y1 := keepC hb y1
  replace y2 := keepC hb y2
  replace y3 := keepC hb y3
  replace z0 := keepC hb z0
  replace z1 := keepC hb z1
  replace z2 := keepC hb z2
  replace z3 := keepC hb z3
  clear hb
  go_wp2_with fail
  refine (HB.out _).mono ?_
  rintro e w3 ⟨rfl, hb⟩
  have HB3 : Hid (Below w.heap.size w w3) := thenC HB2.out hb
  clear hb y0 y1 y2 y3 z0 z1 z2 z3
  go_wp2_with fail
  refine (HC1.out _).mono ?_
  rintro e w4 ⟨rfl, rfl⟩
  go_wp2_with fail
  refine (HC2.out _).mono ?_
  rintro e w4 ⟨rfl, rfl⟩
  go_wp2_with fail
  refine (HC3.out _).mono ?_
  rintro e w4 ⟨rfl, rfl⟩
  by_cases hown : (q1 && q2 && !up) = true
  · have hl := HL.out
    rw [if_pos hown] at hl
    obtain ⟨t1, t2⟩ := hl
    have T1 := Lib.hid t1
    have T2 := Lib.hid t2
    clear t1 t2 HL
    simp only [Bool.and_eq_true, Bool.not_eq_true'] at hown
    obtain ⟨⟨rfl, rfl⟩, rfl⟩ := hown
    go_wp2_with fail
    refine (T1.out _).mono ?_
    rintro e w4 ⟨rfl, rfl⟩
    go_wp2_with fail
    refine (T2.out _).mono ?_
    rintro e w4 ⟨rfl, rfl⟩
    go_wp2
    go_ret
    exact ⟨rfl, HB3.out⟩
  · have hl := HL.out
    rw [if_neg hown] at hl
    obtain ⟨b1, b2, t1, t2, hb⟩ := hl
    have T1 := Lib.hid t1
    have T2 := Lib.hid t2
    clear t1 t2 HL
    cases b1
    · obtain rfl : b2 = true := by simpa using hb
      clear hb
      cases q1 <;> cases q2 <;> cases up <;> (first | (exact absurd rfl hown) | skip) <;> clear hown
      all_goals
        go_wp2_with fail
        refine (T1.out _).mono ?_
        rintro e w4 ⟨rfl, rfl⟩
        go_wp2_with fail
        refine (T2.out _).mono ?_
        rintro e w4 ⟨rfl, rfl⟩
        go_wp2
        go_ret
        exact ⟨rfl, HB3.out⟩
    · clear hb T2
      cases q1 <;> cases q2 <;> cases up <;> (first | (exact absurd rfl hown) | skip) <;> clear hown
      all_goals
        go_wp2_with fail
        refine (T1.out _).mono ?_
        rintro e w4 ⟨rfl, rfl⟩
        go_wp2
        go_ret
        exact ⟨rfl, HB3.out⟩

set_option maxRecDepth 100000 in
set_option maxHeartbeats 8000000 in
theorem best_in_ff (a b c d a' b' c' d' ws hs wd hd : Nat) (up : Bool) (e1 : floatBits .sub .f64 c a = some ws) (e2 : floatBits .sub .f64 d b = some hs) (e3 : floatBits .sub .f64 c' a' = some wd) (e4 : floatBits .sub .f64 d' b' = some hd) (w : World)
    (HP1 : Hid (∀ w, Calls Try.prog 16 #[rv a b c d] w fun e w' => e = .returned (.bool true) ∧ Below w.heap.size w w')) (HP2 : Hid (∀ w, Calls Try.prog 16 #[rv a' b' c' d'] w fun e w' => e = .returned (.bool true) ∧ Below w.heap.size w w'))
    (l0 : (FloatKind.f64.format.order ws 4607182418800017408 == some .lt) = false) (l1 : (FloatKind.f64.format.order hs 4607182418800017408 == some .lt) = false) (l2 : (FloatKind.f64.format.order wd 4607182418800017408 == some .lt) = false) (l3 : (FloatKind.f64.format.order hd 4607182418800017408 == some .lt) = false) (l4 : (FloatKind.f64.format.order ws hs == some .gt) = false) (l5 : (FloatKind.f64.format.order wd hd == some .gt) = false) (l6 : (FloatKind.f64.format.order ws hs == some .lt) = false) (l7 : (FloatKind.f64.format.order wd hd == some .lt) = false)
    (p q r s : Nat) (HG : Gives a b c d a' b' c' d' up p q r s 0) (q1 q2 : Bool)
    (l8 : (FloatKind.f64.format.order ws wd == some .lt || FloatKind.f64.format.order ws wd == some .eq) = q1) (l9 : (FloatKind.f64.format.order hs hd == some .lt || FloatKind.f64.format.order hs hd == some .eq) = q2)
    (HF : Fine5 ws hs wd hd p q r s (q1 && q2 && !up)) :
    Calls Try.prog 10 #[rv a b c d, rv a' b' c' d', .bool up] w fun e w' => e = .returned (.bool true) ∧ Below w.heap.size w w' := by
  have k1 := fun t w => run_float_arith (P := Try.prog) w .sub t .f64 _ _ _ e1
  have k2 := fun t w => run_float_arith (P := Try.prog) w .sub t .f64 _ _ _ e2
  have k3 := fun t w => run_float_arith (P := Try.prog) w .sub t .f64 _ _ _ e3
  have k4 := fun t w => run_float_arith (P := Try.prog) w .sub t .f64 _ _ _ e4
  obtain ⟨⟨m1, m2, f1, f2, c1⟩, ⟨n1, n2, f3, f4, g1⟩, ⟨o1, o2, f5, f6, g2⟩, ⟨u1, u2, f7, f8, c2⟩, ⟨v1, v2, f9, f10, c3⟩, hlast⟩ := HF
  have j1 := fun t w => run_float_arith (P := Try.prog) w .mul t .f64 _ _ _ f1
  have j2 := fun t w => run_float_arith (P := Try.prog) w .mul t .f64 _ _ _ f2
  have j3 := fun t w => run_float_arith (P := Try.prog) w .mul t .f64 _ _ _ f3
  have j4 := fun t w => run_float_arith (P := Try.prog) w .add t .f64 _ _ _ f4
  have j5 := fun t w => run_float_arith (P := Try.prog) w .mul t .f64 _ _ _ f5
  have j6 := fun t w => run_float_arith (P := Try.prog) w .add t .f64 _ _ _ f6
  have j7 := fun t w => run_float_arith (P := Try.prog) w .sub t .f64 _ _ _ f7
  have j8 := fun t w => run_float_arith (P := Try.prog) w .quo t .f64 _ _ _ f8
  have j9 := fun t w => run_float_arith (P := Try.prog) w .sub t .f64 _ _ _ f9
  have j10 := fun t w => run_float_arith (P := Try.prog) w .quo t .f64 _ _ _ f10
  have HC1 := Lib.hid c1
  have HC2 := Lib.hid c2
  have HC3 := Lib.hid c3
  have HL := Lib.hid hlast
  have HB := Lib.hid (implBest a b c d a' b' c' d' up p q r s 0 HG)
  have z00 : (FloatKind.f64.format.order 0 0 != some .eq) = false := by decide +kernel
  clear e1 e2 e3 e4 f1 f2 f3 f4 f5 f6 f7 f8 f9 f10 c1 c2 c3 hlast HG
  go_enter Try.func10, Try.ntmps10
  go_wp2_with fail
  go_quiet (fail)
  go_wp2_with fail
  go_quiet (fail)
  go_wp2_with fail
  refine (HP1.out _).mono ?_
  rintro e w1 ⟨rfl, hb⟩
  have y0 : w1.cell? ⟨w.heap.size, 0, none⟩ = some (.float .f64 a) := keepC hb (by simp [go_sem])
  have y1 : w1.cell? ⟨w.heap.size, 1, none⟩ = some (.float .f64 b) := keepC hb (by simp [go_sem])
  have y2 : w1.cell? ⟨w.heap.size, 2, none⟩ = some (.float .f64 c) := keepC hb (by simp [go_sem])
  have y3 : w1.cell? ⟨w.heap.size, 3, none⟩ = some (.float .f64 d) := keepC hb (by simp [go_sem])
  have z0 : w1.cell? ⟨w.heap.size + 1, 0, none⟩ = some (.float .f64 a') := keepC hb (by simp [go_sem])
  have z1 : w1.cell? ⟨w.heap.size + 1, 1, none⟩ = some (.float .f64 b') := keepC hb (by simp [go_sem])
  have z2 : w1.cell? ⟨w.heap.size + 1, 2, none⟩ = some (.float .f64 c') := keepC hb (by simp [go_sem])
  have z3 : w1.cell? ⟨w.heap.size + 1, 3, none⟩ = some (.float .f64 d') := keepC hb (by simp [go_sem])
  have HB1 : Hid (Below w.heap.size w w1) := by
    refine thenC ?_ hb
    repeat' (first | exact Below.refl _ _ | refine Below.drew ?_ | refine below_drewN ?_ _ | refine Below.alloc ?_ ?_ _ | (simp; done) | (simp; omega))
  clear hb
  go_wp2_with fail
  refine (HP2.out _).mono ?_
  rintro e w2 ⟨rfl, hb⟩
  have HB2 : Hid (Below w.heap.size w w2) := thenC HB1.out hb
  replace y0 := keepC hb y0
  replace y1 := keepC hb y1
  replace y2 := keepC hb y2
  replace y3 := keepC hb y3
  replace z0 := keepC hb z0
  replace z1 := keepC hb z1
  replace z2 := keepC hb z2
  replace z3 := keepC hb z3
  clear hb
  go_wp2_with fail
  refine (HB.out _).mono ?_
  rintro e w3 ⟨rfl, hb⟩
  have HB3 : Hid (Below w.heap.size w w3) := thenC HB2.out hb
  clear hb y0 y1 y2 y3 z0 z1 z2 z3
  go_wp2_with fail
  refine (HC1.out _).mono ?_
  rintro e w4 ⟨rfl, rfl⟩
  go_wp2_with fail
  refine (HC2.out _).mono ?_
  rintro e w4 ⟨rfl, rfl⟩
  go_wp2_with fail
  refine (HC3.out _).mono ?_
  rintro e w4 ⟨rfl, rfl⟩
  by_cases hown : (q1 && q2 && !up) = true
  · have hl := HL.out
    rw [if_pos hown] at hl
    obtain ⟨t1, t2⟩ := hl
    have T1 := Lib.hid t1
    have T2 := Lib.hid t2
    clear t1 t2 HL
    simp only [Bool.and_eq_true, Bool.not_eq_true'] at hown
    obtain ⟨⟨rfl, rfl⟩, rfl⟩ := hown
    go_wp2_with fail
    refine (T1.out _).mono ?_
    rintro e w4 ⟨rfl, rfl⟩
    go_wp2_with fail
    refine (T2.out _).mono ?_
    rintro e w4 ⟨rfl, rfl⟩
    go_wp2
    go_ret
    exact ⟨rfl, HB3.out⟩
  · have hl := HL.out
    rw [if_neg hown] at hl
    obtain ⟨b1, b2, t1, t2, hb⟩ := hl
    have T1 := Lib.hid t1
    have T2 := Lib.hid t2
    clear t1 t2 HL
    cases b1
    · obtain rfl : b2 = true := by simpa using hb
      clear hb
      cases q1 <;> cases q2 <;> cases up <;> (first | (exact absurd rfl hown) | skip) <;> clear hown
      all_goals
        go_wp2_with fail
        refine (T1.out _).mono ?_
        rintro e w4 ⟨rfl, rfl⟩
        go_wp2_with fail
        refine (T2.out _).mono ?_
        rintro e w4 ⟨rfl, rfl⟩
        go_wp2
        go_ret
        exact ⟨rfl, HB3.out⟩
    · clear hb T2
      cases q1 <;> cases q2 <;> cases up <;> (first | (exact absurd rfl hown) | skip) <;> clear hown
      all_goals
        go_wp2_with fail
        refine (T1.out _).mono ?_
        rintro e w4 ⟨rfl, rfl⟩
        go_wp2
        go_ret
        exact ⟨rfl, HB3.out⟩

end Go.Proofs.Ytmaphdfhoddnmaa
