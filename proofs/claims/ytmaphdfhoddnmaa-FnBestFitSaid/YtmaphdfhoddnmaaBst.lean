/-
  BestFitRectIntoRect without a turn, path by path: each region once.
-/
import Derived.Test.YtmaphdfhoddnmaaAsp
namespace Go.Proofs.Ytmaphdfhoddnmaa
open Go.RowKit Fl
set_option linter.unusedVariables false

/-- The words of the two rectangles' widths, heights and aspect ratios. -/
structure Dims (a b c d a' b' c' d' ws hs wd hd sa da : Nat) : Prop where
  hws : floatBits .sub .f64 c a = some ws
  hhs : floatBits .sub .f64 d b = some hs
  hwd : floatBits .sub .f64 c' a' = some wd
  hhd : floatBits .sub .f64 d' b' = some hd
  hsa : floatBits .quo .f64 ws hs = some sa
  hda : floatBits .quo .f64 wd hd = some da

def five (p q r s t : Nat) : Value := .tuple #[.float .f64 p, .float .f64 q, .float .f64 r, .float .f64 s, .float .f64 t]


set_option maxRecDepth 100000 in
set_option maxHeartbeats 4000000 in
theorem best_own (g k a b c d a' b' c' d' ws hs wd hd sa da x1 x2 x3 y1 y2 y3 : Nat) (up q1 q2 : Bool) (H : Dims a b c d a' b' c' d' ws hs wd hd sa da) (hup : up = false) (hfit : (q1 && q2) = true)
    (l1 : (FloatKind.f64.format.order ws wd == some .lt || FloatKind.f64.format.order ws wd == some .eq) = q1) (l2 : (FloatKind.f64.format.order hs hd == some .lt || FloatKind.f64.format.order hs hd == some .eq) = q2)
    (e1 : floatBits .quo .f64 wd 4611686018427387904 = some x1) (e2 : floatBits .quo .f64 ws 4611686018427387904 = some x2) (e3 : floatBits .sub .f64 x1 x2 = some x3) (e4 : floatBits .quo .f64 hd 4611686018427387904 = some y1) (e5 : floatBits .quo .f64 hs 4611686018427387904 = some y2) (e6 : floatBits .sub .f64 y1 y2 = some y3) (w : World) (hr : IsRect w g a b c d) (hr' : IsRect w k a' b' c' d') :
    Calls Try.prog 35 #[.pointer (some ⟨g, 0, none⟩), .pointer (some ⟨k, 0, none⟩), .bool false, .bool up] w fun e w' => e = .returned (.tuple #[.float .f64 ws, .float .f64 hs, .float .f64 x3, .float .f64 y3, .float .f64 0]) ∧ Below w.heap.size w w' := by
  obtain ⟨hws, hhs, hwd, hhd, hsa, hda⟩ := H
  obtain ⟨r0, r1, r2, r3⟩ := hr
  obtain ⟨r4, r5, r6, r7⟩ := hr'
  have HB0 : Hid (Below w.heap.size w w) := Below.refl _ _
  have hfits := fits a b c d k a' b' c' d' ws hs wd hd w ⟨r4, r5, r6, r7⟩ hws hwd hhs hhd q1 q2 l1 l2
  rw [hfit] at hfits
  have HF := Lib.hid hfits
  clear hfits
  have me1 := fun t w => run_float_arith (P := Try.prog) w .quo t .f64 _ _ _ e1
  have me2 := fun t w => run_float_arith (P := Try.prog) w .quo t .f64 _ _ _ e2
  have me3 := fun t w => run_float_arith (P := Try.prog) w .sub t .f64 _ _ _ e3
  have me4 := fun t w => run_float_arith (P := Try.prog) w .quo t .f64 _ _ _ e4
  have me5 := fun t w => run_float_arith (P := Try.prog) w .quo t .f64 _ _ _ e5
  have me6 := fun t w => run_float_arith (P := Try.prog) w .sub t .f64 _ _ _ e6
  subst hup
  clear l1 l2 hfit
  have K0 := Lib.hid (width a b c d ws hws)
  have K1 := Lib.hid (height a b c d hs hhs)
  have K2 := Lib.hid (width a' b' c' d' wd hwd)
  have K3 := Lib.hid (height a' b' c' d' hd hhd)
  clear hws hhs hwd hhd hsa hda e1 e2 e3 e4 e5 e6
  go_enter Try.func35, Try.ntmps35
  go_wp2_with fail
  refine (HF.out).mono ?_
  rintro e w1 ⟨rfl, hb⟩
  have HB1 : Hid (Below w.heap.size w w1) := thenC HB0.out hb
  replace r0 := keepC hb r0
  replace r1 := keepC hb r1
  replace r2 := keepC hb r2
  replace r3 := keepC hb r3
  replace r4 := keepC hb r4
  replace r5 := keepC hb r5
  replace r6 := keepC hb r6
  replace r7 := keepC hb r7
  clear hb
  go_wp2_with fail
  refine (K0.out _).mono ?_
  rintro e w2 ⟨rfl, hb⟩
  have HB2 : Hid (Below w.heap.size w w2) := thenC HB1.out hb
  replace r0 := keepC hb r0
  replace r1 := keepC hb r1
  replace r2 := keepC hb r2
  replace r3 := keepC hb r3
  replace r4 := keepC hb r4
  replace r5 := keepC hb r5
  replace r6 := keepC hb r6
  replace r7 := keepC hb r7
  clear hb
  go_wp2_with fail
  refine (K1.out _).mono ?_
  rintro e w3 ⟨rfl, hb⟩
  have HB3 : Hid (Below w.heap.size w w3) := thenC HB2.out hb
  replace r0 := keepC hb r0
  replace r1 := keepC hb r1
  replace r2 := keepC hb r2
  replace r3 := keepC hb r3
  replace r4 := keepC hb r4
  replace r5 := keepC hb r5
  replace r6 := keepC hb r6
  replace r7 := keepC hb r7
  clear hb
  go_wp2_with fail
  have k0 := cell_regrown r0
  have k1 := cell_regrown r1
  have k2 := cell_regrown r2
  have k3 := cell_regrown r3
  have k4 := cell_regrown r4
  have k5 := cell_regrown r5
  have k6 := cell_regrown r6
  have k7 := cell_regrown r7
  have C0 := Lib.hid fun d' os => Calls.regrown_of (w := w3) (d := d') (os := os) (K2.out _)
  have C1 := Lib.hid fun d' os => Calls.regrown_of (w := w3) (d := d') (os := os) (K0.out _)
  clear r0 r1 r2 r3 r4 r5 r6 r7
  refine wp_region_quiet_below (by kernel_rfl) (by kernel_rfl) ?_
  repeat (go_big_quiet_step ((first | (with_reducible exact C0.out _ _) | (with_reducible exact C1.out _ _))))
  refine wpQuiet_nil ?_
  intro w4 hw'
  obtain ⟨⟨dq, osq⟩, hw4⟩ := hw'
  have HB4 : Hid (Below w.heap.size w w4) := by rw [hw4]; exact thenC HB3.out (below_regrown _ dq osq)
  have r0 := k0 dq osq
  have r1 := k1 dq osq
  have r2 := k2 dq osq
  have r3 := k3 dq osq
  have r4 := k4 dq osq
  have r5 := k5 dq osq
  have r6 := k6 dq osq
  have r7 := k7 dq osq
  rw [← hw4] at r0 r1 r2 r3 r4 r5 r6 r7
  clear k0 k1 k2 k3 k4 k5 k6 k7 hw4 C0 C1
  go_wp2_with fail
  have k0 := cell_regrown r0
  have k1 := cell_regrown r1
  have k2 := cell_regrown r2
  have k3 := cell_regrown r3
  have k4 := cell_regrown r4
  have k5 := cell_regrown r5
  have k6 := cell_regrown r6
  have k7 := cell_regrown r7
  have C0 := Lib.hid fun d' os => Calls.regrown_of (w := w4) (d := d') (os := os) (K3.out _)
  have C1 := Lib.hid fun d' os => Calls.regrown_of (w := w4) (d := d') (os := os) (K1.out _)
  clear r0 r1 r2 r3 r4 r5 r6 r7
  refine wp_region_quiet_below (by kernel_rfl) (by kernel_rfl) ?_
  repeat (go_big_quiet_step ((first | (with_reducible exact C0.out _ _) | (with_reducible exact C1.out _ _))))
  refine wpQuiet_nil ?_
  intro w5 hw'
  obtain ⟨⟨dq, osq⟩, hw5⟩ := hw'
  have HB5 : Hid (Below w.heap.size w w5) := by rw [hw5]; exact thenC HB4.out (below_regrown _ dq osq)
  have r0 := k0 dq osq
  have r1 := k1 dq osq
  have r2 := k2 dq osq
  have r3 := k3 dq osq
  have r4 := k4 dq osq
  have r5 := k5 dq osq
  have r6 := k6 dq osq
  have r7 := k7 dq osq
  rw [← hw5] at r0 r1 r2 r3 r4 r5 r6 r7
  clear k0 k1 k2 k3 k4 k5 k6 k7 hw5 C0 C1
  go_wp2
  exact bodyPost_ret (v := .tuple #[.float .f64 ws, .float .f64 hs, .float .f64 x3, .float .f64 y3, .float .f64 0]) (by simp [results, Try.results35, go_sem]) rfl ⟨rfl, HB5.out⟩


set_option maxRecDepth 100000 in
set_option maxHeartbeats 4000000 in
theorem best_land_w_up (g k a b c d a' b' c' d' ws hs wd hd sa da x1 x2 x3 : Nat) (up q1 q2 : Bool) (H : Dims a b c d a' b' c' d' ws hs wd hd sa da) (hup : up = true)
    (l1 : (FloatKind.f64.format.order ws wd == some .lt || FloatKind.f64.format.order ws wd == some .eq) = q1) (l2 : (FloatKind.f64.format.order hs hd == some .lt || FloatKind.f64.format.order hs hd == some .eq) = q2)
    (g1 : (FloatKind.f64.format.order sa 4607182418800017408 == some .gt) = true) (g2 : (FloatKind.f64.format.order da 4607182418800017408 == some .gt) = true) (g5 : (FloatKind.f64.format.order sa da == some .gt) = true) (e1 : floatBits .quo .f64 wd sa = some x1) (e2 : floatBits .sub .f64 hd x1 = some x2) (e3 : floatBits .quo .f64 x2 4611686018427387904 = some x3) (w : World) (hr : IsRect w g a b c d) (hr' : IsRect w k a' b' c' d') :
    Calls Try.prog 35 #[.pointer (some ⟨g, 0, none⟩), .pointer (some ⟨k, 0, none⟩), .bool false, .bool up] w fun e w' => e = .returned (.tuple #[.float .f64 wd, .float .f64 x1, .float .f64 0, .float .f64 x3, .float .f64 0]) ∧ Below w.heap.size w w' := by
  obtain ⟨hws, hhs, hwd, hhd, hsa, hda⟩ := H
  obtain ⟨r0, r1, r2, r3⟩ := hr
  obtain ⟨r4, r5, r6, r7⟩ := hr'
  have HB0 : Hid (Below w.heap.size w w) := Below.refl _ _
  have g5b := g5
  have me1 := fun t w => run_float_arith (P := Try.prog) w .quo t .f64 _ _ _ e1
  have me2 := fun t w => run_float_arith (P := Try.prog) w .sub t .f64 _ _ _ e2
  have me3 := fun t w => run_float_arith (P := Try.prog) w .quo t .f64 _ _ _ e3
  subst hup
  clear l1 l2
  have K0 := Lib.hid (landscape a b c d ws hs sa true hws hhs hsa g1)
  have K1 := Lib.hid (landscape a' b' c' d' wd hd da true hwd hhd hda g2)
  have K2 := Lib.hid (aspect a b c d ws hs sa hws hhs hsa)
  have K3 := Lib.hid (aspect a' b' c' d' wd hd da hwd hhd hda)
  have K4 := Lib.hid (width a' b' c' d' wd hwd)
  have K5 := Lib.hid (scaledHeight a b c d ws hs sa wd x1 hws hhs hsa e1)
  have K6 := Lib.hid (height a' b' c' d' hd hhd)
  clear hws hhs hwd hhd hsa hda g1 g2 g5 e1 e2 e3
  go_enter Try.func35, Try.ntmps35
  go_wp2_with fail
  refine (K0.out _).mono ?_
  rintro e w1 ⟨rfl, hb⟩
  have HB1 : Hid (Below w.heap.size w w1) := thenC HB0.out hb
  replace r0 := keepC hb r0
  replace r1 := keepC hb r1
  replace r2 := keepC hb r2
  replace r3 := keepC hb r3
  replace r4 := keepC hb r4
  replace r5 := keepC hb r5
  replace r6 := keepC hb r6
  replace r7 := keepC hb r7
  clear hb
  go_wp2_with fail
  refine (K1.out _).mono ?_
  rintro e w2 ⟨rfl, hb⟩
  have HB2 : Hid (Below w.heap.size w w2) := thenC HB1.out hb
  replace r0 := keepC hb r0
  replace r1 := keepC hb r1
  replace r2 := keepC hb r2
  replace r3 := keepC hb r3
  replace r4 := keepC hb r4
  replace r5 := keepC hb r5
  replace r6 := keepC hb r6
  replace r7 := keepC hb r7
  clear hb
  go_wp2_with fail
  have k0 := cell_regrown r0
  have k1 := cell_regrown r1
  have k2 := cell_regrown r2
  have k3 := cell_regrown r3
  have k4 := cell_regrown r4
  have k5 := cell_regrown r5
  have k6 := cell_regrown r6
  have k7 := cell_regrown r7
  have C0 := Lib.hid fun d' os => Calls.regrown_of (w := w2) (d := d') (os := os) (K2.out _)
  have C1 := Lib.hid fun d' os => Calls.regrown_of (w := w2) (d := d') (os := os) (K3.out _)
  clear r0 r1 r2 r3 r4 r5 r6 r7
  refine wp_region_quiet_below (by kernel_rfl) (by kernel_rfl) ?_
  repeat (go_big_quiet_step ((first | (with_reducible exact C0.out _ _) | (with_reducible exact C1.out _ _))))
  refine wpQuiet_nil ?_
  intro w3 hw'
  obtain ⟨⟨dq, osq⟩, hw3⟩ := hw'
  have HB3 : Hid (Below w.heap.size w w3) := by rw [hw3]; exact thenC HB2.out (below_regrown _ dq osq)
  have r0 := k0 dq osq
  have r1 := k1 dq osq
  have r2 := k2 dq osq
  have r3 := k3 dq osq
  have r4 := k4 dq osq
  have r5 := k5 dq osq
  have r6 := k6 dq osq
  have r7 := k7 dq osq
  rw [← hw3] at r0 r1 r2 r3 r4 r5 r6 r7
  clear k0 k1 k2 k3 k4 k5 k6 k7 hw3 C0 C1
  go_wp2_with fail
  refine (K4.out _).mono ?_
  rintro e w4 ⟨rfl, hb⟩
  have HB4 : Hid (Below w.heap.size w w4) := thenC HB3.out hb
  replace r0 := keepC hb r0
  replace r1 := keepC hb r1
  replace r2 := keepC hb r2
  replace r3 := keepC hb r3
  replace r4 := keepC hb r4
  replace r5 := keepC hb r5
  replace r6 := keepC hb r6
  replace r7 := keepC hb r7
  clear hb
  go_wp2_with fail
  refine (K5.out _).mono ?_
  rintro e w5 ⟨rfl, hb⟩
  have HB5 : Hid (Below w.heap.size w w5) := thenC HB4.out hb
  replace r0 := keepC hb r0
  replace r1 := keepC hb r1
  replace r2 := keepC hb r2
  replace r3 := keepC hb r3
  replace r4 := keepC hb r4
  replace r5 := keepC hb r5
  replace r6 := keepC hb r6
  replace r7 := keepC hb r7
  clear hb
  go_wp2_with fail
  refine (K6.out _).mono ?_
  rintro e w6 ⟨rfl, hb⟩
  have HB6 : Hid (Below w.heap.size w w6) := thenC HB5.out hb
  replace r0 := keepC hb r0
  replace r1 := keepC hb r1
  replace r2 := keepC hb r2
  replace r3 := keepC hb r3
  replace r4 := keepC hb r4
  replace r5 := keepC hb r5
  replace r6 := keepC hb r6
  replace r7 := keepC hb r7
  clear hb
  go_wp2
  exact bodyPost_ret (v := .tuple #[.float .f64 wd, .float .f64 x1, .float .f64 0, .float .f64 x3, .float .f64 0]) (by simp [results, Try.results35, go_sem]) rfl ⟨rfl, HB6.out⟩


set_option maxRecDepth 100000 in
set_option maxHeartbeats 4000000 in
theorem best_land_h_up (g k a b c d a' b' c' d' ws hs wd hd sa da x1 x2 x3 : Nat) (up q1 q2 : Bool) (H : Dims a b c d a' b' c' d' ws hs wd hd sa da) (hup : up = true)
    (l1 : (FloatKind.f64.format.order ws wd == some .lt || FloatKind.f64.format.order ws wd == some .eq) = q1) (l2 : (FloatKind.f64.format.order hs hd == some .lt || FloatKind.f64.format.order hs hd == some .eq) = q2)
    (g1 : (FloatKind.f64.format.order sa 4607182418800017408 == some .gt) = true) (g2 : (FloatKind.f64.format.order da 4607182418800017408 == some .gt) = true) (g5 : (FloatKind.f64.format.order sa da == some .gt) = false) (e1 : floatBits .mul .f64 sa hd = some x1) (e2 : floatBits .sub .f64 wd x1 = some x2) (e3 : floatBits .quo .f64 x2 4611686018427387904 = some x3) (w : World) (hr : IsRect w g a b c d) (hr' : IsRect w k a' b' c' d') :
    Calls Try.prog 35 #[.pointer (some ⟨g, 0, none⟩), .pointer (some ⟨k, 0, none⟩), .bool false, .bool up] w fun e w' => e = .returned (.tuple #[.float .f64 x1, .float .f64 hd, .float .f64 x3, .float .f64 0, .float .f64 0]) ∧ Below w.heap.size w w' := by
  obtain ⟨hws, hhs, hwd, hhd, hsa, hda⟩ := H
  obtain ⟨r0, r1, r2, r3⟩ := hr
  obtain ⟨r4, r5, r6, r7⟩ := hr'
  have HB0 : Hid (Below w.heap.size w w) := Below.refl _ _
  have g5b := g5
  have me1 := fun t w => run_float_arith (P := Try.prog) w .mul t .f64 _ _ _ e1
  have me2 := fun t w => run_float_arith (P := Try.prog) w .sub t .f64 _ _ _ e2
  have me3 := fun t w => run_float_arith (P := Try.prog) w .quo t .f64 _ _ _ e3
  subst hup
  clear l1 l2
  have K0 := Lib.hid (landscape a b c d ws hs sa true hws hhs hsa g1)
  have K1 := Lib.hid (landscape a' b' c' d' wd hd da true hwd hhd hda g2)
  have K2 := Lib.hid (aspect a b c d ws hs sa hws hhs hsa)
  have K3 := Lib.hid (aspect a' b' c' d' wd hd da hwd hhd hda)
  have K4 := Lib.hid (height a' b' c' d' hd hhd)
  have K5 := Lib.hid (scaledWidth a b c d ws hs sa hd x1 hws hhs hsa e1)
  have K6 := Lib.hid (width a' b' c' d' wd hwd)
  clear hws hhs hwd hhd hsa hda g1 g2 g5 e1 e2 e3
  go_enter Try.func35, Try.ntmps35
  go_wp2_with fail
  refine (K0.out _).mono ?_
  rintro e w1 ⟨rfl, hb⟩
  have HB1 : Hid (Below w.heap.size w w1) := thenC HB0.out hb
  replace r0 := keepC hb r0
  replace r1 := keepC hb r1
  replace r2 := keepC hb r2
  replace r3 := keepC hb r3
  replace r4 := keepC hb r4
  replace r5 := keepC hb r5
  replace r6 := keepC hb r6
  replace r7 := keepC hb r7
  clear hb
  go_wp2_with fail
  refine (K1.out _).mono ?_
  rintro e w2 ⟨rfl, hb⟩
  have HB2 : Hid (Below w.heap.size w w2) := thenC HB1.out hb
  replace r0 := keepC hb r0
  replace r1 := keepC hb r1
  replace r2 := keepC hb r2
  replace r3 := keepC hb r3
  replace r4 := keepC hb r4
  replace r5 := keepC hb r5
  replace r6 := keepC hb r6
  replace r7 := keepC hb r7
  clear hb
  go_wp2_with fail
  have k0 := cell_regrown r0
  have k1 := cell_regrown r1
  have k2 := cell_regrown r2
  have k3 := cell_regrown r3
  have k4 := cell_regrown r4
  have k5 := cell_regrown r5
  have k6 := cell_regrown r6
  have k7 := cell_regrown r7
  have C0 := Lib.hid fun d' os => Calls.regrown_of (w := w2) (d := d') (os := os) (K2.out _)
  have C1 := Lib.hid fun d' os => Calls.regrown_of (w := w2) (d := d') (os := os) (K3.out _)
  clear r0 r1 r2 r3 r4 r5 r6 r7
  refine wp_region_quiet_below (by kernel_rfl) (by kernel_rfl) ?_
  repeat (go_big_quiet_step ((first | (with_reducible exact C0.out _ _) | (with_reducible exact C1.out _ _))))
  refine wpQuiet_nil ?_
  intro w3 hw'
  obtain ⟨⟨dq, osq⟩, hw3⟩ := hw'
  have HB3 : Hid (Below w.heap.size w w3) := by rw [hw3]; exact thenC HB2.out (below_regrown _ dq osq)
  have r0 := k0 dq osq
  have r1 := k1 dq osq
  have r2 := k2 dq osq
  have r3 := k3 dq osq
  have r4 := k4 dq osq
  have r5 := k5 dq osq
  have r6 := k6 dq osq
  have r7 := k7 dq osq
  rw [← hw3] at r0 r1 r2 r3 r4 r5 r6 r7
  clear k0 k1 k2 k3 k4 k5 k6 k7 hw3 C0 C1
  go_wp2_with fail
  refine (K4.out _).mono ?_
  rintro e w4 ⟨rfl, hb⟩
  have HB4 : Hid (Below w.heap.size w w4) := thenC HB3.out hb
  replace r0 := keepC hb r0
  replace r1 := keepC hb r1
  replace r2 := keepC hb r2
  replace r3 := keepC hb r3
  replace r4 := keepC hb r4
  replace r5 := keepC hb r5
  replace r6 := keepC hb r6
  replace r7 := keepC hb r7
  clear hb
  go_wp2_with fail
  refine (K5.out _).mono ?_
  rintro e w5 ⟨rfl, hb⟩
  have HB5 : Hid (Below w.heap.size w w5) := thenC HB4.out hb
  replace r0 := keepC hb r0
  replace r1 := keepC hb r1
  replace r2 := keepC hb r2
  replace r3 := keepC hb r3
  replace r4 := keepC hb r4
  replace r5 := keepC hb r5
  replace r6 := keepC hb r6
  replace r7 := keepC hb r7
  clear hb
  go_wp2_with fail
  refine (K6.out _).mono ?_
  rintro e w6 ⟨rfl, hb⟩
  have HB6 : Hid (Below w.heap.size w w6) := thenC HB5.out hb
  replace r0 := keepC hb r0
  replace r1 := keepC hb r1
  replace r2 := keepC hb r2
  replace r3 := keepC hb r3
  replace r4 := keepC hb r4
  replace r5 := keepC hb r5
  replace r6 := keepC hb r6
  replace r7 := keepC hb r7
  clear hb
  go_wp2
  exact bodyPost_ret (v := .tuple #[.float .f64 x1, .float .f64 hd, .float .f64 x3, .float .f64 0, .float .f64 0]) (by simp [results, Try.results35, go_sem]) rfl ⟨rfl, HB6.out⟩


set_option maxRecDepth 100000 in
set_option maxHeartbeats 4000000 in
theorem best_port_h_up (g k a b c d a' b' c' d' ws hs wd hd sa da x1 x2 x3 : Nat) (up q1 q2 : Bool) (H : Dims a b c d a' b' c' d' ws hs wd hd sa da) (hup : up = true)
    (l1 : (FloatKind.f64.format.order ws wd == some .lt || FloatKind.f64.format.order ws wd == some .eq) = q1) (l2 : (FloatKind.f64.format.order hs hd == some .lt || FloatKind.f64.format.order hs hd == some .eq) = q2)
    (g1 : (FloatKind.f64.format.order sa 4607182418800017408 == some .gt) = false) (g3 : (FloatKind.f64.format.order sa 4607182418800017408 == some .lt) = true) (g4 : (FloatKind.f64.format.order da 4607182418800017408 == some .lt) = true) (g5 : (FloatKind.f64.format.order sa da == some .lt) = true) (e1 : floatBits .mul .f64 sa hd = some x1) (e2 : floatBits .sub .f64 wd x1 = some x2) (e3 : floatBits .quo .f64 x2 4611686018427387904 = some x3) (w : World) (hr : IsRect w g a b c d) (hr' : IsRect w k a' b' c' d') :
    Calls Try.prog 35 #[.pointer (some ⟨g, 0, none⟩), .pointer (some ⟨k, 0, none⟩), .bool false, .bool up] w fun e w' => e = .returned (.tuple #[.float .f64 x1, .float .f64 hd, .float .f64 x3, .float .f64 0, .float .f64 0]) ∧ Below w.heap.size w w' := by
  obtain ⟨hws, hhs, hwd, hhd, hsa, hda⟩ := H
  obtain ⟨r0, r1, r2, r3⟩ := hr
  obtain ⟨r4, r5, r6, r7⟩ := hr'
  have HB0 : Hid (Below w.heap.size w w) := Below.refl _ _
  have g5b := g5
  have me1 := fun t w => run_float_arith (P := Try.prog) w .mul t .f64 _ _ _ e1
  have me2 := fun t w => run_float_arith (P := Try.prog) w .sub t .f64 _ _ _ e2
  have me3 := fun t w => run_float_arith (P := Try.prog) w .quo t .f64 _ _ _ e3
  subst hup
  clear l1 l2
  have K0 := Lib.hid (landscape a b c d ws hs sa false hws hhs hsa g1)
  have K1 := Lib.hid (portrait a b c d ws hs sa true hws hhs hsa g3)
  have K2 := Lib.hid (portrait a' b' c' d' wd hd da true hwd hhd hda g4)
  have K3 := Lib.hid (aspect a b c d ws hs sa hws hhs hsa)
  have K4 := Lib.hid (aspect a' b' c' d' wd hd da hwd hhd hda)
  have K5 := Lib.hid (height a' b' c' d' hd hhd)
  have K6 := Lib.hid (scaledWidth a b c d ws hs sa hd x1 hws hhs hsa e1)
  have K7 := Lib.hid (width a' b' c' d' wd hwd)
  clear hws hhs hwd hhd hsa hda g1 g3 g4 g5 e1 e2 e3
  go_enter Try.func35, Try.ntmps35
  go_wp2_with fail
  refine (K0.out _).mono ?_
  rintro e w1 ⟨rfl, hb⟩
  have HB1 : Hid (Below w.heap.size w w1) := thenC HB0.out hb
  replace r0 := keepC hb r0
  replace r1 := keepC hb r1
  replace r2 := keepC hb r2
  replace r3 := keepC hb r3
  replace r4 := keepC hb r4
  replace r5 := keepC hb r5
  replace r6 := keepC hb r6
  replace r7 := keepC hb r7
  clear hb
  go_wp2_with fail
  refine (K1.out _).mono ?_
  rintro e w2 ⟨rfl, hb⟩
  have HB2 : Hid (Below w.heap.size w w2) := thenC HB1.out hb
  replace r0 := keepC hb r0
  replace r1 := keepC hb r1
  replace r2 := keepC hb r2
  replace r3 := keepC hb r3
  replace r4 := keepC hb r4
  replace r5 := keepC hb r5
  replace r6 := keepC hb r6
  replace r7 := keepC hb r7
  clear hb
  go_wp2_with fail
  refine (K2.out _).mono ?_
  rintro e w3 ⟨rfl, hb⟩
  have HB3 : Hid (Below w.heap.size w w3) := thenC HB2.out hb
  replace r0 := keepC hb r0
  replace r1 := keepC hb r1
  replace r2 := keepC hb r2
  replace r3 := keepC hb r3
  replace r4 := keepC hb r4
  replace r5 := keepC hb r5
  replace r6 := keepC hb r6
  replace r7 := keepC hb r7
  clear hb
  go_wp2_with fail
  have k0 := cell_regrown r0
  have k1 := cell_regrown r1
  have k2 := cell_regrown r2
  have k3 := cell_regrown r3
  have k4 := cell_regrown r4
  have k5 := cell_regrown r5
  have k6 := cell_regrown r6
  have k7 := cell_regrown r7
  have C0 := Lib.hid fun d' os => Calls.regrown_of (w := w3) (d := d') (os := os) (K3.out _)
  have C1 := Lib.hid fun d' os => Calls.regrown_of (w := w3) (d := d') (os := os) (K4.out _)
  clear r0 r1 r2 r3 r4 r5 r6 r7
  refine wp_region_quiet_below (by kernel_rfl) (by kernel_rfl) ?_
  repeat (go_big_quiet_step ((first | (with_reducible exact C0.out _ _) | (with_reducible exact C1.out _ _))))
  refine wpQuiet_nil ?_
  intro w4 hw'
  obtain ⟨⟨dq, osq⟩, hw4⟩ := hw'
  have HB4 : Hid (Below w.heap.size w w4) := by rw [hw4]; exact thenC HB3.out (below_regrown _ dq osq)
  have r0 := k0 dq osq
  have r1 := k1 dq osq
  have r2 := k2 dq osq
  have r3 := k3 dq osq
  have r4 := k4 dq osq
  have r5 := k5 dq osq
  have r6 := k6 dq osq
  have r7 := k7 dq osq
  rw [← hw4] at r0 r1 r2 r3 r4 r5 r6 r7
  clear k0 k1 k2 k3 k4 k5 k6 k7 hw4 C0 C1
  go_wp2_with fail
  refine (K5.out _).mono ?_
  rintro e w5 ⟨rfl, hb⟩
  have HB5 : Hid (Below w.heap.size w w5) := thenC HB4.out hb
  replace r0 := keepC hb r0
  replace r1 := keepC hb r1
  replace r2 := keepC hb r2
  replace r3 := keepC hb r3
  replace r4 := keepC hb r4
  replace r5 := keepC hb r5
  replace r6 := keepC hb r6
  replace r7 := keepC hb r7
  clear hb
  go_wp2_with fail
  refine (K6.out _).mono ?_
  rintro e w6 ⟨rfl, hb⟩
  have HB6 : Hid (Below w.heap.size w w6) := thenC HB5.out hb
  replace r0 := keepC hb r0
  replace r1 := keepC hb r1
  replace r2 := keepC hb r2
  replace r3 := keepC hb r3
  replace r4 := keepC hb r4
  replace r5 := keepC hb r5
  replace r6 := keepC hb r6
  replace r7 := keepC hb r7
  clear hb
  go_wp2_with fail
  refine (K7.out _).mono ?_
  rintro e w7 ⟨rfl, hb⟩
  have HB7 : Hid (Below w.heap.size w w7) := thenC HB6.out hb
  replace r0 := keepC hb r0
  replace r1 := keepC hb r1
  replace r2 := keepC hb r2
  replace r3 := keepC hb r3
  replace r4 := keepC hb r4
  replace r5 := keepC hb r5
  replace r6 := keepC hb r6
  replace r7 := keepC hb r7
  clear hb
  go_wp2
  exact bodyPost_ret (v := .tuple #[.float .f64 x1, .float .f64 hd, .float .f64 x3, .float .f64 0, .float .f64 0]) (by simp [results, Try.results35, go_sem]) rfl ⟨rfl, HB7.out⟩


set_option maxRecDepth 100000 in
set_option maxHeartbeats 4000000 in
theorem best_port_w_up (g k a b c d a' b' c' d' ws hs wd hd sa da x1 x2 x3 : Nat) (up q1 q2 : Bool) (H : Dims a b c d a' b' c' d' ws hs wd hd sa da) (hup : up = true)
    (l1 : (FloatKind.f64.format.order ws wd == some .lt || FloatKind.f64.format.order ws wd == some .eq) = q1) (l2 : (FloatKind.f64.format.order hs hd == some .lt || FloatKind.f64.format.order hs hd == some .eq) = q2)
    (g1 : (FloatKind.f64.format.order sa 4607182418800017408 == some .gt) = false) (g3 : (FloatKind.f64.format.order sa 4607182418800017408 == some .lt) = true) (g4 : (FloatKind.f64.format.order da 4607182418800017408 == some .lt) = true) (g5 : (FloatKind.f64.format.order sa da == some .lt) = false) (e1 : floatBits .quo .f64 wd sa = some x1) (e2 : floatBits .sub .f64 hd x1 = some x2) (e3 : floatBits .quo .f64 x2 4611686018427387904 = some x3) (w : World) (hr : IsRect w g a b c d) (hr' : IsRect w k a' b' c' d') :
    Calls Try.prog 35 #[.pointer (some ⟨g, 0, none⟩), .pointer (some ⟨k, 0, none⟩), .bool false, .bool up] w fun e w' => e = .returned (.tuple #[.float .f64 wd, .float .f64 x1, .float .f64 0, .float .f64 x3, .float .f64 0]) ∧ Below w.heap.size w w' := by
  obtain ⟨hws, hhs, hwd, hhd, hsa, hda⟩ := H
  obtain ⟨r0, r1, r2, r3⟩ := hr
  obtain ⟨r4, r5, r6, r7⟩ := hr'
  have HB0 : Hid (Below w.heap.size w w) := Below.refl _ _
  have g5b := g5
  have me1 := fun t w => run_float_arith (P := Try.prog) w .quo t .f64 _ _ _ e1
  have me2 := fun t w => run_float_arith (P := Try.prog) w .sub t .f64 _ _ _ e2
  have me3 := fun t w => run_float_arith (P := Try.prog) w .quo t .f64 _ _ _ e3
  subst hup
  clear l1 l2
  have K0 := Lib.hid (landscape a b c d ws hs sa false hws hhs hsa g1)
  have K1 := Lib.hid (portrait a b c d ws hs sa true hws hhs hsa g3)
  have K2 := Lib.hid (portrait a' b' c' d' wd hd da true hwd hhd hda g4)
  have K3 := Lib.hid (aspect a b c d ws hs sa hws hhs hsa)
  have K4 := Lib.hid (aspect a' b' c' d' wd hd da hwd hhd hda)
  have K5 := Lib.hid (width a' b' c' d' wd hwd)
  have K6 := Lib.hid (scaledHeight a b c d ws hs sa wd x1 hws hhs hsa e1)
  have K7 := Lib.hid (height a' b' c' d' hd hhd)
  clear hws hhs hwd hhd hsa hda g1 g3 g4 g5 e1 e2 e3
  go_enter Try.func35, Try.ntmps35
  go_wp2_with fail
  refine (K0.out _).mono ?_
  rintro e w1 ⟨rfl, hb⟩
  have HB1 : Hid (Below w.heap.size w w1) := thenC HB0.out hb
  replace r0 := keepC hb r0
  replace r1 := keepC hb r1
  replace r2 := keepC hb r2
  replace r3 := keepC hb r3
  replace r4 := keepC hb r4
  replace r5 := keepC hb r5
  replace r6 := keepC hb r6
  replace r7 := keepC hb r7
  clear hb
  go_wp2_with fail
  refine (K1.out _).mono ?_
  rintro e w2 ⟨rfl, hb⟩
  have HB2 : Hid (Below w.heap.size w w2) := thenC HB1.out hb
  replace r0 := keepC hb r0
  replace r1 := keepC hb r1
  replace r2 := keepC hb r2
  replace r3 := keepC hb r3
  replace r4 := keepC hb r4
  replace r5 := keepC hb r5
  replace r6 := keepC hb r6
  replace r7 := keepC hb r7
  clear hb
  go_wp2_with fail
  refine (K2.out _).mono ?_
  rintro e w3 ⟨rfl, hb⟩
  have HB3 : Hid (Below w.heap.size w w3) := thenC HB2.out hb
  replace r0 := keepC hb r0
  replace r1 := keepC hb r1
  replace r2 := keepC hb r2
  replace r3 := keepC hb r3
  replace r4 := keepC hb r4
  replace r5 := keepC hb r5
  replace r6 := keepC hb r6
  replace r7 := keepC hb r7
  clear hb
  go_wp2_with fail
  have k0 := cell_regrown r0
  have k1 := cell_regrown r1
  have k2 := cell_regrown r2
  have k3 := cell_regrown r3
  have k4 := cell_regrown r4
  have k5 := cell_regrown r5
  have k6 := cell_regrown r6
  have k7 := cell_regrown r7
  have C0 := Lib.hid fun d' os => Calls.regrown_of (w := w3) (d := d') (os := os) (K3.out _)
  have C1 := Lib.hid fun d' os => Calls.regrown_of (w := w3) (d := d') (os := os) (K4.out _)
  clear r0 r1 r2 r3 r4 r5 r6 r7
  refine wp_region_quiet_below (by kernel_rfl) (by kernel_rfl) ?_
  repeat (go_big_quiet_step ((first | (with_reducible exact C0.out _ _) | (with_reducible exact C1.out _ _))))
  refine wpQuiet_nil ?_
  intro w4 hw'
  obtain ⟨⟨dq, osq⟩, hw4⟩ := hw'
  have HB4 : Hid (Below w.heap.size w w4) := by rw [hw4]; exact thenC HB3.out (below_regrown _ dq osq)
  have r0 := k0 dq osq
  have r1 := k1 dq osq
  have r2 := k2 dq osq
  have r3 := k3 dq osq
  have r4 := k4 dq osq
  have r5 := k5 dq osq
  have r6 := k6 dq osq
  have r7 := k7 dq osq
  rw [← hw4] at r0 r1 r2 r3 r4 r5 r6 r7
  clear k0 k1 k2 k3 k4 k5 k6 k7 hw4 C0 C1
  go_wp2_with fail
  refine (K5.out _).mono ?_
  rintro e w5 ⟨rfl, hb⟩
  have HB5 : Hid (Below w.heap.size w w5) := thenC HB4.out hb
  replace r0 := keepC hb r0
  replace r1 := keepC hb r1
  replace r2 := keepC hb r2
  replace r3 := keepC hb r3
  replace r4 := keepC hb r4
  replace r5 := keepC hb r5
  replace r6 := keepC hb r6
  replace r7 := keepC hb r7
  clear hb
  go_wp2_with fail
  refine (K6.out _).mono ?_
  rintro e w6 ⟨rfl, hb⟩
  have HB6 : Hid (Below w.heap.size w w6) := thenC HB5.out hb
  replace r0 := keepC hb r0
  replace r1 := keepC hb r1
  replace r2 := keepC hb r2
  replace r3 := keepC hb r3
  replace r4 := keepC hb r4
  replace r5 := keepC hb r5
  replace r6 := keepC hb r6
  replace r7 := keepC hb r7
  clear hb
  go_wp2_with fail
  refine (K7.out _).mono ?_
  rintro e w7 ⟨rfl, hb⟩
  have HB7 : Hid (Below w.heap.size w w7) := thenC HB6.out hb
  replace r0 := keepC hb r0
  replace r1 := keepC hb r1
  replace r2 := keepC hb r2
  replace r3 := keepC hb r3
  replace r4 := keepC hb r4
  replace r5 := keepC hb r5
  replace r6 := keepC hb r6
  replace r7 := keepC hb r7
  clear hb
  go_wp2
  exact bodyPost_ret (v := .tuple #[.float .f64 wd, .float .f64 x1, .float .f64 0, .float .f64 x3, .float .f64 0]) (by simp [results, Try.results35, go_sem]) rfl ⟨rfl, HB7.out⟩


set_option maxRecDepth 100000 in
set_option maxHeartbeats 4000000 in
theorem best_square_up (g k a b c d a' b' c' d' ws hs wd hd sa da x1 x2 x3 x4 : Nat) (up q1 q2 : Bool) (H : Dims a b c d a' b' c' d' ws hs wd hd sa da) (hup : up = true)
    (l1 : (FloatKind.f64.format.order ws wd == some .lt || FloatKind.f64.format.order ws wd == some .eq) = q1) (l2 : (FloatKind.f64.format.order hs hd == some .lt || FloatKind.f64.format.order hs hd == some .eq) = q2)
    (g1 : (FloatKind.f64.format.order sa 4607182418800017408 == some .gt) = false) (g3 : (FloatKind.f64.format.order sa 4607182418800017408 == some .lt) = false) (g4 : (FloatKind.f64.format.order da 4607182418800017408 == some .lt) = false) (e1 : floatBits .mul .f64 sa hd = some x1) (e2 : floatBits .quo .f64 wd 4611686018427387904 = some x2) (e3 : floatBits .quo .f64 x1 4611686018427387904 = some x3) (e4 : floatBits .sub .f64 x2 x3 = some x4) (w : World) (hr : IsRect w g a b c d) (hr' : IsRect w k a' b' c' d') :
    Calls Try.prog 35 #[.pointer (some ⟨g, 0, none⟩), .pointer (some ⟨k, 0, none⟩), .bool false, .bool up] w fun e w' => e = .returned (.tuple #[.float .f64 hd, .float .f64 hd, .float .f64 x4, .float .f64 0, .float .f64 0]) ∧ Below w.heap.size w w' := by
  obtain ⟨hws, hhs, hwd, hhd, hsa, hda⟩ := H
  obtain ⟨r0, r1, r2, r3⟩ := hr
  obtain ⟨r4, r5, r6, r7⟩ := hr'
  have HB0 : Hid (Below w.heap.size w w) := Below.refl _ _
  have me1 := fun t w => run_float_arith (P := Try.prog) w .mul t .f64 _ _ _ e1
  have me2 := fun t w => run_float_arith (P := Try.prog) w .quo t .f64 _ _ _ e2
  have me3 := fun t w => run_float_arith (P := Try.prog) w .quo t .f64 _ _ _ e3
  have me4 := fun t w => run_float_arith (P := Try.prog) w .sub t .f64 _ _ _ e4
  subst hup
  clear l1 l2
  have K0 := Lib.hid (landscape a b c d ws hs sa false hws hhs hsa g1)
  have K1 := Lib.hid (portrait a b c d ws hs sa false hws hhs hsa g3)
  have K2 := Lib.hid (portrait a' b' c' d' wd hd da false hwd hhd hda g4)
  have K3 := Lib.hid (height a' b' c' d' hd hhd)
  have K4 := Lib.hid (width a' b' c' d' wd hwd)
  have K5 := Lib.hid (scaledWidth a b c d ws hs sa hd x1 hws hhs hsa e1)
  clear hws hhs hwd hhd hsa hda g1 g3 g4 e1 e2 e3 e4
  go_enter Try.func35, Try.ntmps35
  go_wp2_with fail
  refine (K0.out _).mono ?_
  rintro e w1 ⟨rfl, hb⟩
  have HB1 : Hid (Below w.heap.size w w1) := thenC HB0.out hb
  replace r0 := keepC hb r0
  replace r1 := keepC hb r1
  replace r2 := keepC hb r2
  replace r3 := keepC hb r3
  replace r4 := keepC hb r4
  replace r5 := keepC hb r5
  replace r6 := keepC hb r6
  replace r7 := keepC hb r7
  clear hb
  go_wp2_with fail
  refine (K1.out _).mono ?_
  rintro e w2 ⟨rfl, hb⟩
  have HB2 : Hid (Below w.heap.size w w2) := thenC HB1.out hb
  replace r0 := keepC hb r0
  replace r1 := keepC hb r1
  replace r2 := keepC hb r2
  replace r3 := keepC hb r3
  replace r4 := keepC hb r4
  replace r5 := keepC hb r5
  replace r6 := keepC hb r6
  replace r7 := keepC hb r7
  clear hb
  go_wp2_with fail
  refine (K2.out _).mono ?_
  rintro e w3 ⟨rfl, hb⟩
  have HB3 : Hid (Below w.heap.size w w3) := thenC HB2.out hb
  replace r0 := keepC hb r0
  replace r1 := keepC hb r1
  replace r2 := keepC hb r2
  replace r3 := keepC hb r3
  replace r4 := keepC hb r4
  replace r5 := keepC hb r5
  replace r6 := keepC hb r6
  replace r7 := keepC hb r7
  clear hb
  go_wp2_with fail
  refine (K3.out _).mono ?_
  rintro e w4 ⟨rfl, hb⟩
  have HB4 : Hid (Below w.heap.size w w4) := thenC HB3.out hb
  replace r0 := keepC hb r0
  replace r1 := keepC hb r1
  replace r2 := keepC hb r2
  replace r3 := keepC hb r3
  replace r4 := keepC hb r4
  replace r5 := keepC hb r5
  replace r6 := keepC hb r6
  replace r7 := keepC hb r7
  clear hb
  go_wp2_with fail
  have k0 := cell_regrown r0
  have k1 := cell_regrown r1
  have k2 := cell_regrown r2
  have k3 := cell_regrown r3
  have k4 := cell_regrown r4
  have k5 := cell_regrown r5
  have k6 := cell_regrown r6
  have k7 := cell_regrown r7
  have C0 := Lib.hid fun d' os => Calls.regrown_of (w := w4) (d := d') (os := os) (K4.out _)
  have C1 := Lib.hid fun d' os => Calls.regrown_of (w := w4) (d := d') (os := os) (K5.out _)
  clear r0 r1 r2 r3 r4 r5 r6 r7
  refine wp_region_quiet_below (by kernel_rfl) (by kernel_rfl) ?_
  repeat (go_big_quiet_step ((first | (with_reducible exact C0.out _ _) | (with_reducible exact C1.out _ _))))
  refine wpQuiet_nil ?_
  intro w5 hw'
  obtain ⟨⟨dq, osq⟩, hw5⟩ := hw'
  have HB5 : Hid (Below w.heap.size w w5) := by rw [hw5]; exact thenC HB4.out (below_regrown _ dq osq)
  have r0 := k0 dq osq
  have r1 := k1 dq osq
  have r2 := k2 dq osq
  have r3 := k3 dq osq
  have r4 := k4 dq osq
  have r5 := k5 dq osq
  have r6 := k6 dq osq
  have r7 := k7 dq osq
  rw [← hw5] at r0 r1 r2 r3 r4 r5 r6 r7
  clear k0 k1 k2 k3 k4 k5 k6 k7 hw5 C0 C1
  go_wp2
  exact bodyPost_ret (v := .tuple #[.float .f64 hd, .float .f64 hd, .float .f64 x4, .float .f64 0, .float .f64 0]) (by simp [results, Try.results35, go_sem]) rfl ⟨rfl, HB5.out⟩


set_option maxRecDepth 100000 in
set_option maxHeartbeats 4000000 in
theorem best_land_w_no (g k a b c d a' b' c' d' ws hs wd hd sa da x1 x2 x3 : Nat) (up q1 q2 : Bool) (H : Dims a b c d a' b' c' d' ws hs wd hd sa da) (hup : up = false) (hfit : (q1 && q2) = false)
    (l1 : (FloatKind.f64.format.order ws wd == some .lt || FloatKind.f64.format.order ws wd == some .eq) = q1) (l2 : (FloatKind.f64.format.order hs hd == some .lt || FloatKind.f64.format.order hs hd == some .eq) = q2)
    (g1 : (FloatKind.f64.format.order sa 4607182418800017408 == some .gt) = true) (g2 : (FloatKind.f64.format.order da 4607182418800017408 == some .gt) = true) (g5 : (FloatKind.f64.format.order sa da == some .gt) = true) (e1 : floatBits .quo .f64 wd sa = some x1) (e2 : floatBits .sub .f64 hd x1 = some x2) (e3 : floatBits .quo .f64 x2 4611686018427387904 = some x3) (w : World) (hr : IsRect w g a b c d) (hr' : IsRect w k a' b' c' d') :
    Calls Try.prog 35 #[.pointer (some ⟨g, 0, none⟩), .pointer (some ⟨k, 0, none⟩), .bool false, .bool up] w fun e w' => e = .returned (.tuple #[.float .f64 wd, .float .f64 x1, .float .f64 0, .float .f64 x3, .float .f64 0]) ∧ Below w.heap.size w w' := by
  obtain ⟨hws, hhs, hwd, hhd, hsa, hda⟩ := H
  obtain ⟨r0, r1, r2, r3⟩ := hr
  obtain ⟨r4, r5, r6, r7⟩ := hr'
  have HB0 : Hid (Below w.heap.size w w) := Below.refl _ _
  have hfits := fits a b c d k a' b' c' d' ws hs wd hd w ⟨r4, r5, r6, r7⟩ hws hwd hhs hhd q1 q2 l1 l2
  rw [hfit] at hfits
  have HF := Lib.hid hfits
  clear hfits
  have g5b := g5
  have me1 := fun t w => run_float_arith (P := Try.prog) w .quo t .f64 _ _ _ e1
  have me2 := fun t w => run_float_arith (P := Try.prog) w .sub t .f64 _ _ _ e2
  have me3 := fun t w => run_float_arith (P := Try.prog) w .quo t .f64 _ _ _ e3
  subst hup
  clear l1 l2 hfit
  have K0 := Lib.hid (landscape a b c d ws hs sa true hws hhs hsa g1)
  have K1 := Lib.hid (landscape a' b' c' d' wd hd da true hwd hhd hda g2)
  have K2 := Lib.hid (aspect a b c d ws hs sa hws hhs hsa)
  have K3 := Lib.hid (aspect a' b' c' d' wd hd da hwd hhd hda)
  have K4 := Lib.hid (width a' b' c' d' wd hwd)
  have K5 := Lib.hid (scaledHeight a b c d ws hs sa wd x1 hws hhs hsa e1)
  have K6 := Lib.hid (height a' b' c' d' hd hhd)
  clear hws hhs hwd hhd hsa hda g1 g2 g5 e1 e2 e3
  go_enter Try.func35, Try.ntmps35
  go_wp2_with fail
  refine (HF.out).mono ?_
  rintro e w1 ⟨rfl, hb⟩
  have HB1 : Hid (Below w.heap.size w w1) := thenC HB0.out hb
  replace r0 := keepC hb r0
  replace r1 := keepC hb r1
  replace r2 := keepC hb r2
  replace r3 := keepC hb r3
  replace r4 := keepC hb r4
  replace r5 := keepC hb r5
  replace r6 := keepC hb r6
  replace r7 := keepC hb r7
  clear hb
  go_wp2_with fail
  refine (K0.out _).mono ?_
  rintro e w2 ⟨rfl, hb⟩
  have HB2 : Hid (Below w.heap.size w w2) := thenC HB1.out hb
  replace r0 := keepC hb r0
  replace r1 := keepC hb r1
  replace r2 := keepC hb r2
  replace r3 := keepC hb r3
  replace r4 := keepC hb r4
  replace r5 := keepC hb r5
  replace r6 := keepC hb r6
  replace r7 := keepC hb r7
  clear hb
  go_wp2_with fail
  refine (K1.out _).mono ?_
  rintro e w3 ⟨rfl, hb⟩
  have HB3 : Hid (Below w.heap.size w w3) := thenC HB2.out hb
  replace r0 := keepC hb r0
  replace r1 := keepC hb r1
  replace r2 := keepC hb r2
  replace r3 := keepC hb r3
  replace r4 := keepC hb r4
  replace r5 := keepC hb r5
  replace r6 := keepC hb r6
  replace r7 := keepC hb r7
  clear hb
  go_wp2_with fail
  have k0 := cell_regrown r0
  have k1 := cell_regrown r1
  have k2 := cell_regrown r2
  have k3 := cell_regrown r3
  have k4 := cell_regrown r4
  have k5 := cell_regrown r5
  have k6 := cell_regrown r6
  have k7 := cell_regrown r7
  have C0 := Lib.hid fun d' os => Calls.regrown_of (w := w3) (d := d') (os := os) (K2.out _)
  have C1 := Lib.hid fun d' os => Calls.regrown_of (w := w3) (d := d') (os := os) (K3.out _)
  clear r0 r1 r2 r3 r4 r5 r6 r7
  refine wp_region_quiet_below (by kernel_rfl) (by kernel_rfl) ?_
  repeat (go_big_quiet_step ((first | (with_reducible exact C0.out _ _) | (with_reducible exact C1.out _ _))))
  refine wpQuiet_nil ?_
  intro w4 hw'
  obtain ⟨⟨dq, osq⟩, hw4⟩ := hw'
  have HB4 : Hid (Below w.heap.size w w4) := by rw [hw4]; exact thenC HB3.out (below_regrown _ dq osq)
  have r0 := k0 dq osq
  have r1 := k1 dq osq
  have r2 := k2 dq osq
  have r3 := k3 dq osq
  have r4 := k4 dq osq
  have r5 := k5 dq osq
  have r6 := k6 dq osq
  have r7 := k7 dq osq
  rw [← hw4] at r0 r1 r2 r3 r4 r5 r6 r7
  clear k0 k1 k2 k3 k4 k5 k6 k7 hw4 C0 C1
  go_wp2_with fail
  refine (K4.out _).mono ?_
  rintro e w5 ⟨rfl, hb⟩
  have HB5 : Hid (Below w.heap.size w w5) := thenC HB4.out hb
  replace r0 := keepC hb r0
  replace r1 := keepC hb r1
  replace r2 := keepC hb r2
  replace r3 := keepC hb r3
  replace r4 := keepC hb r4
  replace r5 := keepC hb r5
  replace r6 := keepC hb r6
  replace r7 := keepC hb r7
  clear hb
  go_wp2_with fail
  refine (K5.out _).mono ?_
  rintro e w6 ⟨rfl, hb⟩
  have HB6 : Hid (Below w.heap.size w w6) := thenC HB5.out hb
  replace r0 := keepC hb r0
  replace r1 := keepC hb r1
  replace r2 := keepC hb r2
  replace r3 := keepC hb r3
  replace r4 := keepC hb r4
  replace r5 := keepC hb r5
  replace r6 := keepC hb r6
  replace r7 := keepC hb r7
  clear hb
  go_wp2_with fail
  refine (K6.out _).mono ?_
  rintro e w7 ⟨rfl, hb⟩
  have HB7 : Hid (Below w.heap.size w w7) := thenC HB6.out hb
  replace r0 := keepC hb r0
  replace r1 := keepC hb r1
  replace r2 := keepC hb r2
  replace r3 := keepC hb r3
  replace r4 := keepC hb r4
  replace r5 := keepC hb r5
  replace r6 := keepC hb r6
  replace r7 := keepC hb r7
  clear hb
  go_wp2
  exact bodyPost_ret (v := .tuple #[.float .f64 wd, .float .f64 x1, .float .f64 0, .float .f64 x3, .float .f64 0]) (by simp [results, Try.results35, go_sem]) rfl ⟨rfl, HB7.out⟩


set_option maxRecDepth 100000 in
set_option maxHeartbeats 4000000 in
theorem best_land_h_no (g k a b c d a' b' c' d' ws hs wd hd sa da x1 x2 x3 : Nat) (up q1 q2 : Bool) (H : Dims a b c d a' b' c' d' ws hs wd hd sa da) (hup : up = false) (hfit : (q1 && q2) = false)
    (l1 : (FloatKind.f64.format.order ws wd == some .lt || FloatKind.f64.format.order ws wd == some .eq) = q1) (l2 : (FloatKind.f64.format.order hs hd == some .lt || FloatKind.f64.format.order hs hd == some .eq) = q2)
    (g1 : (FloatKind.f64.format.order sa 4607182418800017408 == some .gt) = true) (g2 : (FloatKind.f64.format.order da 4607182418800017408 == some .gt) = true) (g5 : (FloatKind.f64.format.order sa da == some .gt) = false) (e1 : floatBits .mul .f64 sa hd = some x1) (e2 : floatBits .sub .f64 wd x1 = some x2) (e3 : floatBits .quo .f64 x2 4611686018427387904 = some x3) (w : World) (hr : IsRect w g a b c d) (hr' : IsRect w k a' b' c' d') :
    Calls Try.prog 35 #[.pointer (some ⟨g, 0, none⟩), .pointer (some ⟨k, 0, none⟩), .bool false, .bool up] w fun e w' => e = .returned (.tuple #[.float .f64 x1, .float .f64 hd, .float .f64 x3, .float .f64 0, .float .f64 0]) ∧ Below w.heap.size w w' := by
  obtain ⟨hws, hhs, hwd, hhd, hsa, hda⟩ := H
  obtain ⟨r0, r1, r2, r3⟩ := hr
  obtain ⟨r4, r5, r6, r7⟩ := hr'
  have HB0 : Hid (Below w.heap.size w w) := Below.refl _ _
  have hfits := fits a b c d k a' b' c' d' ws hs wd hd w ⟨r4, r5, r6, r7⟩ hws hwd hhs hhd q1 q2 l1 l2
  rw [hfit] at hfits
  have HF := Lib.hid hfits
  clear hfits
  have g5b := g5
  have me1 := fun t w => run_float_arith (P := Try.prog) w .mul t .f64 _ _ _ e1
  have me2 := fun t w => run_float_arith (P := Try.prog) w .sub t .f64 _ _ _ e2
  have me3 := fun t w => run_float_arith (P := Try.prog) w .quo t .f64 _ _ _ e3
  subst hup
  clear l1 l2 hfit
  have K0 := Lib.hid (landscape a b c d ws hs sa true hws hhs hsa g1)
  have K1 := Lib.hid (landscape a' b' c' d' wd hd da true hwd hhd hda g2)
  have K2 := Lib.hid (aspect a b c d ws hs sa hws hhs hsa)
  have K3 := Lib.hid (aspect a' b' c' d' wd hd da hwd hhd hda)
  have K4 := Lib.hid (height a' b' c' d' hd hhd)
  have K5 := Lib.hid (scaledWidth a b c d ws hs sa hd x1 hws hhs hsa e1)
  have K6 := Lib.hid (width a' b' c' d' wd hwd)
  clear hws hhs hwd hhd hsa hda g1 g2 g5 e1 e2 e3
  go_enter Try.func35, Try.ntmps35
  go_wp2_with fail
  refine (HF.out).mono ?_
  rintro e w1 ⟨rfl, hb⟩
  have HB1 : Hid (Below w.heap.size w w1) := thenC HB0.out hb
  replace r0 := keepC hb r0
  replace r1 := keepC hb r1
  replace r2 := keepC hb r2
  replace r3 := keepC hb r3
  replace r4 := keepC hb r4
  replace r5 := keepC hb r5
  replace r6 := keepC hb r6
  replace r7 := keepC hb r7
  clear hb
  go_wp2_with fail
  refine (K0.out _).mono ?_
  rintro e w2 ⟨rfl, hb⟩
  have HB2 : Hid (Below w.heap.size w w2) := thenC HB1.out hb
  replace r0 := keepC hb r0
  replace r1 := keepC hb r1
  replace r2 := keepC hb r2
  replace r3 := keepC hb r3
  replace r4 := keepC hb r4
  replace r5 := keepC hb r5
  replace r6 := keepC hb r6
  replace r7 := keepC hb r7
  clear hb
  go_wp2_with fail
  refine (K1.out _).mono ?_
  rintro e w3 ⟨rfl, hb⟩
  have HB3 : Hid (Below w.heap.size w w3) := thenC HB2.out hb
  replace r0 := keepC hb r0
  replace r1 := keepC hb r1
  replace r2 := keepC hb r2
  replace r3 := keepC hb r3
  replace r4 := keepC hb r4
  replace r5 := keepC hb r5
  replace r6 := keepC hb r6
  replace r7 := keepC hb r7
  clear hb
  go_wp2_with fail
  have k0 := cell_regrown r0
  have k1 := cell_regrown r1
  have k2 := cell_regrown r2
  have k3 := cell_regrown r3
  have k4 := cell_regrown r4
  have k5 := cell_regrown r5
  have k6 := cell_regrown r6
  have k7 := cell_regrown r7
  have C0 := Lib.hid fun d' os => Calls.regrown_of (w := w3) (d := d') (os := os) (K2.out _)
  have C1 := Lib.hid fun d' os => Calls.regrown_of (w := w3) (d := d') (os := os) (K3.out _)
  clear r0 r1 r2 r3 r4 r5 r6 r7
  refine wp_region_quiet_below (by kernel_rfl) (by kernel_rfl) ?_
  repeat (go_big_quiet_step ((first | (with_reducible exact C0.out _ _) | (with_reducible exact C1.out _ _))))
  refine wpQuiet_nil ?_
  intro w4 hw'
  obtain ⟨⟨dq, osq⟩, hw4⟩ := hw'
  have HB4 : Hid (Below w.heap.size w w4) := by rw [hw4]; exact thenC HB3.out (below_regrown _ dq osq)
  have r0 := k0 dq osq
  have r1 := k1 dq osq
  have r2 := k2 dq osq
  have r3 := k3 dq osq
  have r4 := k4 dq osq
  have r5 := k5 dq osq
  have r6 := k6 dq osq
  have r7 := k7 dq osq
  rw [← hw4] at r0 r1 r2 r3 r4 r5 r6 r7
  clear k0 k1 k2 k3 k4 k5 k6 k7 hw4 C0 C1
  go_wp2_with fail
  refine (K4.out _).mono ?_
  rintro e w5 ⟨rfl, hb⟩
  have HB5 : Hid (Below w.heap.size w w5) := thenC HB4.out hb
  replace r0 := keepC hb r0
  replace r1 := keepC hb r1
  replace r2 := keepC hb r2
  replace r3 := keepC hb r3
  replace r4 := keepC hb r4
  replace r5 := keepC hb r5
  replace r6 := keepC hb r6
  replace r7 := keepC hb r7
  clear hb
  go_wp2_with fail
  refine (K5.out _).mono ?_
  rintro e w6 ⟨rfl, hb⟩
  have HB6 : Hid (Below w.heap.size w w6) := thenC HB5.out hb
  replace r0 := keepC hb r0
  replace r1 := keepC hb r1
  replace r2 := keepC hb r2
  replace r3 := keepC hb r3
  replace r4 := keepC hb r4
  replace r5 := keepC hb r5
  replace r6 := keepC hb r6
  replace r7 := keepC hb r7
  clear hb
  go_wp2_with fail
  refine (K6.out _).mono ?_
  rintro e w7 ⟨rfl, hb⟩
  have HB7 : Hid (Below w.heap.size w w7) := thenC HB6.out hb
  replace r0 := keepC hb r0
  replace r1 := keepC hb r1
  replace r2 := keepC hb r2
  replace r3 := keepC hb r3
  replace r4 := keepC hb r4
  replace r5 := keepC hb r5
  replace r6 := keepC hb r6
  replace r7 := keepC hb r7
  clear hb
  go_wp2
  exact bodyPost_ret (v := .tuple #[.float .f64 x1, .float .f64 hd, .float .f64 x3, .float .f64 0, .float .f64 0]) (by simp [results, Try.results35, go_sem]) rfl ⟨rfl, HB7.out⟩


set_option maxRecDepth 100000 in
set_option maxHeartbeats 4000000 in
theorem best_port_h_no (g k a b c d a' b' c' d' ws hs wd hd sa da x1 x2 x3 : Nat) (up q1 q2 : Bool) (H : Dims a b c d a' b' c' d' ws hs wd hd sa da) (hup : up = false) (hfit : (q1 && q2) = false)
    (l1 : (FloatKind.f64.format.order ws wd == some .lt || FloatKind.f64.format.order ws wd == some .eq) = q1) (l2 : (FloatKind.f64.format.order hs hd == some .lt || FloatKind.f64.format.order hs hd == some .eq) = q2)
    (g1 : (FloatKind.f64.format.order sa 4607182418800017408 == some .gt) = false) (g3 : (FloatKind.f64.format.order sa 4607182418800017408 == some .lt) = true) (g4 : (FloatKind.f64.format.order da 4607182418800017408 == some .lt) = true) (g5 : (FloatKind.f64.format.order sa da == some .lt) = true) (e1 : floatBits .mul .f64 sa hd = some x1) (e2 : floatBits .sub .f64 wd x1 = some x2) (e3 : floatBits .quo .f64 x2 4611686018427387904 = some x3) (w : World) (hr : IsRect w g a b c d) (hr' : IsRect w k a' b' c' d') :
    Calls Try.prog 35 #[.pointer (some ⟨g, 0, none⟩), .pointer (some ⟨k, 0, none⟩), .bool false, .bool up] w fun e w' => e = .returned (.tuple #[.float .f64 x1, .float .f64 hd, .float .f64 x3, .float .f64 0, .float .f64 0]) ∧ Below w.heap.size w w' := by
  obtain ⟨hws, hhs, hwd, hhd, hsa, hda⟩ := H
  obtain ⟨r0, r1, r2, r3⟩ := hr
  obtain ⟨r4, r5, r6, r7⟩ := hr'
  have HB0 : Hid (Below w.heap.size w w) := Below.refl _ _
  have hfits := fits a b c d k a' b' c' d' ws hs wd hd w ⟨r4, r5, r6, r7⟩ hws hwd hhs hhd q1 q2 l1 l2
  rw [hfit] at hfits
  have HF := Lib.hid hfits
  clear hfits
  have g5b := g5
  have me1 := fun t w => run_float_arith (P := Try.prog) w .mul t .f64 _ _ _ e1
  have me2 := fun t w => run_float_arith (P := Try.prog) w .sub t .f64 _ _ _ e2
  have me3 := fun t w => run_float_arith (P := Try.prog) w .quo t .f64 _ _ _ e3
  subst hup
  clear l1 l2 hfit
  have K0 := Lib.hid (landscape a b c d ws hs sa false hws hhs hsa g1)
  have K1 := Lib.hid (portrait a b c d ws hs sa true hws hhs hsa g3)
  have K2 := Lib.hid (portrait a' b' c' d' wd hd da true hwd hhd hda g4)
  have K3 := Lib.hid (aspect a b c d ws hs sa hws hhs hsa)
  have K4 := Lib.hid (aspect a' b' c' d' wd hd da hwd hhd hda)
  have K5 := Lib.hid (height a' b' c' d' hd hhd)
  have K6 := Lib.hid (scaledWidth a b c d ws hs sa hd x1 hws hhs hsa e1)
  have K7 := Lib.hid (width a' b' c' d' wd hwd)
  clear hws hhs hwd hhd hsa hda g1 g3 g4 g5 e1 e2 e3
  go_enter Try.func35, Try.ntmps35
  go_wp2_with fail
  refine (HF.out).mono ?_
  rintro e w1 ⟨rfl, hb⟩
  have HB1 : Hid (Below w.heap.size w w1) := thenC HB0.out hb
  replace r0 := keepC hb r0
  replace r1 := keepC hb r1
  replace r2 := keepC hb r2
  replace r3 := keepC hb r3
  replace r4 := keepC hb r4
  replace r5 := keepC hb r5
  replace r6 := keepC hb r6
  replace r7 := keepC hb r7
  clear hb
  go_wp2_with fail
  refine (K0.out _).mono ?_
  rintro e w2 ⟨rfl, hb⟩
  have HB2 : Hid (Below w.heap.size w w2) := thenC HB1.out hb
  replace r0 := keepC hb r0
  replace r1 := keepC hb r1
  replace r2 := keepC hb r2
  replace r3 := keepC hb r3
  replace r4 := keepC hb r4
  replace r5 := keepC hb r5
  replace r6 := keepC hb r6
  replace r7 := keepC hb r7
  clear hb
  go_wp2_with fail
  refine (K1.out _).mono ?_
  rintro e w3 ⟨rfl, hb⟩
  have HB3 : Hid (Below w.heap.size w w3) := thenC HB2.out hb
  replace r0 := keepC hb r0
  replace r1 := keepC hb r1
  replace r2 := keepC hb r2
  replace r3 := keepC hb r3
  replace r4 := keepC hb r4
  replace r5 := keepC hb r5
  replace r6 := keepC hb r6
  replace r7 := keepC hb r7
  clear hb
  go_wp2_with fail
  refine (K2.out _).mono ?_
  rintro e w4 ⟨rfl, hb⟩
  have HB4 : Hid (Below w.heap.size w w4) := thenC HB3.out hb
  replace r0 := keepC hb r0
  replace r1 := keepC hb r1
  replace r2 := keepC hb r2
  replace r3 := keepC hb r3
  replace r4 := keepC hb r4
  replace r5 := keepC hb r5
  replace r6 := keepC hb r6
  replace r7 := keepC hb r7
  clear hb
  go_wp2_with fail
  have k0 := cell_regrown r0
  have k1 := cell_regrown r1
  have k2 := cell_regrown r2
  have k3 := cell_regrown r3
  have k4 := cell_regrown r4
  have k5 := cell_regrown r5
  have k6 := cell_regrown r6
  have k7 := cell_regrown r7
  have C0 := Lib.hid fun d' os => Calls.regrown_of (w := w4) (d := d') (os := os) (K3.out _)
  have C1 := Lib.hid fun d' os => Calls.regrown_of (w := w4) (d := d') (os := os) (K4.out _)
  clear r0 r1 r2 r3 r4 r5 r6 r7
  refine wp_region_quiet_below (by kernel_rfl) (by kernel_rfl) ?_
  repeat (go_big_quiet_step ((first | (with_reducible exact C0.out _ _) | (with_reducible exact C1.out _ _))))
  refine wpQuiet_nil ?_
  intro w5 hw'
  obtain ⟨⟨dq, osq⟩, hw5⟩ := hw'
  have HB5 : Hid (Below w.heap.size w w5) := by rw [hw5]; exact thenC HB4.out (below_regrown _ dq osq)
  have r0 := k0 dq osq
  have r1 := k1 dq osq
  have r2 := k2 dq osq
  have r3 := k3 dq osq
  have r4 := k4 dq osq
  have r5 := k5 dq osq
  have r6 := k6 dq osq
  have r7 := k7 dq osq
  rw [← hw5] at r0 r1 r2 r3 r4 r5 r6 r7
  clear k0 k1 k2 k3 k4 k5 k6 k7 hw5 C0 C1
  go_wp2_with fail
  refine (K5.out _).mono ?_
  rintro e w6 ⟨rfl, hb⟩
  have HB6 : Hid (Below w.heap.size w w6) := thenC HB5.out hb
  replace r0 := keepC hb r0
  replace r1 := keepC hb r1
  replace r2 := keepC hb r2
  replace r3 := keepC hb r3
  replace r4 := keepC hb r4
  replace r5 := keepC hb r5
  replace r6 := keepC hb r6
  replace r7 := keepC hb r7
  clear hb
  go_wp2_with fail
  refine (K6.out _).mono ?_
  rintro e w7 ⟨rfl, hb⟩
  have HB7 : Hid (Below w.heap.size w w7) := thenC HB6.out hb
  replace r0 := keepC hb r0
  replace r1 := keepC hb r1
  replace r2 := keepC hb r2
  replace r3 := keepC hb r3
  replace r4 := keepC hb r4
  replace r5 := keepC hb r5
  replace r6 := keepC hb r6
  replace r7 := keepC hb r7
  clear hb
  go_wp2_with fail
  refine (K7.out _).mono ?_
  rintro e w8 ⟨rfl, hb⟩
  have HB8 : Hid (Below w.heap.size w w8) := thenC HB7.out hb
  replace r0 := keepC hb r0
  replace r1 := keepC hb r1
  replace r2 := keepC hb r2
  replace r3 := keepC hb r3
  replace r4 := keepC hb r4
  replace r5 := keepC hb r5
  replace r6 := keepC hb r6
  replace r7 := keepC hb r7
  clear hb
  go_wp2
  exact bodyPost_ret (v := .tuple #[.float .f64 x1, .float .f64 hd, .float .f64 x3, .float .f64 0, .float .f64 0]) (by simp [results, Try.results35, go_sem]) rfl ⟨rfl, HB8.out⟩


set_option maxRecDepth 100000 in
set_option maxHeartbeats 4000000 in
theorem best_port_w_no (g k a b c d a' b' c' d' ws hs wd hd sa da x1 x2 x3 : Nat) (up q1 q2 : Bool) (H : Dims a b c d a' b' c' d' ws hs wd hd sa da) (hup : up = false) (hfit : (q1 && q2) = false)
    (l1 : (FloatKind.f64.format.order ws wd == some .lt || FloatKind.f64.format.order ws wd == some .eq) = q1) (l2 : (FloatKind.f64.format.order hs hd == some .lt || FloatKind.f64.format.order hs hd == some .eq) = q2)
    (g1 : (FloatKind.f64.format.order sa 4607182418800017408 == some .gt) = false) (g3 : (FloatKind.f64.format.order sa 4607182418800017408 == some .lt) = true) (g4 : (FloatKind.f64.format.order da 4607182418800017408 == some .lt) = true) (g5 : (FloatKind.f64.format.order sa da == some .lt) = false) (e1 : floatBits .quo .f64 wd sa = some x1) (e2 : floatBits .sub .f64 hd x1 = some x2) (e3 : floatBits .quo .f64 x2 4611686018427387904 = some x3) (w : World) (hr : IsRect w g a b c d) (hr' : IsRect w k a' b' c' d') :
    Calls Try.prog 35 #[.pointer (some ⟨g, 0, none⟩), .pointer (some ⟨k, 0, none⟩), .bool false, .bool up] w fun e w' => e = .returned (.tuple #[.float .f64 wd, .float .f64 x1, .float .f64 0, .float .f64 x3, .float .f64 0]) ∧ Below w.heap.size w w' := by
  obtain ⟨hws, hhs, hwd, hhd, hsa, hda⟩ := H
  obtain ⟨r0, r1, r2, r3⟩ := hr
  obtain ⟨r4, r5, r6, r7⟩ := hr'
  have HB0 : Hid (Below w.heap.size w w) := Below.refl _ _
  have hfits := fits a b c d k a' b' c' d' ws hs wd hd w ⟨r4, r5, r6, r7⟩ hws hwd hhs hhd q1 q2 l1 l2
  rw [hfit] at hfits
  have HF := Lib.hid hfits
  clear hfits
  have g5b := g5
  have me1 := fun t w => run_float_arith (P := Try.prog) w .quo t .f64 _ _ _ e1
  have me2 := fun t w => run_float_arith (P := Try.prog) w .sub t .f64 _ _ _ e2
  have me3 := fun t w => run_float_arith (P := Try.prog) w .quo t .f64 _ _ _ e3
  subst hup
  clear l1 l2 hfit
  have K0 := Lib.hid (landscape a b c d ws hs sa false hws hhs hsa g1)
  have K1 := Lib.hid (portrait a b c d ws hs sa true hws hhs hsa g3)
  have K2 := Lib.hid (portrait a' b' c' d' wd hd da true hwd hhd hda g4)
  have K3 := Lib.hid (aspect a b c d ws hs sa hws hhs hsa)
  have K4 := Lib.hid (aspect a' b' c' d' wd hd da hwd hhd hda)
  have K5 := Lib.hid (width a' b' c' d' wd hwd)
  have K6 := Lib.hid (scaledHeight a b c d ws hs sa wd x1 hws hhs hsa e1)
  have K7 := Lib.hid (height a' b' c' d' hd hhd)
  clear hws hhs hwd hhd hsa hda g1 g3 g4 g5 e1 e2 e3
  go_enter Try.func35, Try.ntmps35
  go_wp2_with fail
  refine (HF.out).mono ?_
  rintro e w1 ⟨rfl, hb⟩
  have HB1 : Hid (Below w.heap.size w w1) := thenC HB0.out hb
  replace r0 := keepC hb r0
  replace r1 := keepC hb r1
  replace r2 := keepC hb r2
  replace r3 := keepC hb r3
  replace r4 := keepC hb r4
  replace r5 := keepC hb r5
  replace r6 := keepC hb r6
  replace r7 := keepC hb r7
  clear hb
  go_wp2_with fail
  refine (K0.out _).mono ?_
  rintro e w2 ⟨rfl, hb⟩
  have HB2 : Hid (Below w.heap.size w w2) := thenC HB1.out hb
  replace r0 := keepC hb r0
  replace r1 := keepC hb r1
  replace r2 := keepC hb r2
  replace r3 := keepC hb r3
  replace r4 := keepC hb r4
  replace r5 := keepC hb r5
  replace r6 := keepC hb r6
  replace r7 := keepC hb r7
  clear hb
  go_wp2_with fail
  refine (K1.out _).mono ?_
  rintro e w3 ⟨rfl, hb⟩
  have HB3 : Hid (Below w.heap.size w w3) := thenC HB2.out hb
  replace r0 := keepC hb r0
  replace r1 := keepC hb r1
  replace r2 := keepC hb r2
  replace r3 := keepC hb r3
  replace r4 := keepC hb r4
  replace r5 := keepC hb r5
  replace r6 := keepC hb r6
  replace r7 := keepC hb r7
  clear hb
  go_wp2_with fail
  refine (K2.out _).mono ?_
  rintro e w4 ⟨rfl, hb⟩
  have HB4 : Hid (Below w.heap.size w w4) := thenC HB3.out hb
  replace r0 := keepC hb r0
  replace r1 := keepC hb r1
  replace r2 := keepC hb r2
  replace r3 := keepC hb r3
  replace r4 := keepC hb r4
  replace r5 := keepC hb r5
  replace r6 := keepC hb r6
  replace r7 := keepC hb r7
  clear hb
  go_wp2_with fail
  have k0 := cell_regrown r0
  have k1 := cell_regrown r1
  have k2 := cell_regrown r2
  have k3 := cell_regrown r3
  have k4 := cell_regrown r4
  have k5 := cell_regrown r5
  have k6 := cell_regrown r6
  have k7 := cell_regrown r7
  have C0 := Lib.hid fun d' os => Calls.regrown_of (w := w4) (d := d') (os := os) (K3.out _)
  have C1 := Lib.hid fun d' os => Calls.regrown_of (w := w4) (d := d') (os := os) (K4.out _)
  clear r0 r1 r2 r3 r4 r5 r6 r7
  refine wp_region_quiet_below (by kernel_rfl) (by kernel_rfl) ?_
  repeat (go_big_quiet_step ((first | (with_reducible exact C0.out _ _) | (with_reducible exact C1.out _ _))))
  refine wpQuiet_nil ?_
  intro w5 hw'
  obtain ⟨⟨dq, osq⟩, hw5⟩ := hw'
  have HB5 : Hid (Below w.heap.size w w5) := by rw [hw5]; exact thenC HB4.out (below_regrown _ dq osq)
  have r0 := k0 dq osq
  have r1 := k1 dq osq
  have r2 := k2 dq osq
  have r3 := k3 dq osq
  have r4 := k4 dq osq
  have r5 := k5 dq osq
  have r6 := k6 dq osq
  have r7 := k7 dq osq
  rw [← hw5] at r0 r1 r2 r3 r4 r5 r6 r7
  clear k0 k1 k2 k3 k4 k5 k6 k7 hw5 C0 C1
  go_wp2_with fail
  refine (K5.out _).mono ?_
  rintro e w6 ⟨rfl, hb⟩
  have HB6 : Hid (Below w.heap.size w w6) := thenC HB5.out hb
  replace r0 := keepC hb r0
  replace r1 := keepC hb r1
  replace r2 := keepC hb r2
  replace r3 := keepC hb r3
  replace r4 := keepC hb r4
  replace r5 := keepC hb r5
  replace r6 := keepC hb r6
  replace r7 := keepC hb r7
  clear hb
  go_wp2_with fail
  refine (K6.out _).mono ?_
  rintro e w7 ⟨rfl, hb⟩
  have HB7 : Hid (Below w.heap.size w w7) := thenC HB6.out hb
  replace r0 := keepC hb r0
  replace r1 := keepC hb r1
  replace r2 := keepC hb r2
  replace r3 := keepC hb r3
  replace r4 := keepC hb r4
  replace r5 := keepC hb r5
  replace r6 := keepC hb r6
  replace r7 := keepC hb r7
  clear hb
  go_wp2_with fail
  refine (K7.out _).mono ?_
  rintro e w8 ⟨rfl, hb⟩
  have HB8 : Hid (Below w.heap.size w w8) := thenC HB7.out hb
  replace r0 := keepC hb r0
  replace r1 := keepC hb r1
  replace r2 := keepC hb r2
  replace r3 := keepC hb r3
  replace r4 := keepC hb r4
  replace r5 := keepC hb r5
  replace r6 := keepC hb r6
  replace r7 := keepC hb r7
  clear hb
  go_wp2
  exact bodyPost_ret (v := .tuple #[.float .f64 wd, .float .f64 x1, .float .f64 0, .float .f64 x3, .float .f64 0]) (by simp [results, Try.results35, go_sem]) rfl ⟨rfl, HB8.out⟩


set_option maxRecDepth 100000 in
set_option maxHeartbeats 4000000 in
theorem best_square_no (g k a b c d a' b' c' d' ws hs wd hd sa da x1 x2 x3 x4 : Nat) (up q1 q2 : Bool) (H : Dims a b c d a' b' c' d' ws hs wd hd sa da) (hup : up = false) (hfit : (q1 && q2) = false)
    (l1 : (FloatKind.f64.format.order ws wd == some .lt || FloatKind.f64.format.order ws wd == some .eq) = q1) (l2 : (FloatKind.f64.format.order hs hd == some .lt || FloatKind.f64.format.order hs hd == some .eq) = q2)
    (g1 : (FloatKind.f64.format.order sa 4607182418800017408 == some .gt) = false) (g3 : (FloatKind.f64.format.order sa 4607182418800017408 == some .lt) = false) (g4 : (FloatKind.f64.format.order da 4607182418800017408 == some .lt) = false) (e1 : floatBits .mul .f64 sa hd = some x1) (e2 : floatBits .quo .f64 wd 4611686018427387904 = some x2) (e3 : floatBits .quo .f64 x1 4611686018427387904 = some x3) (e4 : floatBits .sub .f64 x2 x3 = some x4) (w : World) (hr : IsRect w g a b c d) (hr' : IsRect w k a' b' c' d') :
    Calls Try.prog 35 #[.pointer (some ⟨g, 0, none⟩), .pointer (some ⟨k, 0, none⟩), .bool false, .bool up] w fun e w' => e = .returned (.tuple #[.float .f64 hd, .float .f64 hd, .float .f64 x4, .float .f64 0, .float .f64 0]) ∧ Below w.heap.size w w' := by
  obtain ⟨hws, hhs, hwd, hhd, hsa, hda⟩ := H
  obtain ⟨r0, r1, r2, r3⟩ := hr
  obtain ⟨r4, r5, r6, r7⟩ := hr'
  have HB0 : Hid (Below w.heap.size w w) := Below.refl _ _
  have hfits := fits a b c d k a' b' c' d' ws hs wd hd w ⟨r4, r5, r6, r7⟩ hws hwd hhs hhd q1 q2 l1 l2
  rw [hfit] at hfits
  have HF := Lib.hid hfits
  clear hfits
  have me1 := fun t w => run_float_arith (P := Try.prog) w .mul t .f64 _ _ _ e1
  have me2 := fun t w => run_float_arith (P := Try.prog) w .quo t .f64 _ _ _ e2
  have me3 := fun t w => run_float_arith (P := Try.prog) w .quo t .f64 _ _ _ e3
  have me4 := fun t w => run_float_arith (P := Try.prog) w .sub t .f64 _ _ _ e4
  subst hup
  clear l1 l2 hfit
  have K0 := Lib.hid (landscape a b c d ws hs sa false hws hhs hsa g1)
  have K1 := Lib.hid (portrait a b c d ws hs sa false hws hhs hsa g3)
  have K2 := Lib.hid (portrait a' b' c' d' wd hd da false hwd hhd hda g4)
  have K3 := Lib.hid (height a' b' c' d' hd hhd)
  have K4 := Lib.hid (width a' b' c' d' wd hwd)
  have K5 := Lib.hid (scaledWidth a b c d ws hs sa hd x1 hws hhs hsa e1)
  clear hws hhs hwd hhd hsa hda g1 g3 g4 e1 e2 e3 e4
  go_enter Try.func35, Try.ntmps35
  go_wp2_with fail
  refine (HF.out).mono ?_
  rintro e w1 ⟨rfl, hb⟩
  have HB1 : Hid (Below w.heap.size w w1) := thenC HB0.out hb
  replace r0 := keepC hb r0
  replace r1 := keepC hb r1
  replace r2 := keepC hb r2
  replace r3 := keepC hb r3
  replace r4 := keepC hb r4
  replace r5 := keepC hb r5
  replace r6 := keepC hb r6
  replace r7 := keepC hb r7
  clear hb
  go_wp2_with fail
  refine (K0.out _).mono ?_
  rintro e w2 ⟨rfl, hb⟩
  have HB2 : Hid (Below w.heap.size w w2) := thenC HB1.out hb
  replace r0 := keepC hb r0
  replace r1 := keepC hb r1
  replace r2 := keepC hb r2
  replace r3 := keepC hb r3
  replace r4 := keepC hb r4
  replace r5 := keepC hb r5
  replace r6 := keepC hb r6
  replace r7 := keepC hb r7
  clear hb
  go_wp2_with fail
  refine (K1.out _).mono ?_
  rintro e w3 ⟨rfl, hb⟩
  have HB3 : Hid (Below w.heap.size w w3) := thenC HB2.out hb
  replace r0 := keepC hb r0
  replace r1 := keepC hb r1
  replace r2 := keepC hb r2
  replace r3 := keepC hb r3
  replace r4 := keepC hb r4
  replace r5 := keepC hb r5
  replace r6 := keepC hb r6
  replace r7 := keepC hb r7
  clear hb
  go_wp2_with fail
  refine (K2.out _).mono ?_
  rintro e w4 ⟨rfl, hb⟩
  have HB4 : Hid (Below w.heap.size w w4) := thenC HB3.out hb
  replace r0 := keepC hb r0
  replace r1 := keepC hb r1
  replace r2 := keepC hb r2
  replace r3 := keepC hb r3
  replace r4 := keepC hb r4
  replace r5 := keepC hb r5
  replace r6 := keepC hb r6
  replace r7 := keepC hb r7
  clear hb
  go_wp2_with fail
  refine (K3.out _).mono ?_
  rintro e w5 ⟨rfl, hb⟩
  have HB5 : Hid (Below w.heap.size w w5) := thenC HB4.out hb
  replace r0 := keepC hb r0
  replace r1 := keepC hb r1
  replace r2 := keepC hb r2
  replace r3 := keepC hb r3
  replace r4 := keepC hb r4
  replace r5 := keepC hb r5
  replace r6 := keepC hb r6
  replace r7 := keepC hb r7
  clear hb
  go_wp2_with fail
  have k0 := cell_regrown r0
  have k1 := cell_regrown r1
  have k2 := cell_regrown r2
  have k3 := cell_regrown r3
  have k4 := cell_regrown r4
  have k5 := cell_regrown r5
  have k6 := cell_regrown r6
  have k7 := cell_regrown r7
  have C0 := Lib.hid fun d' os => Calls.regrown_of (w := w5) (d := d') (os := os) (K4.out _)
  have C1 := Lib.hid fun d' os => Calls.regrown_of (w := w5) (d := d') (os := os) (K5.out _)
  clear r0 r1 r2 r3 r4 r5 r6 r7
  refine wp_region_quiet_below (by kernel_rfl) (by kernel_rfl) ?_
  repeat (go_big_quiet_step ((first | (with_reducible exact C0.out _ _) | (with_reducible exact C1.out _ _))))
  refine wpQuiet_nil ?_
  intro w6 hw'
  obtain ⟨⟨dq, osq⟩, hw6⟩ := hw'
  have HB6 : Hid (Below w.heap.size w w6) := by rw [hw6]; exact thenC HB5.out (below_regrown _ dq osq)
  have r0 := k0 dq osq
  have r1 := k1 dq osq
  have r2 := k2 dq osq
  have r3 := k3 dq osq
  have r4 := k4 dq osq
  have r5 := k5 dq osq
  have r6 := k6 dq osq
  have r7 := k7 dq osq
  rw [← hw6] at r0 r1 r2 r3 r4 r5 r6 r7
  clear k0 k1 k2 k3 k4 k5 k6 k7 hw6 C0 C1
  go_wp2
  exact bodyPost_ret (v := .tuple #[.float .f64 hd, .float .f64 hd, .float .f64 x4, .float .f64 0, .float .f64 0]) (by simp [results, Try.results35, go_sem]) rfl ⟨rfl, HB6.out⟩

end Go.Proofs.Ytmaphdfhoddnmaa
