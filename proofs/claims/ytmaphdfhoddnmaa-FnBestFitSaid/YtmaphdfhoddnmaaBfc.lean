/-
  FnBestFit, the plain law, case by case.
-/
import Derived.Test.YtmaphdfhoddnmaaBfl
namespace Go.Proofs.Ytmaphdfhoddnmaa
open Go.RowKit Fl
set_option linter.unusedVariables false

/-- The four lengths. -/
structure Lens (ws hs wd hd : Nat) (W H DW DH : Rat) : Prop where
  vw : IsV ws W
  vh : IsV hs H
  vdw : IsV wd DW
  vdh : IsV hd DH
  w1 : 1 ≤ W
  w2 : W ≤ top
  h1 : 1 ≤ H
  h2 : H ≤ top
  dw1 : 1 ≤ DW
  dw2 : DW ≤ top
  dh1 : 1 ≤ DH
  dh2 : DH ≤ top

theorem cl_self {x : Nat} {P : Rat} (hx : IsV x P) (p1 : P ≤ 1152921504606846976) (lo : 0 ≤ P) : Cl x x true := by
  have hK0 : 0 ≤ K := by decide +kernel
  have : 0 ≤ (1 + P) * K := Rat.mul_nonneg (by grind) hK0
  exact close_yes hx hx p1 p1 (by grind) (by grind) (by grind)
theorem cl_some {x y : Nat} {P Q : Rat} (hx : IsV x P) (hy : IsV y Q) (p1 : P ≤ 8388608) (p2 : 0 ≤ P) (q1 : Q ≤ 8388608) (q2 : 0 ≤ Q) : ∃ r, Cl x y r := close_any hx hy (by grind) (by grind) (by grind) (by grind)

theorem fine_own {ws hs wd hd : Nat} {W H DW DH : Rat} (L : Lens ws hs wd hd W H DW DH) (hw : W ≤ DW) (hh : H ≤ DH) :
    ∃ x1 x2 x3 y1 y2 y3, floatBits .quo .f64 wd 4611686018427387904 = some x1 ∧ floatBits .quo .f64 ws 4611686018427387904 = some x2 ∧ floatBits .sub .f64 x1 x2 = some x3 ∧
      floatBits .quo .f64 hd 4611686018427387904 = some y1 ∧ floatBits .quo .f64 hs 4611686018427387904 = some y2 ∧ floatBits .sub .f64 y1 y2 = some y3 ∧ Fine5 ws hs wd hd ws hs x3 y3 true := by
  obtain ⟨vw, vh, vdw, vdh, w1, w2, h1, h2, dw1, dw2, dh1, dh2⟩ := L
  have hD : 4194304 * D ≤ 1 / 268435456 := by decide +kernel
  have ht : tiny ≤ 1 / 1000000000000 := by decide +kernel
  have hD0 := D_pos
  obtain ⟨x1, a1, e1, f1, g1, g2⟩ := two_abs (A := 4194304) vdw v_two (by grind) (by grind) (by grind) (by decide +kernel)
  obtain ⟨x2, a2, e2, f2, g3, g4⟩ := two_abs (A := 4194304) vw v_two (by grind) (by grind) (by grind) (by decide +kernel)
  obtain ⟨x3, a3, e3, f3, g5, g6⟩ := sub_abs (A := 4194304) f1 f2 (by grind) (by grind) (by grind) (by decide +kernel)
  obtain ⟨y1, b1, i1, j1, k1, k2⟩ := two_abs (A := 4194304) vdh v_two (by grind) (by grind) (by grind) (by decide +kernel)
  obtain ⟨y2, b2, i2, j2, k3, k4⟩ := two_abs (A := 4194304) vh v_two (by grind) (by grind) (by grind) (by decide +kernel)
  obtain ⟨y3, b3, i3, j3, k5, k6⟩ := sub_abs (A := 4194304) j1 j2 (by grind) (by grind) (by grind) (by decide +kernel)
  have hWH : 0 ≤ W * H * (4 * D) := Rat.mul_nonneg (Rat.mul_nonneg (by grind) (by grind)) (by grind)
  refine ⟨x1, x2, x3, y1, y2, y3, e1, e2, e3, i1, i2, i3, ?_⟩
  exact ⟨keeps_shape vw vh vw vh w1 w2 h1 h2 (by grind) (by grind) (by grind) (by grind) (by grind) (by grind), not_wider vw vdw dw1 dw2 (by grind), not_wider vh vdh dh1 dh2 (by grind),
    middle f3 vw vdw dw1 dw2 (by grind) (by grind) (by grind) (by grind), middle j3 vh vdh dh1 dh2 (by grind) (by grind) (by grind) (by grind), by rw [if_pos rfl]; exact ⟨cl_self vw (by grind) (by grind), cl_self vh (by grind) (by grind)⟩⟩

/-- By the width: the other one is no narrower in shape. -/
theorem fine_w {ws hs wd hd sa : Nat} {W H DW DH SA x z : Rat} (L : Lens ws hs wd hd W H DW DH) (vs : IsV sa SA) (hx : x * H = W) (x1 : 1 / 8388608 ≤ x) (x2 : x ≤ 8388608) (s1 : SA ≤ x + x * D) (s2 : x ≤ SA + x * D)
    (hz : z * DH = DW) (z1 : 1 / 8388608 ≤ z) (z2 : z ≤ 8388608) (hc : z ≤ SA + z * D) :
    ∃ x1 x2 x3, floatBits .quo .f64 wd sa = some x1 ∧ floatBits .sub .f64 hd x1 = some x2 ∧ floatBits .quo .f64 x2 4611686018427387904 = some x3 ∧ Fine5 ws hs wd hd wd x1 0 x3 false := by
  obtain ⟨vw, vh, vdw, vdh, w1, w2, h1, h2, dw1, dw2, dh1, dh2⟩ := L
  have hD : D ≤ 1 / 100000000000000 := by decide +kernel
  have hD2 : 16777216 * D ≤ 1 / 67108864 := by decide +kernel
  have ht : tiny ≤ 1 / 1000000000000 := by decide +kernel
  have hD0 := D_pos
  have xD : x * D ≤ x * (1 / 100000000000000) := Rat.mul_le_mul_of_nonneg_left hD (by grind)
  have zD : z * D ≤ z * (1 / 100000000000000) := Rat.mul_le_mul_of_nonneg_left hD (by grind)
  have SA0 : 0 < SA := by grind
  obtain ⟨y, hy⟩ : ∃ y : Rat, y * SA = DW := ⟨DW / SA, Rat.div_mul_cancel (by grind)⟩
  have y0 : 1 / 33554432 ≤ y := by
    apply Rat.le_of_mul_le_mul_right _ SA0
    rw [hy]; grind
  have yz := Rat.mul_le_mul_of_nonneg_left hc (show 0 ≤ y by grind)
  have yD : y * D ≤ y * (1 / 100000000000000) := Rat.mul_le_mul_of_nonneg_left hD (by grind)
  have ydh : y - y * D ≤ DH := by
    apply Rat.le_of_mul_le_mul_right _ (show 0 < z by grind)
    grind
  have ytop : y ≤ DH + DH * (1 / 10000000000000) := by grind
  obtain ⟨r, v, e1, f1, g1, g2⟩ := div_rel (q := y) vdw vs SA0 hy (by grind) (by grind)
  obtain ⟨r2, v2, e2, f2, g3, g4⟩ := sub_abs (A := 16777216) vdh f1 (by grind) (by grind) (by grind) (by decide +kernel)
  obtain ⟨r3, v3, e3, f3, g5, g6⟩ := two_abs (A := 16777216) f2 v_two (by grind) (by grind) (by grind) (by decide +kernel)
  have k1 := Rat.mul_le_mul_of_nonneg_left s1 (show 0 ≤ y by grind)
  have k2 := Rat.mul_le_mul_of_nonneg_left s2 (show 0 ≤ y by grind)
  have k3 := Rat.mul_le_mul_of_nonneg_left g1 (show 0 ≤ x by grind)
  have k4 := Rat.mul_le_mul_of_nonneg_left g2 (show 0 ≤ x by grind)
  have xy0 : 0 ≤ x * y := Rat.mul_nonneg (by grind) (by grind)
  have xyD : x * y * D ≤ x * y * (1 / 100000000000000) := Rat.mul_le_mul_of_nonneg_left hD xy0
  have xy2 : x * y ≤ 2 * DW := by grind
  have xyD2 : x * y * D ≤ 2 * DW * D := Rat.mul_le_mul_of_nonneg_right xy2 (by grind)
  have c1 : DW - v * x ≤ DW * (4 * D) := by grind
  have c2 : v * x - DW ≤ DW * (4 * D) := by grind
  have c3 := Rat.mul_le_mul_of_nonneg_right c1 (show 0 ≤ H by grind)
  have c4 := Rat.mul_le_mul_of_nonneg_right c2 (show 0 ≤ H by grind)
  obtain ⟨b, hb⟩ := cl_some f1 vdh (by grind) (by grind) (by grind) (by grind)
  refine ⟨r, r2, r3, e1, e2, e3, ?_⟩
  refine ⟨keeps_shape vdw f1 vw vh w1 w2 h1 h2 (by grind) (by grind) (by grind) (by grind) (by subst hx; grind) (by subst hx; grind), not_wider vdw vdw dw1 dw2 (by grind), not_wider f1 vdh dh1 dh2 (by grind),
    middle v_zero vdw vdw dw1 dw2 (by grind) (by grind) (by grind) (by grind), middle f3 f1 vdh dh1 dh2 (by grind) (by grind) (by grind) (by grind), ?_⟩
  rw [if_neg (by decide)]
  exact ⟨true, b, cl_self vdw (by grind) (by grind), hb, rfl⟩

/-- By the height. -/
theorem fine_h {ws hs wd hd sa : Nat} {W H DW DH SA x z : Rat} (L : Lens ws hs wd hd W H DW DH) (vs : IsV sa SA) (hx : x * H = W) (x1 : 1 / 8388608 ≤ x) (x2 : x ≤ 8388608) (s1 : SA ≤ x + x * D) (s2 : x ≤ SA + x * D)
    (hz : z * DH = DW) (z1 : 1 / 8388608 ≤ z) (z2 : z ≤ 8388608) (hc : SA ≤ z + z * D) :
    ∃ x1 x2 x3, floatBits .mul .f64 sa hd = some x1 ∧ floatBits .sub .f64 wd x1 = some x2 ∧ floatBits .quo .f64 x2 4611686018427387904 = some x3 ∧ Fine5 ws hs wd hd x1 hd x3 0 false := by
  obtain ⟨vw, vh, vdw, vdh, w1, w2, h1, h2, dw1, dw2, dh1, dh2⟩ := L
  have hD : D ≤ 1 / 100000000000000 := by decide +kernel
  have hD2 : 16777216 * D ≤ 1 / 67108864 := by decide +kernel
  have ht : tiny ≤ 1 / 1000000000000 := by decide +kernel
  have hD0 := D_pos
  have xD : x * D ≤ x * (1 / 100000000000000) := Rat.mul_le_mul_of_nonneg_left hD (by grind)
  have zD : z * D ≤ z * (1 / 100000000000000) := Rat.mul_le_mul_of_nonneg_left hD (by grind)
  have SA0 : 1 / 16777216 ≤ SA := by grind
  have DH0 : 0 ≤ DH := by grind
  have m1 := Rat.mul_le_mul_of_nonneg_right s1 DH0
  have m2 := Rat.mul_le_mul_of_nonneg_right s2 DH0
  have m3 := Rat.mul_le_mul_of_nonneg_right hc DH0
  have m4 := Rat.mul_le_mul_of_nonneg_right SA0 DH0
  have m5 := Rat.mul_le_mul_of_nonneg_right xD DH0
  have m6 := Rat.mul_le_mul_of_nonneg_right zD DH0
  have xDH : 1 / 8388608 * 1 ≤ x * DH := by
    have k1 := Rat.mul_le_mul_of_nonneg_right x1 DH0
    grind
  obtain ⟨r, v, e1, f1, g1, g2⟩ := mul_rel (p := SA * DH) vs vdh rfl (by grind) (by grind)
  have SD : SA * DH * D ≤ SA * DH * (1 / 100000000000000) := Rat.mul_le_mul_of_nonneg_left hD (by grind)
  obtain ⟨r2, v2, e2, f2, g3, g4⟩ := sub_abs (A := 16777216) vdw f1 (by grind) (by grind) (by grind) (by decide +kernel)
  obtain ⟨r3, v3, e3, f3, g5, g6⟩ := two_abs (A := 16777216) f2 v_two (by grind) (by grind) (by grind) (by decide +kernel)
  have y2 : SA * DH ≤ 3 / 2 * v := by grind
  have y3 : x * DH ≤ 3 / 2 * v := by grind
  have y4 := Rat.mul_le_mul_of_nonneg_right y2 (show 0 ≤ D by grind)
  have y5 := Rat.mul_le_mul_of_nonneg_right y3 (show 0 ≤ D by grind)
  have c1 : v - DH * x ≤ v * (4 * D) := by grind
  have c2 : DH * x - v ≤ v * (4 * D) := by grind
  have c3 := Rat.mul_le_mul_of_nonneg_right c1 (show 0 ≤ H by grind)
  have c4 := Rat.mul_le_mul_of_nonneg_right c2 (show 0 ≤ H by grind)
  have vtop : v ≤ DW + DW * (1 / 10000000000000) := by grind
  obtain ⟨b, hb⟩ := cl_some f1 vdw (by grind) (by grind) (by grind) (by grind)
  refine ⟨r, r2, r3, e1, e2, e3, ?_⟩
  refine ⟨keeps_shape f1 vdh vw vh w1 w2 h1 h2 (by grind) (by grind) (by grind) (by grind) (by subst hx; grind) (by subst hx; grind), not_wider f1 vdw dw1 dw2 (by grind), not_wider vdh vdh dh1 dh2 (by grind),
    middle f3 f1 vdw dw1 dw2 (by grind) (by grind) (by grind) (by grind), middle v_zero vdh vdh dh1 dh2 (by grind) (by grind) (by grind) (by grind), ?_⟩
  rw [if_neg (by decide)]
  exact ⟨b, true, hb, cl_self vdh (by grind) (by grind), by cases b <;> rfl⟩

/-- Two squares. -/
theorem fine_sq {ws hs wd hd sa : Nat} {W H DW DH : Rat} (L : Lens ws hs wd hd W H DW DH) (vs : IsV sa 1) (hw : W = H) (hd' : DW = DH) :
    ∃ x1 x2 x3 x4, floatBits .mul .f64 sa hd = some x1 ∧ floatBits .quo .f64 wd 4611686018427387904 = some x2 ∧ floatBits .quo .f64 x1 4611686018427387904 = some x3 ∧ floatBits .sub .f64 x2 x3 = some x4 ∧ Fine5 ws hs wd hd hd hd x4 0 false := by
  obtain ⟨vw, vh, vdw, vdh, w1, w2, h1, h2, dw1, dw2, dh1, dh2⟩ := L
  have hD : 16777216 * D ≤ 1 / 67108864 := by decide +kernel
  have ht : tiny ≤ 1 / 1000000000000 := by decide +kernel
  have hD0 := D_pos
  subst hw hd'
  obtain ⟨x1, a1, e1, f1, g1, g2⟩ := mul_abs (A := 4194304) vs vdh (by grind) (by grind) (by grind) (by decide +kernel)
  obtain ⟨x2, a2, e2, f2, g3, g4⟩ := two_abs (A := 4194304) vdw v_two (by grind) (by grind) (by grind) (by decide +kernel)
  obtain ⟨x3, a3, e3, f3, g5, g6⟩ := two_abs (A := 8388608) f1 v_two (by grind) (by grind) (by grind) (by decide +kernel)
  obtain ⟨x4, a4, e4, f4, g7, g8⟩ := sub_abs (A := 8388608) f2 f3 (by grind) (by grind) (by grind) (by decide +kernel)
  have hWH : 0 ≤ DW * W * (4 * D) := Rat.mul_nonneg (Rat.mul_nonneg (by grind) (by grind)) (by grind)
  obtain ⟨b, hb⟩ := cl_some vdh vdw (by grind) (by grind) (by grind) (by grind)
  refine ⟨x1, x2, x3, x4, e1, e2, e3, e4, ?_⟩
  refine ⟨keeps_shape vdh vdh vw vh w1 w2 h1 h2 (by grind) (by grind) (by grind) (by grind) (by grind) (by grind), not_wider vdh vdw dw1 dw2 (by grind), not_wider vdh vdh dh1 dh2 (by grind),
    middle f4 vdh vdw dw1 dw2 (by grind) (by grind) (by grind) (by grind), middle v_zero vdh vdh dh1 dh2 (by grind) (by grind) (by grind) (by grind), ?_⟩
  rw [if_neg (by decide)]
  exact ⟨b, true, hb, cl_self vdh (by grind) (by grind), by cases b <;> rfl⟩
end Go.Proofs.Ytmaphdfhoddnmaa
