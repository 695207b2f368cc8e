/-
  FnBestFit: what BestFit gives passes the law's checks, whatever the two rectangles of the same lie.
-/
import Derived.Test.YtmaphdfhoddnmaaBfc
namespace Go.Proofs.Ytmaphdfhoddnmaa
open Go.RowKit Fl
set_option linter.unusedVariables false

theorem half_le_iff (n m : Int) : ((n : Rat) / 2 ≤ (m : Rat) / 2) ↔ n ≤ m := by
  have h : (n : Rat) ≤ (m : Rat) ↔ n ≤ m := Rat.intCast_le_intCast
  rw [← h]; grind
theorem half_lt_iff (n m : Int) : ((n : Rat) / 2 < (m : Rat) / 2) ↔ n < m := by
  have h : (n : Rat) < (m : Rat) ↔ n < m := Rat.intCast_lt_intCast
  rw [← h]; grind
theorem half_lo {n : Int} (h : 2 ≤ n) : (1 : Rat) ≤ (n : Rat) / 2 := by
  have := Rat.intCast_le_intCast.2 h
  have : (2 : Rat) ≤ (n : Rat) := by simpa using this
  grind
theorem half_hi {n : Int} (h : n ≤ 8388608) : (n : Rat) / 2 ≤ top := by
  have := Rat.intCast_le_intCast.2 h
  have : (n : Rat) ≤ 8388608 := by simpa using this
  grind

/-- The two rectangles' lengths, as words and as halves. -/
structure Sides (a b c d a' b' c' d' ws hs wd hd : Nat) (n m n' m' : Int) : Prop where
  e1 : floatBits .sub .f64 c a = some ws
  e2 : floatBits .sub .f64 d b = some hs
  e3 : floatBits .sub .f64 c' a' = some wd
  e4 : floatBits .sub .f64 d' b' = some hd
  v1 : IsV ws ((n : Rat) / 2)
  v2 : IsV hs ((m : Rat) / 2)
  v3 : IsV wd ((n' : Rat) / 2)
  v4 : IsV hd ((m' : Rat) / 2)
  n1 : 2 ≤ n
  n2 : n ≤ 8388608
  m1 : 2 ≤ m
  m2 : m ≤ 8388608
  n1' : 2 ≤ n'
  n2' : n' ≤ 8388608
  m1' : 2 ≤ m'
  m2' : m' ≤ 8388608

theorem gtr_one {x : Nat} {P : Rat} (hx : IsV x P) : (FloatKind.f64.format.order x 4607182418800017408 == some .gt) = decide (1 < P) := gtr hx v_one
theorem lss_one {x : Nat} {P : Rat} (hx : IsV x P) : (FloatKind.f64.format.order x 4607182418800017408 == some .lt) = decide (P < 1) := lss hx v_one
theorem gtr_k {x y : Nat} {P Q : Rat} (hx : IsV x P) (hy : IsV y Q) : (FloatKind.f64.format.order x y == some .gt) = decide (Q < P) := gtr hx hy
theorem lss_k {x y : Nat} {P Q : Rat} (hx : IsV x P) (hy : IsV y Q) : (FloatKind.f64.format.order x y == some .lt) = decide (P < Q) := lss hx hy
theorem leq_half {x y : Nat} {n m : Int} (hx : IsV x ((n : Rat) / 2)) (hy : IsV y ((m : Rat) / 2)) : (FloatKind.f64.format.order x y == some .lt || FloatKind.f64.format.order x y == some .eq) = decide (n ≤ m) := by
  have h : (Ieee.double.order x y == some .lt || Ieee.double.order x y == some .eq) = decide (n ≤ m) := by
    rw [leq hx hy]
    exact decide_eq_decide.2 (half_le_iff n m)
  exact h

theorem outcome {a b c d a' b' c' d' ws hs wd hd : Nat} {n m n' m' : Int} (S : Sides a b c d a' b' c' d' ws hs wd hd n m n' m') (o1 : m < n ↔ m' < n') (o2 : n < m ↔ n' < m') (up : Bool) :
    ∃ p q r s, Gives a b c d a' b' c' d' up p q r s 0 ∧ Fine5 ws hs wd hd p q r s (decide (n ≤ n') && decide (m ≤ m') && !up) := by
  obtain ⟨e1, e2, e3, e4, v1, v2, v3, v4, n1, n2, m1, m2, n1', n2', m1', m2'⟩ := S
  obtain ⟨sa, SA, x, es, vs, hx, x1, x2, s1, s2, sg, sl, sq⟩ := ratio v1 v2 n1 n2 m1 m2
  obtain ⟨da, DA, z, ed, vd, hz, z1, z2, d1, d2, dg, dl, dq⟩ := ratio v3 v4 n1' n2' m1' m2'
  have L : Lens ws hs wd hd ((n : Rat) / 2) ((m : Rat) / 2) ((n' : Rat) / 2) ((m' : Rat) / 2) := ⟨v1, v2, v3, v4, half_lo n1, half_hi n2, half_lo m1, half_hi m2, half_lo n1', half_hi n2', half_lo m1', half_hi m2'⟩
  have HD : Dims a b c d a' b' c' d' ws hs wd hd sa da := ⟨e1, e2, e3, e4, es, ed⟩
  have l1 := leq_half v1 v3
  have l2 := leq_half v2 v4
  by_cases hown : (decide (n ≤ n') && decide (m ≤ m') && !up) = true
  · rw [hown]
    simp only [Bool.and_eq_true, decide_eq_true_eq, Bool.not_eq_true'] at hown
    obtain ⟨⟨hn, hm⟩, hu⟩ := hown
    obtain ⟨x1, x2, x3, y1, y2, y3, i1, i2, i3, i4, i5, i6, hF⟩ := fine_own L ((half_le_iff _ _).2 hn) ((half_le_iff _ _).2 hm)
    exact ⟨ws, hs, x3, y3, fun g k w hr hr' => best_own g k a b c d a' b' c' d' ws hs wd hd sa da x1 x2 x3 y1 y2 y3 up _ _ HD hu (by simp [hn, hm]) l1 l2 i1 i2 i3 i4 i5 i6 w hr hr', hF⟩
  · have hown : (decide (n ≤ n') && decide (m ≤ m') && !up) = false := by simpa using hown
    rw [hown]
    have t1 := gtr_one vs
    have t2 := gtr_one vd
    have t3 := lss_one vs
    have t4 := lss_one vd
    rcases Int.lt_trichotomy n m with h | h | h
    · -- higher than wide
      have h' := o2.1 h
      have k1 := sl h
      have k2 := dl h'
      rw [decide_eq_false (by grind)] at t1
      rw [decide_eq_true k1] at t3
      rw [decide_eq_true k2] at t4
      have t5 := lss_k vs vd
      by_cases hlt : SA < DA
      · rw [decide_eq_true hlt] at t5
        obtain ⟨x1, x2, x3, i1, i2, i3, hF⟩ := fine_h L vs hx x1 x2 s1 s2 hz z1 z2 (by grind)
        cases up
        · exact ⟨x1, hd, x3, 0, fun g k w hr hr' => best_port_h_no g k a b c d a' b' c' d' ws hs wd hd sa da x1 x2 x3 false _ _ HD rfl (by simpa using hown) l1 l2 t1 t3 t4 t5 i1 i2 i3 w hr hr', hF⟩
        · exact ⟨x1, hd, x3, 0, fun g k w hr hr' => best_port_h_up g k a b c d a' b' c' d' ws hs wd hd sa da x1 x2 x3 true _ _ HD rfl l1 l2 t1 t3 t4 t5 i1 i2 i3 w hr hr', hF⟩
      · rw [decide_eq_false hlt] at t5
        obtain ⟨x1, x2, x3, i1, i2, i3, hF⟩ := fine_w L vs hx x1 x2 s1 s2 hz z1 z2 (by grind)
        cases up
        · exact ⟨wd, x1, 0, x3, fun g k w hr hr' => best_port_w_no g k a b c d a' b' c' d' ws hs wd hd sa da x1 x2 x3 false _ _ HD rfl (by simpa using hown) l1 l2 t1 t3 t4 t5 i1 i2 i3 w hr hr', hF⟩
        · exact ⟨wd, x1, 0, x3, fun g k w hr hr' => best_port_w_up g k a b c d a' b' c' d' ws hs wd hd sa da x1 x2 x3 true _ _ HD rfl l1 l2 t1 t3 t4 t5 i1 i2 i3 w hr hr', hF⟩
    · -- squares
      have h' : n' = m' := by omega
      have k1 := sq h
      have k2 := dq h'
      rw [decide_eq_false (by grind)] at t1
      rw [decide_eq_false (by grind)] at t3
      rw [decide_eq_false (by grind)] at t4
      subst k1
      obtain ⟨x1, x2, x3, x4, i1, i2, i3, i4, hF⟩ := fine_sq L vs (by rw [h]) (by rw [h'])
      cases up
      · exact ⟨hd, hd, x4, 0, fun g k w hr hr' => best_square_no g k a b c d a' b' c' d' ws hs wd hd sa da x1 x2 x3 x4 false _ _ HD rfl (by simpa using hown) l1 l2 t1 t3 t4 i1 i2 i3 i4 w hr hr', hF⟩
      · exact ⟨hd, hd, x4, 0, fun g k w hr hr' => best_square_up g k a b c d a' b' c' d' ws hs wd hd sa da x1 x2 x3 x4 true _ _ HD rfl l1 l2 t1 t3 t4 i1 i2 i3 i4 w hr hr', hF⟩
    · -- wider than high
      have h' := o1.1 h
      have k1 := sg h
      have k2 := dg h'
      rw [decide_eq_true k1] at t1
      rw [decide_eq_true k2] at t2
      have t5 := gtr_k vs vd
      by_cases hlt : DA < SA
      · rw [decide_eq_true hlt] at t5
        obtain ⟨x1, x2, x3, i1, i2, i3, hF⟩ := fine_w L vs hx x1 x2 s1 s2 hz z1 z2 (by grind)
        cases up
        · exact ⟨wd, x1, 0, x3, fun g k w hr hr' => best_land_w_no g k a b c d a' b' c' d' ws hs wd hd sa da x1 x2 x3 false _ _ HD rfl (by simpa using hown) l1 l2 t1 t2 t5 i1 i2 i3 w hr hr', hF⟩
        · exact ⟨wd, x1, 0, x3, fun g k w hr hr' => best_land_w_up g k a b c d a' b' c' d' ws hs wd hd sa da x1 x2 x3 true _ _ HD rfl l1 l2 t1 t2 t5 i1 i2 i3 w hr hr', hF⟩
      · rw [decide_eq_false hlt] at t5
        obtain ⟨x1, x2, x3, i1, i2, i3, hF⟩ := fine_h L vs hx x1 x2 s1 s2 hz z1 z2 (by grind)
        cases up
        · exact ⟨x1, hd, x3, 0, fun g k w hr hr' => best_land_h_no g k a b c d a' b' c' d' ws hs wd hd sa da x1 x2 x3 false _ _ HD rfl (by simpa using hown) l1 l2 t1 t2 t5 i1 i2 i3 w hr hr', hF⟩
        · exact ⟨x1, hd, x3, 0, fun g k w hr hr' => best_land_h_up g k a b c d a' b' c' d' ws hs wd hd sa da x1 x2 x3 true _ _ HD rfl l1 l2 t1 t2 t5 i1 i2 i3 w hr hr', hF⟩
end Go.Proofs.Ytmaphdfhoddnmaa
