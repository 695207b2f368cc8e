/-
  What the test 'near' asks of one double, way by way: plain laws over the model's doubles.
-/
import Derived.Test.YtmaphdfhoddnmaaFl
namespace Go.Proofs.Ytmaphdfhoddnmaa.Fl
open Ieee

abbrev cZero : Nat := 0
abbrev cOne : Nat := 4607182418800017408
abbrev cTwo : Nat := 4611686018427387904
abbrev cLo : Nat := 13920626448202203136
abbrev cHi : Nat := 4697254411347427328

theorem v_zero : IsV 0 0 := ⟨false, 0, -1074, by decide +kernel, by decide +kernel⟩
theorem v_one : IsV 4607182418800017408 1 := ⟨false, 4503599627370496, -52, by decide +kernel, by decide +kernel⟩
theorem v_two : IsV 4611686018427387904 2 := ⟨false, 4503599627370496, -51, by decide +kernel, by decide +kernel⟩
theorem v_lo : IsV 13920626448202203136 (-1048576) := ⟨true, 4503599627370496, -32, by decide +kernel, by decide +kernel⟩
theorem v_hi : IsV 4697254411347427328 1048576 := ⟨false, 4503599627370496, -32, by decide +kernel, by decide +kernel⟩

/-- The last test: 2 * f, its whole part, that as a float. -/
theorem twice {b : Nat} {v : Rat} (h : IsV b v) (h1 : -1048576 ≤ v) (h2 : v ≤ 1048576) :
    ∃ r z, floatBits .mul .f64 4611686018427387904 b = some r ∧ floatToIntVal .f64 r .i64 = some z ∧ IsV r (2 * v) ∧ z.natAbs ≤ 2097152 ∧
      IsV (floatOfInt .f64 z) (z : Rat) ∧ ((double.order (floatOfInt .f64 z) r != some .eq) = false → 2 * v = (z : Rat)) ∧ (∀ k : Int, 2 * v = (k : Rat) → z = k ∧ (double.order (floatOfInt .f64 z) r != some .eq) = false) := by
  have hrep : Rep (2 * v) := by
    obtain ⟨n, k, rfl, hn, hk1, hk2⟩ := isv_rep h
    by_cases h0 : n = 0
    · subst h0; exact ⟨0, 0, by simp, by decide, by decide, by decide⟩
    · have hk : k ≤ 20 := by
        apply exp_le_of
        have e20 : (2 : Rat) ^ (20 : Int) = 1048576 := by decide +kernel
        rw [e20]
        have hp := pw_pos k
        by_cases hneg : n < 0
        · have g1 : ((n + 1 : Int) : Rat) ≤ ((0 : Int) : Rat) := Rat.intCast_le_intCast.2 (by omega)
          rw [Rat.intCast_add] at g1
          have g2 := Rat.mul_le_mul_of_nonneg_right g1 (Rat.le_of_lt hp)
          simp at g2
          grind
        · have g1 : ((1 : Int) : Rat) ≤ ((n : Int) : Rat) := Rat.intCast_le_intCast.2 (by omega)
          have g2 := Rat.mul_le_mul_of_nonneg_right g1 (Rat.le_of_lt hp)
          simp at g2
          grind
      refine ⟨n, 1 + k, ?_, hn, by omega, by omega⟩
      rw [pw_add, Rat.zpow_one]; grind
  obtain ⟨r, hr, hv⟩ := mul_ex v_two h hrep
  obtain ⟨z, hz, habs, hint⟩ := toInt_val hv
  have hzb : z.natAbs ≤ 2097152 := by
    have g1 : ((z.natAbs : Nat) : Rat) ≤ ((2097152 : Nat) : Rat) := by
      have : ((2097152 : Nat) : Rat) = 2097152 := by decide +kernel
      rw [this]
      split at habs <;> grind
    exact Rat.natCast_le_natCast.1 g1
  have hzi : floatToIntVal .f64 r .i64 = some z := by
    unfold floatToIntVal
    rw [hz]
    have : IntKind.i64.min ≤ z ∧ z ≤ IntKind.i64.max := by
      have a1 : IntKind.i64.min = -9223372036854775808 := by decide
      have a2 : IntKind.i64.max = 9223372036854775807 := by decide
      rw [a1, a2]; omega
    simp only [this, and_self, if_true]
  have hzv := ofInt_val (n := z) (by omega)
  refine ⟨r, z, hr, hzi, hv, hzb, hzv, ?_, ?_⟩
  · intro he
    rw [neq hzv hv] at he
    simp at he
    exact he.symm
  · intro k hk
    have := hint k hk
    subst this
    refine ⟨rfl, ?_⟩
    rw [neq hzv hv, hk]; simp

/-- The ways through the test: five on which it says no, two on which it says yes. -/
inductive Ways (b : Nat) : Prop
  | nan (h1 : (double.order b b != some .eq) = true)
  | minus (r : Nat) (h1 : (double.order b b != some .eq) = false) (h2 : (double.order b 0 == some .eq) = true) (h3 : floatBits .quo .f64 4607182418800017408 b = some r) (h4 : (double.order r 0 == some .lt) = true)
  | low (h1 : (double.order b b != some .eq) = false) (h2 : (double.order b 0 == some .eq) = false) (h5 : (double.order b 13920626448202203136 == some .lt) = true)
  | high (h1 : (double.order b b != some .eq) = false) (h2 : (double.order b 0 == some .eq) = false) (h5 : (double.order b 13920626448202203136 == some .lt) = false) (h6 : (double.order b 4697254411347427328 == some .gt) = true)
  | broken (r : Nat) (z : Int) (h1 : (double.order b b != some .eq) = false) (h2 : (double.order b 0 == some .eq) = false) (h5 : (double.order b 13920626448202203136 == some .lt) = false) (h6 : (double.order b 4697254411347427328 == some .gt) = false)
      (h7 : floatBits .mul .f64 4611686018427387904 b = some r) (h8 : floatToIntVal .f64 r .i64 = some z) (h9 : (double.order (floatOfInt .f64 z) r != some .eq) = true)

/-- What holds where the test says yes. -/
inductive Fine (b : Nat) : Prop
  | zero (q r : Nat) (z : Int) (h1 : (double.order b b != some .eq) = false) (h2 : (double.order b 0 == some .eq) = true) (h3 : floatBits .quo .f64 4607182418800017408 b = some q) (h4 : (double.order q 0 == some .lt) = false)
      (h5 : (double.order b 13920626448202203136 == some .lt) = false) (h6 : (double.order b 4697254411347427328 == some .gt) = false)
      (h7 : floatBits .mul .f64 4611686018427387904 b = some r) (h8 : floatToIntVal .f64 r .i64 = some z) (h9 : (double.order (floatOfInt .f64 z) r != some .eq) = false)
  | other (r : Nat) (z : Int) (h1 : (double.order b b != some .eq) = false) (h2 : (double.order b 0 == some .eq) = false) (h5 : (double.order b 13920626448202203136 == some .lt) = false) (h6 : (double.order b 4697254411347427328 == some .gt) = false)
      (h7 : floatBits .mul .f64 4611686018427387904 b = some r) (h8 : floatToIntVal .f64 r .i64 = some z) (h9 : (double.order (floatOfInt .f64 z) r != some .eq) = false)

theorem self_eq {b : Nat} {v : Rat} (h : IsV b v) : (double.order b b != some .eq) = false := by
  rw [neq h h]; simp

theorem near_cases (b : Nat) : (Fine b ∧ ∃ n, Half b n) ∨ Ways b := by
  rcases cases_of b with h | ⟨s, h⟩ | ⟨v, h⟩
  · right; exact .nan (by rw [h b]; rfl)
  · right
    have h1 : (double.order b b != some .eq) = false := by rw [inf_self h]; rfl
    have h2 : (double.order b 0 == some .eq) = false := by rw [inf_order h v_zero]; cases s <;> rfl
    cases s
    · exact .high h1 h2 (by rw [inf_order h v_lo]; rfl) (by rw [inf_order h v_hi]; rfl)
    · exact .low h1 h2 (by rw [inf_order h v_lo]; rfl)
  · have h1 := self_eq h
    by_cases h0 : v = 0
    · subst h0
      have h2 : (double.order b 0 == some .eq) = true := by rw [eql h v_zero]; simp
      obtain ⟨s, e, hr⟩ := zero_read h
      obtain ⟨t, m, i, ho, hov⟩ := v_one
      have hm : m ≠ 0 := by intro hm; subst hm; rw [V_zero] at hov; exact absurd hov (by decide +kernel)
      have ht : t = false := by
        have := ho
        have h5 : double.read 4607182418800017408 = .number false 4503599627370496 (-52) := by decide +kernel
        rw [h5] at this; cases this; rfl
      subst ht
      have hq := one_div_zero ho hm hr
      have hf : (double.order (double.write (.infinity (false ^^ s))) 0 == some .lt) = s := by
        rw [inf_order (read_inf _) v_zero]; cases s <;> rfl
      cases s
      · left
        obtain ⟨r, z, e1, e2, e3, e4, e5, e6, e7⟩ := twice h (by decide +kernel) (by decide +kernel)
        obtain ⟨ez, e8⟩ := e7 0 (by decide +kernel)
        refine ⟨.zero _ r z h1 h2 hq hf ?_ ?_ e1 e2 e8, 0, by decide, by decide, ?_, ?_⟩
        · rw [lss h v_lo]; simp; decide +kernel
        · rw [gtr h v_hi]; simp; decide +kernel
        · have : ((0 : Int) : Rat) / 2 = 0 := by decide +kernel
          rw [this]; exact h
        · rintro ⟨e', he'⟩; rw [hr] at he'; cases he'
      · right; exact .minus _ h1 h2 hq hf
    · have h2 : (double.order b 0 == some .eq) = false := by rw [eql h v_zero]; simp [h0]
      by_cases hlo : v < -1048576
      · right; exact .low h1 h2 (by rw [lss h v_lo]; simp [hlo])
      · have h5 : (double.order b 13920626448202203136 == some .lt) = false := by rw [lss h v_lo]; simp [hlo]
        by_cases hhi : 1048576 < v
        · right; exact .high h1 h2 h5 (by rw [gtr h v_hi]; simp [hhi])
        · have h6 : (double.order b 4697254411347427328 == some .gt) = false := by rw [gtr h v_hi]; simp [hhi]
          obtain ⟨r, z, e1, e2, e3, e4, e5, e6, e7⟩ := twice h (by grind) (by grind)
          by_cases h9 : (double.order (floatOfInt .f64 z) r != some .eq) = true
          · right; exact .broken r z h1 h2 h5 h6 e1 e2 h9
          · left
            rw [Bool.not_eq_true] at h9
            have := e6 h9
            refine ⟨.other r z h1 h2 h5 h6 e1 e2 h9, z, by omega, by omega, ?_, ?_⟩
            · have e : (z : Rat) / 2 = v := by rw [← this]; grind
              rw [e]; exact h
            · rintro ⟨e', he'⟩
              obtain ⟨s, m, e, hr, hv⟩ := h
              rw [hr] at he'; cases he'
              rw [V_zero] at hv; exact h0 hv.symm

end Go.Proofs.Ytmaphdfhoddnmaa.Fl
