/-
  What the test 'small' asks of one double: plain laws; eighths of whole numbers.
-/
import Derived.Test.YtmaphdfhoddnmaaFlNear
namespace Go.Proofs.Ytmaphdfhoddnmaa.Fl
open Ieee

theorem v_eight : IsV 4620693217682128896 8 := ⟨false, 4503599627370496, -49, by decide +kernel, by decide +kernel⟩

theorem times8 {b : Nat} {v : Rat} (h : IsV b v) (h1 : -1048576 ≤ v) (h2 : v ≤ 1048576) :
    ∃ r z, floatBits .mul .f64 b 4620693217682128896 = some r ∧ floatToIntVal .f64 r .i64 = some z ∧ IsV r (v * 8) ∧ z.natAbs ≤ 8388608 ∧
      IsV (floatOfInt .f64 z) (z : Rat) ∧ ((double.order r (floatOfInt .f64 z) == some .eq) = true → v * 8 = (z : Rat)) := by
  have hrep : Rep (v * 8) := by
    obtain ⟨n, k, rfl, hn, hk1, hk2⟩ := isv_rep h
    by_cases h0 : n = 0
    · subst h0; exact ⟨0, 0, by simp, by decide, by decide, by decide⟩
    · have hk : k ≤ 20 := by
        apply exp_le_of
        have e20 : (2 : Rat) ^ (20 : Int) = 1048576 := by decide +kernel
        rw [e20]
        have hp := pw_pos k
        by_cases hneg : n < 0
        · have g1 : ((n + 1 : Int) : Rat) ≤ ((0 : Int) : Rat) := Rat.intCast_le_intCast.2 (by omega)
          rw [Rat.intCast_add] at g1
          have g2 := Rat.mul_le_mul_of_nonneg_right g1 (Rat.le_of_lt hp)
          simp at g2
          grind
        · have g1 : ((1 : Int) : Rat) ≤ ((n : Int) : Rat) := Rat.intCast_le_intCast.2 (by omega)
          have g2 := Rat.mul_le_mul_of_nonneg_right g1 (Rat.le_of_lt hp)
          simp at g2
          grind
      refine ⟨n, 3 + k, ?_, hn, by omega, by omega⟩
      have e3 : (2 : Rat) ^ (3 : Int) = 8 := by decide +kernel
      rw [pw_add, e3]; grind
  obtain ⟨r, hr, hv⟩ := mul_ex h v_eight hrep
  obtain ⟨z, hz, habs, _⟩ := toInt_val hv
  have hzb : z.natAbs ≤ 8388608 := by
    have g1 : ((z.natAbs : Nat) : Rat) ≤ ((8388608 : Nat) : Rat) := by
      have : ((8388608 : Nat) : Rat) = 8388608 := by decide +kernel
      rw [this]
      split at habs <;> grind
    exact Rat.natCast_le_natCast.1 g1
  have hzi : floatToIntVal .f64 r .i64 = some z := by
    unfold floatToIntVal
    rw [hz]
    have : IntKind.i64.min ≤ z ∧ z ≤ IntKind.i64.max := by
      have a1 : IntKind.i64.min = -9223372036854775808 := by decide
      have a2 : IntKind.i64.max = 9223372036854775807 := by decide
      rw [a1, a2]; omega
    simp only [this, and_self, if_true]
  have hzv := ofInt_val (n := z) (by omega)
  refine ⟨r, z, hr, hzi, hv, hzb, hzv, ?_⟩
  intro he
  rw [eql hv hzv] at he
  simpa using he

/-- The word b is the eighth n / 8. -/
def Ei (b : Nat) (n : Int) : Prop := IsV b ((n : Rat) / 8)

inductive Small (b : Nat) : Prop
  | low (h1 : (double.order b 13920626448202203136 == some .gt || double.order b 13920626448202203136 == some .eq) = false)
  | high (h1 : (double.order b 13920626448202203136 == some .gt || double.order b 13920626448202203136 == some .eq) = true) (h2 : (double.order b 4697254411347427328 == some .lt || double.order b 4697254411347427328 == some .eq) = false)
  | in_ (r : Nat) (z : Int) (q : Bool) (h1 : (double.order b 13920626448202203136 == some .gt || double.order b 13920626448202203136 == some .eq) = true) (h2 : (double.order b 4697254411347427328 == some .lt || double.order b 4697254411347427328 == some .eq) = true)
      (h3 : floatBits .mul .f64 b 4620693217682128896 = some r) (h4 : floatToIntVal .f64 r .i64 = some z) (h5 : (double.order r (floatOfInt .f64 z) == some .eq) = q) (hq : q = true → Ei b z ∧ -8388608 ≤ z ∧ z ≤ 8388608)

theorem small_cases (b : Nat) : Small b := by
  rcases cases_of b with h | ⟨s, h⟩ | ⟨v, h⟩
  · exact .low (by rw [h]; rfl)
  · cases s
    · exact .high (by rw [inf_order h v_lo]; rfl) (by rw [inf_order h v_hi]; rfl)
    · exact .low (by rw [inf_order h v_lo]; rfl)
  · by_cases h1 : -1048576 ≤ v
    · have e1 : (double.order b 13920626448202203136 == some .gt || double.order b 13920626448202203136 == some .eq) = true := by rw [geq h v_lo]; simpa using h1
      by_cases h2 : v ≤ 1048576
      · obtain ⟨r, z, k1, k2, k3, k4, k5, k6⟩ := times8 h h1 h2
        refine .in_ r z _ e1 (by rw [leq h v_hi]; simpa using h2) k1 k2 rfl ?_
        intro hq
        have := k6 hq
        refine ⟨?_, by omega, by omega⟩
        unfold Ei
        have e : (z : Rat) / 8 = v := by rw [← this]; grind
        rw [e]; exact h
      · exact .high e1 (by rw [leq h v_hi]; simpa using h2)
    · exact .low (by rw [geq h v_lo]; simpa using h1)

theorem rep_ei {n : Int} (h : n.natAbs < 2 ^ 53) : Rep ((n : Rat) / 8) := by
  refine rep_of (n := n) (d := 3) ?_ h (by decide)
  have : (((2 ^ 3 : Nat)) : Rat) = 8 := by decide +kernel
  rw [this]; grind

theorem add_ei {x y : Nat} {m n : Int} (hx : Ei x m) (hy : Ei y n) (hb : (m + n).natAbs < 2 ^ 53) :
    ∃ r, floatBits .add .f64 x y = some r ∧ Ei r (m + n) := by
  have he : ((m + n : Int) : Rat) / 8 = (m : Rat) / 8 + (n : Rat) / 8 := by rw [Rat.intCast_add]; grind
  have hr : Rep ((m : Rat) / 8 + (n : Rat) / 8) := by rw [← he]; exact rep_ei hb
  obtain ⟨r, h1, h2⟩ := add_ex hx hy hr
  exact ⟨r, h1, by unfold Ei; rw [he]; exact h2⟩
theorem sub_ei {x y : Nat} {m n : Int} (hx : Ei x m) (hy : Ei y n) (hb : (m - n).natAbs < 2 ^ 53) :
    ∃ r, floatBits .sub .f64 x y = some r ∧ Ei r (m - n) := by
  have he : ((m - n : Int) : Rat) / 8 = (m : Rat) / 8 - (n : Rat) / 8 := by rw [Rat.intCast_sub]; grind
  have hr : Rep ((m : Rat) / 8 - (n : Rat) / 8) := by rw [← he]; exact rep_ei hb
  obtain ⟨r, h1, h2⟩ := sub_ex hx hy hr
  exact ⟨r, h1, by unfold Ei; rw [he]; exact h2⟩
theorem ei_eq {x y : Nat} {m n : Int} (hx : Ei x m) (hy : Ei y n) (h : m = n) : (FloatKind.f64.format.order x y == some .eq) = true := by
  have : (double.order x y == some .eq) = true := by rw [eql hx hy, h]; simp
  exact this
theorem ei_lt (x y : Rat) : x / 8 < y / 8 ↔ x < y := by grind
theorem ei_lss {x y : Nat} {m n : Int} (hx : Ei x m) (hy : Ei y n) : (FloatKind.f64.format.order x y == some .lt) = decide (m < n) := by
  have : (double.order x y == some .lt) = decide (m < n) := by rw [lss hx hy]; simp only [ei_lt, Rat.intCast_lt_intCast]
  exact this
theorem ei_gtr {x y : Nat} {m n : Int} (hx : Ei x m) (hy : Ei y n) : (FloatKind.f64.format.order x y == some .gt) = decide (n < m) := by
  have : (double.order x y == some .gt) = decide (n < m) := by rw [gtr hx hy]; simp only [ei_lt, Rat.intCast_lt_intCast]
  exact this
theorem ei_int {n : Int} (h : n.natAbs ≤ 1000000) : Ei (floatOfInt .f64 n) (8 * n) := by
  unfold Ei
  have e : ((8 * n : Int) : Rat) / 8 = (n : Rat) := by rw [Rat.intCast_mul]; simp; grind
  rw [e]; exact ofInt_val (by omega)

end Go.Proofs.Ytmaphdfhoddnmaa.Fl
