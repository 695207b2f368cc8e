/-
  Relative errors: a rounded product, quotient or sum is within the part D of the true one. Plain laws over the model's doubles.
-/
import Derived.Test.YtmaphdfhoddnmaaFlNear
namespace Go.Proofs.Ytmaphdfhoddnmaa.Fl
open Ieee

/-- 2^-50. -/
def D : Rat := 1 / 1125899906842624
/-- 2^-100. -/
def tiny : Rat := 1 / 1267650600228229401496703205376

theorem D_pos : 0 < D := by decide +kernel
theorem pw53 : (2 : Rat) ^ (-53 : Int) = D / 8 := by decide +kernel
theorem tiny_pos : 0 < tiny := by decide +kernel
theorem pw1075 : (2 : Rat) ^ (-1075 : Int) ≤ tiny * (D / 8) := by
  have h : (2 : Rat) ^ (-1075 : Int) ≤ (2 : Rat) ^ (-153 : Int) := pw_le (by decide)
  have e : (2 : Rat) ^ (-153 : Int) = tiny * (D / 8) := by decide +kernel
  rw [e] at h; exact h

theorem E_le {A : Rat} (h : tiny ≤ A) : E A ≤ A * D / 4 := by
  unfold E
  have h1 := pw1075
  have h2 : tiny * (D / 8) ≤ A * (D / 8) := Rat.mul_le_mul_of_nonneg_right h (by have := D_pos; grind)
  rw [pw53]
  grind

theorem big_le {A : Rat} (h : A ≤ 1267650600228229401496703205376) : A ≤ (2 : Rat) ^ (900 : Int) := by
  have h1 : (2 : Rat) ^ (100 : Int) ≤ (2 : Rat) ^ (900 : Int) := pw_le (by decide)
  have e : (2 : Rat) ^ (100 : Int) = 1267650600228229401496703205376 := by decide +kernel
  rw [e] at h1
  exact Rat.le_trans h h1

theorem mul_rel {x y : Nat} {a b p : Rat} (hx : IsV x a) (hy : IsV y b) (hp : a * b = p) (h1 : tiny ≤ p) (h2 : p ≤ 1267650600228229401496703205376) :
    ∃ r v, floatBits .mul .f64 x y = some r ∧ IsV r v ∧ v ≤ p + p * D ∧ p ≤ v + p * D := by
  have ht := tiny_pos
  obtain ⟨r, v, e1, e2, e3, e4⟩ := mul_err (A := p) hx hy (by grind) (by grind) (big_le h2)
  have hE := E_le h1
  have hD : 0 ≤ p * D := Rat.mul_nonneg (by grind) (by have := D_pos; grind)
  exact ⟨r, v, e1, e2, by grind, by grind⟩

theorem add_rel {x y : Nat} {a b p : Rat} (hx : IsV x a) (hy : IsV y b) (hp : a + b = p) (h1 : tiny ≤ p) (h2 : p ≤ 1267650600228229401496703205376) :
    ∃ r v, floatBits .add .f64 x y = some r ∧ IsV r v ∧ v ≤ p + p * D ∧ p ≤ v + p * D := by
  have ht := tiny_pos
  obtain ⟨r, v, e1, e2, e3, e4⟩ := add_err (A := p) hx hy (by grind) (by grind) (big_le h2)
  have hE := E_le h1
  have hD : 0 ≤ p * D := Rat.mul_nonneg (by grind) (by have := D_pos; grind)
  exact ⟨r, v, e1, e2, by grind, by grind⟩

/-- A difference, within the part D of any bound A of it. -/
theorem sub_abs {x y : Nat} {a b A : Rat} (hx : IsV x a) (hy : IsV y b) (h1 : a - b ≤ A) (h2 : b - a ≤ A) (hA : tiny ≤ A) (hB : A ≤ 1267650600228229401496703205376) :
    ∃ r v, floatBits .sub .f64 x y = some r ∧ IsV r v ∧ v ≤ a - b + A * D ∧ a - b ≤ v + A * D := by
  have ht := tiny_pos
  obtain ⟨r, v, e1, e2, e3, e4⟩ := sub_err (A := A) hx hy h1 (by grind) (big_le hB)
  have hE := E_le hA
  have hD : 0 ≤ A * D := Rat.mul_nonneg (by grind) (by have := D_pos; grind)
  exact ⟨r, v, e1, e2, by grind, by grind⟩
theorem add_abs {x y : Nat} {a b A : Rat} (hx : IsV x a) (hy : IsV y b) (h1 : a + b ≤ A) (h2 : -(a + b) ≤ A) (hA : tiny ≤ A) (hB : A ≤ 1267650600228229401496703205376) :
    ∃ r v, floatBits .add .f64 x y = some r ∧ IsV r v ∧ v ≤ a + b + A * D ∧ a + b ≤ v + A * D := by
  have ht := tiny_pos
  obtain ⟨r, v, e1, e2, e3, e4⟩ := add_err (A := A) hx hy h1 h2 (big_le hB)
  have hE := E_le hA
  have hD : 0 ≤ A * D := Rat.mul_nonneg (by grind) (by have := D_pos; grind)
  exact ⟨r, v, e1, e2, by grind, by grind⟩
theorem mul_abs {x y : Nat} {a b A : Rat} (hx : IsV x a) (hy : IsV y b) (h1 : a * b ≤ A) (h2 : -(a * b) ≤ A) (hA : tiny ≤ A) (hB : A ≤ 1267650600228229401496703205376) :
    ∃ r v, floatBits .mul .f64 x y = some r ∧ IsV r v ∧ v ≤ a * b + A * D ∧ a * b ≤ v + A * D := by
  have ht := tiny_pos
  obtain ⟨r, v, e1, e2, e3, e4⟩ := mul_err (A := A) hx hy h1 h2 (big_le hB)
  have hE := E_le hA
  have hD : 0 ≤ A * D := Rat.mul_nonneg (by grind) (by have := D_pos; grind)
  exact ⟨r, v, e1, e2, by grind, by grind⟩

/-- A quotient q = a / b of positive numbers. -/
theorem div_rel {x y : Nat} {a b q : Rat} (hx : IsV x a) (hy : IsV y b) (hb : 0 < b) (hq : q * b = a) (h1 : tiny ≤ q) (h2 : q ≤ 633825300114114700748351602688) :
    ∃ r v, floatBits .quo .f64 x y = some r ∧ IsV r v ∧ v ≤ q + q * D ∧ q ≤ v + q * D := by
  have ht := tiny_pos
  have hD := D_pos
  have hqb : 0 ≤ q * b := Rat.mul_nonneg (by grind) (Rat.le_of_lt hb)
  obtain ⟨r, v, e1, e2, e3, e4⟩ := div_err (A := a) (B := 2 * q) hx hy hb (by grind) (by grind) (by grind) (big_le (by grind))
  have hE : E (2 * q) ≤ 2 * q * D / 4 := E_le (by grind)
  have hEb : E (2 * q) * b ≤ 2 * q * D / 4 * b := Rat.mul_le_mul_of_nonneg_right hE (Rat.le_of_lt hb)
  rw [pw53] at e3 e4
  have hqD : 0 ≤ q * b * D := Rat.mul_nonneg hqb (Rat.le_of_lt hD)
  refine ⟨r, v, e1, e2, ?_, ?_⟩
  · apply Rat.le_of_mul_le_mul_right _ hb
    subst hq
    grind
  · apply Rat.le_of_mul_le_mul_right _ hb
    subst hq
    grind

/-- Half of a number, within D of any bound A of it. -/
theorem two_abs {x y : Nat} {a A : Rat} (hx : IsV x a) (hy : IsV y 2) (h1 : a ≤ A) (h2 : -a ≤ A) (hA : tiny ≤ A) (hB : A ≤ 1267650600228229401496703205376) :
    ∃ r v, floatBits .quo .f64 x y = some r ∧ IsV r v ∧ v ≤ a / 2 + A * D ∧ a / 2 ≤ v + A * D := by
  have ht := tiny_pos
  have hD := D_pos
  obtain ⟨r, v, e1, e2, e3, e4⟩ := div_err (A := A) (B := A) hx hy (by decide) h1 h2 (by grind) (big_le hB)
  have hE : E A ≤ A * D / 4 := E_le hA
  rw [pw53] at e3 e4
  have hqD : 0 ≤ A * D := Rat.mul_nonneg (by grind) (Rat.le_of_lt hD)
  refine ⟨r, v, e1, e2, ?_, ?_⟩ <;> grind
end Go.Proofs.Ytmaphdfhoddnmaa.Fl
