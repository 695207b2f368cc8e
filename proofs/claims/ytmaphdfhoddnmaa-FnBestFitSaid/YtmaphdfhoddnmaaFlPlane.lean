/-
  Sums and products of quarters of whole numbers are exact: plain laws over the model's doubles.
-/
import Derived.Test.YtmaphdfhoddnmaaFlNear
namespace Go.Proofs.Ytmaphdfhoddnmaa.Fl
open Ieee

/-- The word b is the quarter n / 4. -/
def Qu (b : Nat) (n : Int) : Prop := IsV b ((n : Rat) / 4)

theorem rep_qu {n : Int} (h : n.natAbs < 2 ^ 53) : Rep ((n : Rat) / 4) := by
  refine rep_of (n := n) (d := 2) ?_ h (by decide)
  have : (((2 ^ 2 : Nat)) : Rat) = 4 := by decide +kernel
  rw [this]; grind

theorem qu_of_half {b : Nat} {n : Int} (h : IsV b ((n : Rat) / 2)) : Qu b (2 * n) := by
  unfold Qu
  have : ((2 * n : Int) : Rat) / 4 = (n : Rat) / 2 := by rw [Rat.intCast_mul]; simp; grind
  rw [this]; exact h

theorem mul_half {x y : Nat} {m n : Int} (hx : IsV x ((m : Rat) / 2)) (hy : IsV y ((n : Rat) / 2)) (hm : m.natAbs ≤ 2097152) (hn : n.natAbs ≤ 2097152) :
    ∃ r, floatBits .mul .f64 x y = some r ∧ Qu r (m * n) ∧ (m * n).natAbs ≤ 4398046511104 := by
  have hb : (m * n).natAbs ≤ 4398046511104 := by
    rw [Int.natAbs_mul]
    exact Nat.le_trans (Nat.mul_le_mul hm hn) (by decide)
  have he : ((m * n : Int) : Rat) / 4 = (m : Rat) / 2 * ((n : Rat) / 2) := by rw [Rat.intCast_mul]; grind
  have hr : Rep ((m : Rat) / 2 * ((n : Rat) / 2)) := by rw [← he]; exact rep_qu (by omega)
  obtain ⟨r, h1, h2⟩ := mul_ex hx hy hr
  exact ⟨r, h1, by unfold Qu; rw [he]; exact h2, hb⟩

theorem add_qu {x y : Nat} {m n : Int} (hx : Qu x m) (hy : Qu y n) (hb : (m + n).natAbs < 2 ^ 53) :
    ∃ r, floatBits .add .f64 x y = some r ∧ Qu r (m + n) := by
  have he : ((m + n : Int) : Rat) / 4 = (m : Rat) / 4 + (n : Rat) / 4 := by rw [Rat.intCast_add]; grind
  have hr : Rep ((m : Rat) / 4 + (n : Rat) / 4) := by rw [← he]; exact rep_qu hb
  obtain ⟨r, h1, h2⟩ := add_ex hx hy hr
  exact ⟨r, h1, by unfold Qu; rw [he]; exact h2⟩

theorem sub_qu {x y : Nat} {m n : Int} (hx : Qu x m) (hy : Qu y n) (hb : (m - n).natAbs < 2 ^ 53) :
    ∃ r, floatBits .sub .f64 x y = some r ∧ Qu r (m - n) := by
  have he : ((m - n : Int) : Rat) / 4 = (m : Rat) / 4 - (n : Rat) / 4 := by rw [Rat.intCast_sub]; grind
  have hr : Rep ((m : Rat) / 4 - (n : Rat) / 4) := by rw [← he]; exact rep_qu hb
  obtain ⟨r, h1, h2⟩ := sub_ex hx hy hr
  exact ⟨r, h1, by unfold Qu; rw [he]; exact h2⟩

theorem qu_eq {x y : Nat} {m n : Int} (hx : Qu x m) (hy : Qu y n) (h : m = n) : (FloatKind.f64.format.order x y == some .eq) = true := by
  have : (double.order x y == some .eq) = true := by rw [eql hx hy, h]; simp
  exact this

theorem qu_lt (x y : Rat) : x / 4 < y / 4 ↔ x < y := by grind
theorem qu_le (x y : Rat) : x / 4 ≤ y / 4 ↔ x ≤ y := by grind

theorem qu_lss {x y : Nat} {m n : Int} (hx : Qu x m) (hy : Qu y n) : (FloatKind.f64.format.order x y == some .lt) = decide (m < n) := by
  have : (double.order x y == some .lt) = decide (m < n) := by rw [lss hx hy]; simp only [qu_lt, Rat.intCast_lt_intCast]
  exact this
theorem qu_gtr {x y : Nat} {m n : Int} (hx : Qu x m) (hy : Qu y n) : (FloatKind.f64.format.order x y == some .gt) = decide (n < m) := by
  have : (double.order x y == some .gt) = decide (n < m) := by rw [gtr hx hy]; simp only [qu_lt, Rat.intCast_lt_intCast]
  exact this
theorem qu_leq {x y : Nat} {m n : Int} (hx : Qu x m) (hy : Qu y n) : (FloatKind.f64.format.order x y == some .lt || FloatKind.f64.format.order x y == some .eq) = decide (m ≤ n) := by
  have : (double.order x y == some .lt || double.order x y == some .eq) = decide (m ≤ n) := by rw [leq hx hy]; simp only [qu_le, Rat.intCast_le_intCast]
  exact this
theorem qu_geq {x y : Nat} {m n : Int} (hx : Qu x m) (hy : Qu y n) : (FloatKind.f64.format.order x y == some .gt || FloatKind.f64.format.order x y == some .eq) = decide (n ≤ m) := by
  have : (double.order x y == some .gt || double.order x y == some .eq) = decide (n ≤ m) := by rw [geq hx hy]; simp only [qu_le, Rat.intCast_le_intCast]
  exact this

end Go.Proofs.Ytmaphdfhoddnmaa.Fl
