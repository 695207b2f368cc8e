/-
  Close to a millionth: what the closure of FnBestFit reckons. Plain laws.
-/
import Derived.Test.YtmaphdfhoddnmaaFlRel
namespace Go.Proofs.Ytmaphdfhoddnmaa.Fl
open Ieee

def million : Rat := 4722366482869645 / 4722366482869645213696
theorem v_million : IsV 4517329193108106637 million := ⟨false, 4722366482869645, -72, by decide +kernel, by decide +kernel⟩
theorem million_lo : 9 / 10000000 ≤ million := by decide +kernel
theorem million_hi : million ≤ 11 / 10000000 := by decide +kernel
/-- 2^-22. -/
def K : Rat := 1 / 4194304
abbrev big : Rat := 1267650600228229401496703205376

/-- What the closure reckons of two words, the greater of which is z. -/
structure Near (x y z : Nat) (q1 q2 : Bool) : Prop where
  ex : ∃ s t u s', floatBits .sub .f64 x y = some s ∧ floatBits .add .f64 4607182418800017408 z = some t ∧ floatBits .mul .f64 4517329193108106637 t = some u ∧ floatBits .sub .f64 y x = some s' ∧
    (FloatKind.f64.format.order s u == some .lt || FloatKind.f64.format.order s u == some .eq) = q1 ∧ (FloatKind.f64.format.order s' u == some .lt || FloatKind.f64.format.order s' u == some .eq) = q2

theorem near_any {x y z : Nat} {P Q m : Rat} (hx : IsV x P) (hy : IsV y Q) (hz : IsV z m) (p1 : P ≤ 1152921504606846976) (p2 : -1152921504606846976 ≤ P) (q1 : Q ≤ 1152921504606846976) (q2 : -1152921504606846976 ≤ Q)
    (m1 : m ≤ 1152921504606846976) (m2 : -1152921504606846976 ≤ m) : ∃ b c, Near x y z b c := by
  have hD : D ≤ 1 := by decide +kernel
  have hD0 := D_pos
  have ht : tiny ≤ 1 := by decide +kernel
  have hm := v_million
  have hmh : million ≤ 1 := by decide +kernel
  have hml : 0 ≤ million := by decide +kernel
  obtain ⟨s, v1, e1, _⟩ := sub_abs (A := 4611686018427387904) hx hy (by grind) (by grind) (by grind) (by decide +kernel)
  obtain ⟨t, v2, e2, f2, g2, h2⟩ := add_abs (A := 4611686018427387904) v_one hz (by grind) (by grind) (by grind) (by decide +kernel)
  have hv2 : v2 ≤ 18446744073709551616 := by grind
  have hv2' : -18446744073709551616 ≤ v2 := by grind
  have a1 : million * v2 ≤ 18446744073709551616 := by
    have k1 := Rat.mul_le_mul_of_nonneg_left hv2 hml
    grind
  have a2 : -(million * v2) ≤ 18446744073709551616 := by
    have k1 := Rat.mul_le_mul_of_nonneg_left hv2' hml
    grind
  obtain ⟨u, v3, e3, f3, _⟩ := mul_abs (A := 18446744073709551616) hm f2 a1 a2 (by grind) (by decide +kernel)
  obtain ⟨s', v4, e4, _⟩ := sub_abs (A := 4611686018427387904) hy hx (by grind) (by grind) (by grind) (by decide +kernel)
  exact ⟨_, _, ⟨s, t, u, s', e1, e2, e3, e4, rfl, rfl⟩⟩

theorem near_yes {x y z : Nat} {P Q m : Rat} (hx : IsV x P) (hy : IsV y Q) (hz : IsV z m) (h1 : P - Q ≤ (1 + m) * K) (h2 : Q - P ≤ (1 + m) * K) (m1 : m ≤ 1152921504606846976) (m2 : -1 / 2 ≤ m) : Near x y z true true := by
  have hD : D ≤ 1 / 1000 := by decide +kernel
  have hD0 := D_pos
  have hK : K ≤ 24 / 100000000 := by decide +kernel
  have hK0 : 1 / 100000000 ≤ K := by decide +kernel
  have ht : tiny ≤ 1 / 1000000000000 := by decide +kernel
  have hml := million_lo
  have hmh := million_hi
  have hm0 : 0 ≤ 1 + m := by grind
  have hA : (1 + m) * K ≤ (1 + m) * (24 / 100000000) := Rat.mul_le_mul_of_nonneg_left hK hm0
  have hAl : (1 + m) * (1 / 100000000) ≤ (1 + m) * K := Rat.mul_le_mul_of_nonneg_left hK0 hm0
  have hA0 : 0 ≤ (1 + m) * K := by grind
  have hAD : (1 + m) * K * D ≤ (1 + m) * K * (1 / 1000) := Rat.mul_le_mul_of_nonneg_left hD hA0
  obtain ⟨s, v1, e1, f1, g1, _⟩ := sub_abs (A := (1 + m) * K) hx hy h1 h2 (by grind) (by grind)
  obtain ⟨s', v4, e4, f4, g4, _⟩ := sub_abs (A := (1 + m) * K) hy hx h2 h1 (by grind) (by grind)
  obtain ⟨t, v2, e2, f2, g2, h2⟩ := add_rel (p := 1 + m) v_one hz rfl (by grind) (by grind)
  have hpD : (1 + m) * D ≤ (1 + m) * (1 / 1000) := Rat.mul_le_mul_of_nonneg_left hD hm0
  have hpD0 : 0 ≤ (1 + m) * D := Rat.mul_nonneg hm0 (Rat.le_of_lt hD0)
  have hv2 : (1 + m) * (999 / 1000) ≤ v2 := by grind
  have hv2' : v2 ≤ (1 + m) * (1001 / 1000) := by grind
  have hv20 : 0 ≤ v2 := by grind
  have a1 : 9 / 10000000 * v2 ≤ million * v2 := Rat.mul_le_mul_of_nonneg_right hml hv20
  have a2 : million * v2 ≤ 11 / 10000000 * v2 := Rat.mul_le_mul_of_nonneg_right hmh hv20
  obtain ⟨u, v3, e3, f3, g3, h3⟩ := mul_rel (p := million * v2) v_million f2 rfl (by grind) (by grind)
  have hp2 : 0 ≤ million * v2 := by grind
  have hpD2 : million * v2 * D ≤ million * v2 * (1 / 1000) := Rat.mul_le_mul_of_nonneg_left hD hp2
  refine ⟨s, t, u, s', e1, e2, e3, e4, ?_, ?_⟩
  · have := leq f1 f3
    rw [decide_eq_true (by grind)] at this
    exact this
  · have := leq f4 f3
    rw [decide_eq_true (by grind)] at this
    exact this
end Go.Proofs.Ytmaphdfhoddnmaa.Fl
