/-
  FnBestFit, the plain law: the five numbers pass the law's checks.
-/
import Derived.Test.YtmaphdfhoddnmaaClo
import Derived.Test.YtmaphdfhoddnmaaIbf
namespace Go.Proofs.Ytmaphdfhoddnmaa
open Go.RowKit Fl
set_option linter.unusedVariables false

/-- The closure's answer. -/
def Cl (x y : Nat) (r : Bool) : Prop := ∀ w, Calls Try.prog 23 #[.float .f64 x, .float .f64 y] w fun e w' => e = .returned (.bool r) ∧ w = w'

/-- What the law reckons of the five numbers, and what comes out. -/
structure Fine5 (ws hs wd hd p q r s : Nat) (own : Bool) : Prop where
  shape : ∃ m1 m2, floatBits .mul .f64 p hs = some m1 ∧ floatBits .mul .f64 q ws = some m2 ∧ Cl m1 m2 true
  wide : ∃ n1 n2, floatBits .mul .f64 4517329193108106637 wd = some n1 ∧ floatBits .add .f64 wd n1 = some n2 ∧ (FloatKind.f64.format.order p n2 == some .gt) = false
  high : ∃ n1 n2, floatBits .mul .f64 4517329193108106637 hd = some n1 ∧ floatBits .add .f64 hd n1 = some n2 ∧ (FloatKind.f64.format.order q n2 == some .gt) = false
  midx : ∃ u1 u2, floatBits .sub .f64 wd p = some u1 ∧ floatBits .quo .f64 u1 4611686018427387904 = some u2 ∧ Cl r u2 true
  midy : ∃ u1 u2, floatBits .sub .f64 hd q = some u1 ∧ floatBits .quo .f64 u1 4611686018427387904 = some u2 ∧ Cl s u2 true
  last : if own then Cl p ws true ∧ Cl q hs true else ∃ b1 b2, Cl p wd b1 ∧ Cl q hd b2 ∧ (b1 || b2) = true

abbrev top : Rat := 4194304
/-- 2^-24. -/
abbrev eps : Rat := 1 / 16777216

theorem not_wider {p wd : Nat} {P DW : Rat} (hp : IsV p P) (hw : IsV wd DW) (h1 : 1 ≤ DW) (h2 : DW ≤ top) (hP : P ≤ DW + DW * (1 / 10000000)) :
    ∃ n1 n2, floatBits .mul .f64 4517329193108106637 wd = some n1 ∧ floatBits .add .f64 wd n1 = some n2 ∧ (FloatKind.f64.format.order p n2 == some .gt) = false := by
  have hD : D ≤ 1 / 100000000 := by decide +kernel
  have hD0 := D_pos
  have ht : tiny ≤ 1 / 1000000000000 := by decide +kernel
  have hml := million_lo
  have hmh := million_hi
  have h0 : 0 ≤ DW := by grind
  have a1 : 9 / 10000000 * DW ≤ million * DW := Rat.mul_le_mul_of_nonneg_right hml h0
  have a2 : million * DW ≤ 11 / 10000000 * DW := Rat.mul_le_mul_of_nonneg_right hmh h0
  obtain ⟨n1, v1, e1, f1, g1, g2⟩ := mul_rel (p := million * DW) v_million hw rfl (by grind) (by grind)
  have b1 : million * DW * D ≤ million * DW * (1 / 100000000) := Rat.mul_le_mul_of_nonneg_left hD (by grind)
  obtain ⟨n2, v2, e2, f2, g3, g4⟩ := add_rel (p := DW + v1) hw f1 rfl (by grind) (by grind)
  have b2 : (DW + v1) * D ≤ (DW + v1) * (1 / 100000000) := Rat.mul_le_mul_of_nonneg_left hD (by grind)
  refine ⟨n1, n2, e1, e2, ?_⟩
  have := gtr hp f2
  rw [decide_eq_false (by grind)] at this
  exact this

theorem middle {r p wd : Nat} {R P DW : Rat} (hr : IsV r R) (hp : IsV p P) (hw : IsV wd DW) (h1 : 1 ≤ DW) (h2 : DW ≤ top) (p1 : 0 ≤ P) (p2 : P ≤ DW + DW * (1 / 1000000000000)) (r1 : R - (DW - P) / 2 ≤ eps) (r2 : (DW - P) / 2 - R ≤ eps) :
    ∃ u1 u2, floatBits .sub .f64 wd p = some u1 ∧ floatBits .quo .f64 u1 4611686018427387904 = some u2 ∧ Cl r u2 true := by
  have hD : 16777216 * D ≤ 1 / 67108864 := by decide +kernel
  have ht : tiny ≤ 1 / 1000000000000 := by decide +kernel
  have hK : 1 / 4194304 ≤ K := by decide +kernel
  obtain ⟨u1, v1, e1, f1, g1, g2⟩ := sub_abs (A := 16777216) hw hp (by grind) (by grind) (by grind) (by decide +kernel)
  obtain ⟨u2, v2, e2, f2, g3, g4⟩ := two_abs (A := 16777216) f1 v_two (by grind) (by grind) (by grind) (by decide +kernel)
  have hR : -1 / 100 ≤ R := by grind
  have hk : (1 + R) * (1 / 4194304) ≤ (1 + R) * K := Rat.mul_le_mul_of_nonneg_left hK (by grind)
  exact ⟨u1, u2, e1, e2, close_yes hr f2 (by grind) (by grind) (by grind) (by grind) (by grind)⟩

theorem keeps_shape {p q ws hs : Nat} {P Q W H : Rat} (hp : IsV p P) (hq : IsV q Q) (hw : IsV ws W) (hh : IsV hs H) (w1 : 1 ≤ W) (w2 : W ≤ top) (h1 : 1 ≤ H) (h2 : H ≤ top)
    (p1 : 1 / 4294967296 ≤ P) (p2 : P ≤ 8388608) (q1 : 1 / 4294967296 ≤ Q) (q2 : Q ≤ 8388608) (s1 : P * H - Q * W ≤ P * H * (4 * D)) (s2 : Q * W - P * H ≤ P * H * (4 * D)) :
    ∃ m1 m2, floatBits .mul .f64 p hs = some m1 ∧ floatBits .mul .f64 q ws = some m2 ∧ Cl m1 m2 true := by
  have hD : D ≤ 1 / 10000000000 := by decide +kernel
  have hD0 := D_pos
  have ht : tiny ≤ 1 / 1000000000000 := by decide +kernel
  have hK : 1 / 4194304 ≤ K := by decide +kernel
  have a1 : 1 / 4294967296 * 1 ≤ P * H := by
    have := Rat.mul_le_mul_of_nonneg_right p1 (show 0 ≤ H by grind)
    have k2 : 1 / 4294967296 * 1 ≤ 1 / 4294967296 * H := Rat.mul_le_mul_of_nonneg_left h1 (by decide +kernel)
    grind
  have a2 : P * H ≤ 8388608 * 4194304 := by
    have := Rat.mul_le_mul_of_nonneg_right p2 (show 0 ≤ H by grind)
    grind
  have a3 : 1 / 4294967296 * 1 ≤ Q * W := by
    have := Rat.mul_le_mul_of_nonneg_right q1 (show 0 ≤ W by grind)
    have k2 : 1 / 4294967296 * 1 ≤ 1 / 4294967296 * W := Rat.mul_le_mul_of_nonneg_left w1 (by decide +kernel)
    grind
  have a4 : Q * W ≤ 8388608 * 4194304 := by
    have := Rat.mul_le_mul_of_nonneg_right q2 (show 0 ≤ W by grind)
    grind
  obtain ⟨m1, v1, e1, f1, g1, g2⟩ := mul_rel (p := P * H) hp hh rfl (by grind) (by grind)
  obtain ⟨m2, v2, e2, f2, g3, g4⟩ := mul_rel (p := Q * W) hq hw rfl (by grind) (by grind)
  have b1 : P * H * D ≤ P * H * (1 / 10000000000) := Rat.mul_le_mul_of_nonneg_left hD (by grind)
  have b2 : Q * W * D ≤ Q * W * (1 / 10000000000) := Rat.mul_le_mul_of_nonneg_left hD (by grind)
  have hk : (1 + v1) * (1 / 4194304) ≤ (1 + v1) * K := Rat.mul_le_mul_of_nonneg_left hK (by grind)
  exact ⟨m1, m2, e1, e2, close_yes f1 f2 (by grind) (by grind) (by grind) (by grind) (by grind)⟩

/-- The ratio of two lengths that are halves. -/
theorem ratio {x y : Nat} {n m : Int} (hx : IsV x ((n : Rat) / 2)) (hy : IsV y ((m : Rat) / 2)) (n1 : 2 ≤ n) (n2 : n ≤ 8388608) (m1 : 2 ≤ m) (m2 : m ≤ 8388608) :
    ∃ r v t, floatBits .quo .f64 x y = some r ∧ IsV r v ∧ t * ((m : Rat) / 2) = (n : Rat) / 2 ∧ 1 / 8388608 ≤ t ∧ t ≤ 8388608 ∧ v ≤ t + t * D ∧ t ≤ v + t * D ∧ (m < n → 1 < v) ∧ (n < m → v < 1) ∧ (n = m → v = 1) := by
  have hD : D ≤ 1 / 1000000000000000 := by decide +kernel
  have hD0 := D_pos
  have ht : tiny ≤ 1 / 1000000000000 := by decide +kernel
  have N1 : (2 : Rat) ≤ (n : Rat) := by have := Rat.intCast_le_intCast.2 n1; simpa using this
  have N2 : (n : Rat) ≤ 8388608 := by have := Rat.intCast_le_intCast.2 n2; simpa using this
  have M1 : (2 : Rat) ≤ (m : Rat) := by have := Rat.intCast_le_intCast.2 m1; simpa using this
  have M2 : (m : Rat) ≤ 8388608 := by have := Rat.intCast_le_intCast.2 m2; simpa using this
  have M0 : (0 : Rat) < (m : Rat) := by grind
  obtain ⟨T, hT⟩ : ∃ T : Rat, T * (m : Rat) = (n : Rat) := ⟨(n : Rat) / (m : Rat), Rat.div_mul_cancel (by grind)⟩
  have t1 : 1 / 8388608 ≤ T := by
    apply Rat.le_of_mul_le_mul_right _ M0
    rw [hT]; grind
  have t2 : T ≤ 8388608 := by
    apply Rat.le_of_mul_le_mul_right _ M0
    rw [hT]; grind
  have hq : T * ((m : Rat) / 2) = (n : Rat) / 2 := by grind
  obtain ⟨r, v, e1, f1, g1, g2⟩ := div_rel (q := T) hx hy (by grind) hq (by grind) (by grind)
  have b1 : T * D ≤ T * (1 / 1000000000000000) := Rat.mul_le_mul_of_nonneg_left hD (by grind)
  refine ⟨r, v, T, e1, f1, hq, t1, t2, g1, g2, fun h => ?_, fun h => ?_, fun h => ?_⟩
  · have hn : (m : Rat) + 1 ≤ (n : Rat) := by
      have := Rat.intCast_le_intCast.2 (show m + 1 ≤ n by omega)
      simpa [Rat.intCast_add] using this
    have : 1 + 1 / 8388608 ≤ T := by
      apply Rat.le_of_mul_le_mul_right _ M0
      rw [hT]; grind
    grind
  · have hn : (n : Rat) + 1 ≤ (m : Rat) := by
      have := Rat.intCast_le_intCast.2 (show n + 1 ≤ m by omega)
      simpa [Rat.intCast_add] using this
    have : T ≤ 1 - 1 / 8388608 := by
      apply Rat.le_of_mul_le_mul_right _ M0
      rw [hT]; grind
    grind
  · subst h
    obtain ⟨r', e1', f1'⟩ := div_one hx hy (by grind) rfl
    have e1 : Ieee.double.div x y = some r := e1
    rw [e1'] at e1
    obtain rfl := Option.some.inj e1
    have k1 := order_eq f1' f1'  rfl
    rcases tri v 1 with h | h | h
    · have := order_lt f1 f1' h; rw [k1] at this; cases this
    · exact h
    · have := order_gt f1 f1' h; rw [k1] at this; cases this
end Go.Proofs.Ytmaphdfhoddnmaa
