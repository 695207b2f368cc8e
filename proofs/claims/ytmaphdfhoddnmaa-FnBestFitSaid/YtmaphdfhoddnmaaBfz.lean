/-
  The walk of FnBestFit: it returns true for every input.
-/
import Derived.Test.YtmaphdfhoddnmaaBfw
import Derived.Test.YtmaphdfhoddnmaaBfm
namespace Go.Proofs.Ytmaphdfhoddnmaa
open Go.RowKit Fl

theorem lt_h {x y : Nat} {n m : Int} (hx : IsV x ((n : Rat) / 2)) (hy : IsV y ((m : Rat) / 2)) : (FloatKind.f64.format.order x y == some .lt) = decide (n < m) := by
  have h : (Ieee.double.order x y == some .lt) = decide (n < m) := by
    rw [lss hx hy]
    exact decide_eq_decide.2 (half_lt_iff n m)
  exact h
theorem gt_h {x y : Nat} {n m : Int} (hx : IsV x ((n : Rat) / 2)) (hy : IsV y ((m : Rat) / 2)) : (FloatKind.f64.format.order x y == some .gt) = decide (m < n) := by
  have h : (Ieee.double.order x y == some .gt) = decide (m < n) := by
    rw [gtr hx hy]
    exact decide_eq_decide.2 (half_lt_iff m n)
  exact h
theorem v_one2 : IsV 4607182418800017408 (((2 : Int) : Rat) / 2) := by
  have h : (((2 : Int) : Rat) / 2) = 1 := by decide +kernel
  rw [h]; exact v_one
theorem sub_h {x y : Nat} {n m : Int} (hx : Half x n) (hy : Half y m) : ∃ r, floatBits .sub .f64 x y = some r ∧ IsV r (((n - m : Int) : Rat) / 2) := by
  obtain ⟨hx1, hx2, hx, _⟩ := hx
  obtain ⟨hy1, hy2, hy, _⟩ := hy
  obtain ⟨s, e, hs⟩ := sub_qu (qu_of_half hx) (qu_of_half hy) (by omega)
  refine ⟨s, e, ?_⟩
  have he : (((2 * n - 2 * m : Int) : Rat) / 4) = (((n - m : Int) : Rat) / 2) := by
    have : ((2 * n - 2 * m : Int) : Rat) = 2 * (((n - m : Int) : Rat)) := by
      rw [show 2 * n - 2 * m = 2 * (n - m) by omega, Rat.intCast_mul]; rfl
    rw [this]; grind
  unfold Qu at hs
  rw [he] at hs
  exact hs

theorem fnBestFit_walk (a b c d a' b' c' d' : Nat) (up : Bool) (w : World) :
    Calls Try.prog 10 #[rv a b c d, rv a' b' c' d', .bool up] w fun e w' => e = .returned (.bool true) ∧ Below w.heap.size w w' := by
  obtain ⟨r1, hr1, hcall1⟩ := plain_any a b c d
  obtain ⟨r2, hr2, hcall2⟩ := plain_any a' b' c' d'
  have HP1 := Lib.hid hcall1
  have HP2 := Lib.hid hcall2
  cases r1
  · exact bestFit_far a b c d a' b' c' d' up w HP1
  cases r2
  · exact bestFit_far2 a b c d a' b' c' d' up w HP1 HP2
  obtain ⟨n0, n1, n2, n3, h0, h1, h2, h3, i1, i2⟩ := hr1 rfl
  obtain ⟨n0', n1', n2', n3', h0', h1', h2', h3', i3, i4⟩ := hr2 rfl
  obtain ⟨ws, e1, v1⟩ := sub_h h2 h0
  obtain ⟨hs, e2, v2⟩ := sub_h h3 h1
  obtain ⟨wd, e3, v3⟩ := sub_h h2' h0'
  obtain ⟨hd, e4, v4⟩ := sub_h h3' h1'
  have bn : n2 - n0 ≤ 8388608 := by have := h2.1; have := h2.2.1; have := h0.1; have := h0.2.1; omega
  have bm : n3 - n1 ≤ 8388608 := by have := h3.1; have := h3.2.1; have := h1.1; have := h1.2.1; omega
  have bn' : n2' - n0' ≤ 8388608 := by have := h2'.1; have := h2'.2.1; have := h0'.1; have := h0'.2.1; omega
  have bm' : n3' - n1' ≤ 8388608 := by have := h3'.1; have := h3'.2.1; have := h1'.1; have := h1'.2.1; omega
  generalize n2 - n0 = n at v1 bn
  generalize n3 - n1 = m at v2 bm
  generalize n2' - n0' = n' at v3 bn'
  generalize n3' - n1' = m' at v4 bm'
  clear hr1 hr2 h0 h1 h2 h3 h0' h1' h2' h3' i1 i2 i3 i4
  have l0 := lt_h v1 v_one2
  have l1 := lt_h v2 v_one2
  have l2 := lt_h v3 v_one2
  have l3 := lt_h v4 v_one2
  have l4 := gt_h v1 v2
  have l5 := gt_h v3 v4
  have l6 := lt_h v1 v2
  have l7 := lt_h v3 v4
  have l8 := leq_half v1 v3
  have l9 := leq_half v2 v4
  by_cases g0 : n < 2
  · rw [decide_eq_true g0] at l0
    exact best_out1 a b c d a' b' c' d' ws hs wd hd up e1 e2 e3 e4 w HP1 HP2 l0
  rw [decide_eq_false g0] at l0
  by_cases g1 : m < 2
  · rw [decide_eq_true g1] at l1
    exact best_out2 a b c d a' b' c' d' ws hs wd hd up e1 e2 e3 e4 w HP1 HP2 l0 l1
  rw [decide_eq_false g1] at l1
  by_cases g2 : n' < 2
  · rw [decide_eq_true g2] at l2
    exact best_out3 a b c d a' b' c' d' ws hs wd hd up e1 e2 e3 e4 w HP1 HP2 l0 l1 l2
  rw [decide_eq_false g2] at l2
  by_cases g3 : m' < 2
  · rw [decide_eq_true g3] at l3
    exact best_out4 a b c d a' b' c' d' ws hs wd hd up e1 e2 e3 e4 w HP1 HP2 l0 l1 l2 l3
  rw [decide_eq_false g3] at l3
  have S : Sides a b c d a' b' c' d' ws hs wd hd n m n' m' := ⟨e1, e2, e3, e4, v1, v2, v3, v4, by omega, bn, by omega, bm, by omega, bn', by omega, bm'⟩
  by_cases g4 : m < n
  · rw [decide_eq_true g4] at l4
    rw [decide_eq_false (by omega)] at l6
    by_cases g5 : m' < n'
    · rw [decide_eq_true g5] at l5
      rw [decide_eq_false (by omega)] at l7
      obtain ⟨p, q, r, s, HG, HF⟩ := outcome S (by omega) (by omega) up
      exact best_in_tf a b c d a' b' c' d' ws hs wd hd up e1 e2 e3 e4 w HP1 HP2 l0 l1 l2 l3 l4 l5 l6 l7 p q r s HG _ _ l8 l9 HF
    · rw [decide_eq_false g5] at l5
      exact best_out5t a b c d a' b' c' d' ws hs wd hd up e1 e2 e3 e4 w HP1 HP2 l0 l1 l2 l3 l4 l5
  · rw [decide_eq_false g4] at l4
    by_cases g5 : m' < n'
    · rw [decide_eq_true g5] at l5
      exact best_out5f a b c d a' b' c' d' ws hs wd hd up e1 e2 e3 e4 w HP1 HP2 l0 l1 l2 l3 l4 l5
    · rw [decide_eq_false g5] at l5
      by_cases g6 : n < m
      · rw [decide_eq_true g6] at l6
        by_cases g7 : n' < m'
        · rw [decide_eq_true g7] at l7
          obtain ⟨p, q, r, s, HG, HF⟩ := outcome S (by omega) (by omega) up
          exact best_in_ft a b c d a' b' c' d' ws hs wd hd up e1 e2 e3 e4 w HP1 HP2 l0 l1 l2 l3 l4 l5 l6 l7 p q r s HG _ _ l8 l9 HF
        · rw [decide_eq_false g7] at l7
          exact best_out6ft a b c d a' b' c' d' ws hs wd hd up e1 e2 e3 e4 w HP1 HP2 l0 l1 l2 l3 l4 l5 l6 l7
      · rw [decide_eq_false g6] at l6
        by_cases g7 : n' < m'
        · rw [decide_eq_true g7] at l7
          exact best_out6ff a b c d a' b' c' d' ws hs wd hd up e1 e2 e3 e4 w HP1 HP2 l0 l1 l2 l3 l4 l5 l6 l7
        · rw [decide_eq_false g7] at l7
          obtain ⟨p, q, r, s, HG, HF⟩ := outcome S (by omega) (by omega) up
          exact best_in_ff a b c d a' b' c' d' ws hs wd hd up e1 e2 e3 e4 w HP1 HP2 l0 l1 l2 l3 l4 l5 l6 l7 p q r s HG _ _ l8 l9 HF
end Go.Proofs.Ytmaphdfhoddnmaa
