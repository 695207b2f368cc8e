/-
  The closure of FnBestFit: a Bool in any case, true where the two are close.
-/
import Derived.Test.YtmaphdfhoddnmaaBnd
import Derived.Test.YtmaphdfhoddnmaaFlClose
namespace Go.Proofs.Ytmaphdfhoddnmaa
open Go.RowKit Fl

theorem max_v {x y : Nat} {P Q : Rat} (hx : IsV x P) (hy : IsV y Q) : ∃ z m, IsV z m ∧ P ≤ m ∧ Q ≤ m ∧ (m = P ∨ m = Q) ∧ ∀ (ts : Array TypeId) (t : TypeId) (w : World), (Builtin.max_ ts t #[.float .f64 x, .float .f64 y]).run Try.prog w = .ok (.float .f64 z) w := by
  rcases tri P Q with h | h | h
  · have ho : FloatKind.f64.format.order x y = some .lt := order_lt hx hy h
    refine ⟨y, Q, hy, by grind, by grind, Or.inr rfl, fun ts t w => ?_⟩
    simp [Builtin.max_, Builtin.max2, ho]
  · have ho : FloatKind.f64.format.order x y = some .eq := order_eq hx hy h
    by_cases hs : (FloatKind.f64.decode x).neg = true
    · refine ⟨y, Q, hy, by grind, by grind, Or.inr rfl, fun ts t w => ?_⟩
      simp [Builtin.max_, Builtin.max2, ho, hs]
    · refine ⟨x, P, hx, by grind, by grind, Or.inl rfl, fun ts t w => ?_⟩
      simp [Builtin.max_, Builtin.max2, ho, hs]
  · have ho : FloatKind.f64.format.order x y = some .gt := order_gt hx hy h
    refine ⟨x, P, hx, by grind, by grind, Or.inl rfl, fun ts t w => ?_⟩
    simp [Builtin.max_, Builtin.max2, ho]

set_option maxHeartbeats 1000000 in
theorem closure (x y z : Nat) (q1 q2 : Bool) (H : Fl.Near x y z q1 q2) (hm : ∀ (ts : Array TypeId) (t : TypeId) (w : World), (Builtin.max_ ts t #[.float .f64 x, .float .f64 y]).run Try.prog w = .ok (.float .f64 z) w) (w : World) :
    Calls Try.prog 23 #[.float .f64 x, .float .f64 y] w fun e w' => e = .returned (.bool (q1 && q2)) ∧ w = w' := by
  obtain ⟨s, t, u, s', e1, e2, e3, e4, l1, l2⟩ := H
  have k1 := fun t w => run_float_arith (P := Try.prog) w .sub t .f64 _ _ _ e1
  have k2 := fun t w => run_float_arith (P := Try.prog) w .add t .f64 _ _ _ e2
  have k3 := fun t w => run_float_arith (P := Try.prog) w .mul t .f64 _ _ _ e3
  have k4 := fun t w => run_float_arith (P := Try.prog) w .sub t .f64 _ _ _ e4
  clear e1 e2 e3 e4
  cases q1 <;> cases q2 <;>
  (go_enter Try.func23, Try.ntmps23
   go_wp2
   go_ret
   exact ⟨rfl, rfl⟩)

/-- The closure at any two numbers of a middling size. -/
theorem close_any {x y : Nat} {P Q : Rat} (hx : IsV x P) (hy : IsV y Q) (p1 : P ≤ 1152921504606846976) (p2 : -1152921504606846976 ≤ P) (q1 : Q ≤ 1152921504606846976) (q2 : -1152921504606846976 ≤ Q) :
    ∃ r : Bool, ∀ w, Calls Try.prog 23 #[.float .f64 x, .float .f64 y] w fun e w' => e = .returned (.bool r) ∧ w = w' := by
  obtain ⟨z, m, hz, h1, h2, h3, hm⟩ := max_v hx hy
  obtain ⟨b, c, h⟩ := Fl.near_any hx hy hz p1 p2 q1 q2 (by grind) (by grind)
  exact ⟨_, fun w => closure x y z b c h hm w⟩
/-- Two numbers that are close. -/
theorem close_yes {x y : Nat} {P Q : Rat} (hx : IsV x P) (hy : IsV y Q) (p1 : P ≤ 1152921504606846976) (q1 : Q ≤ 1152921504606846976) (lo : -1 / 2 ≤ P)
    (h1 : P - Q ≤ (1 + P) * K) (h2 : Q - P ≤ (1 + P) * K) : ∀ w, Calls Try.prog 23 #[.float .f64 x, .float .f64 y] w fun e w' => e = .returned (.bool true) ∧ w = w' := by
  obtain ⟨z, m, hz, g1, g2, h3, hm⟩ := max_v hx hy
  have hK0 : 0 ≤ K := by decide +kernel
  have hmono : (1 + P) * K ≤ (1 + m) * K := Rat.mul_le_mul_of_nonneg_right (by grind) hK0
  have h := Fl.near_yes hx hy hz (by grind) (by grind) (by grind) (by grind)
  exact fun w => closure x y z true true h hm w
end Go.Proofs.Ytmaphdfhoddnmaa
