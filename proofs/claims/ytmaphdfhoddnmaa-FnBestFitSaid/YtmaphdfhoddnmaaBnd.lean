/-
  Contracts under FnBounds.
-/
import Derived.Test.YtmaphdfhoddnmaaEnc
import Derived.Test.YtmaphdfhoddnmaaCrop
namespace Go.Proofs.Ytmaphdfhoddnmaa
open Go.RowKit Fl

theorem min_qu {x y : Nat} {m n : Int} (hx : Qu x m) (hy : Qu y n) : ∃ r, Qu r (min m n) ∧ ∀ (ts : Array TypeId) (t : TypeId) (w : World), (Builtin.min_ ts t #[.float .f64 x, .float .f64 y]).run Try.prog w = .ok (.float .f64 r) w := by
  rcases Int.lt_trichotomy m n with h | h | h
  · have ho : FloatKind.f64.format.order x y = some .lt := order_lt hx hy (by rw [qu_lt]; exact Rat.intCast_lt_intCast.2 h)
    refine ⟨x, by rw [Int.min_eq_left (by omega)]; exact hx, fun ts t w => ?_⟩
    simp [Builtin.min_, Builtin.min2, ho]
  · have ho : FloatKind.f64.format.order x y = some .eq := order_eq hx hy (by rw [h])
    by_cases hs : (FloatKind.f64.decode x).neg = true
    · refine ⟨x, by rw [Int.min_eq_left (by omega)]; exact hx, fun ts t w => ?_⟩
      simp [Builtin.min_, Builtin.min2, ho, hs]
    · refine ⟨y, by rw [Int.min_eq_right (by omega)]; exact hy, fun ts t w => ?_⟩
      simp [Builtin.min_, Builtin.min2, ho, hs]
  · have ho : FloatKind.f64.format.order x y = some .gt := order_gt hx hy (by rw [qu_lt]; exact Rat.intCast_lt_intCast.2 h)
    refine ⟨y, by rw [Int.min_eq_right (by omega)]; exact hy, fun ts t w => ?_⟩
    simp [Builtin.min_, Builtin.min2, ho]

theorem max_qu {x y : Nat} {m n : Int} (hx : Qu x m) (hy : Qu y n) : ∃ r, Qu r (max m n) ∧ ∀ (ts : Array TypeId) (t : TypeId) (w : World), (Builtin.max_ ts t #[.float .f64 x, .float .f64 y]).run Try.prog w = .ok (.float .f64 r) w := by
  rcases Int.lt_trichotomy m n with h | h | h
  · have ho : FloatKind.f64.format.order x y = some .lt := order_lt hx hy (by rw [qu_lt]; exact Rat.intCast_lt_intCast.2 h)
    refine ⟨y, by rw [Int.max_eq_right (by omega)]; exact hy, fun ts t w => ?_⟩
    simp [Builtin.max_, Builtin.max2, ho]
  · have ho : FloatKind.f64.format.order x y = some .eq := order_eq hx hy (by rw [h])
    by_cases hs : (FloatKind.f64.decode x).neg = true
    · refine ⟨y, by rw [Int.max_eq_right (by omega)]; exact hy, fun ts t w => ?_⟩
      simp [Builtin.max_, Builtin.max2, ho, hs]
    · refine ⟨x, by rw [Int.max_eq_left (by omega)]; exact hx, fun ts t w => ?_⟩
      simp [Builtin.max_, Builtin.max2, ho, hs]
  · have ho : FloatKind.f64.format.order x y = some .gt := order_gt hx hy (by rw [qu_lt]; exact Rat.intCast_lt_intCast.2 h)
    refine ⟨x, by rw [Int.max_eq_left (by omega)]; exact hx, fun ts t w => ?_⟩
    simp [Builtin.max_, Builtin.max2, ho]

def pick (q : Bool) (x y : Nat) : Nat := if q then x else y

set_option maxHeartbeats 4000000 in
theorem withPoint (g a b c d x y : Nat) (q1 q2 q3 q4 : Bool) (w : World) (hr : IsRect w g a b c d)
    (h1 : (FloatKind.f64.format.order x a == some .lt) = q1) (h2 : (FloatKind.f64.format.order x c == some .gt) = q2) (h3 : (FloatKind.f64.format.order y b == some .lt) = q3) (h4 : (FloatKind.f64.format.order y d == some .gt) = q4) :
    Calls Try.prog 40 #[.pointer (some ⟨g, 0, none⟩), .agg #[.float .f64 x, .float .f64 y]] w (EncPost (pick q1 x a) (pick q3 y b) (pick (!q1 && q2) x c) (pick (!q3 && q4) y d) w) := by
  obtain ⟨r0, r1, r2, r3⟩ := hr
  have hg : g < w.heap.size := World.block_lt_of_cell? w _ r0
  cases q1 <;> cases q2 <;> cases q3 <;> cases q4 <;>
  (go_enter Try.func40, Try.ntmps40
   go_wp2_with fail
   go_quiet (fail)
   go_wp2_with fail
   go_quiet (fail)
   go_wp2_with fail
   try (go_quiet (fail); go_wp2_with fail)
   try (go_quiet (fail); go_wp2_with fail)
   try (go_quiet (fail); go_wp2_with fail)
   refine (newRectangle _ _ _ _ _).mono ?_
   rintro e w' ⟨rfl, rfl⟩
   go_wp2
   go_ret
   refine ⟨_, rfl, isRect_at _ _ _ _ _ _ _ (by simp), ?_⟩
   repeat' (first | exact Below.refl _ _ | refine Below.drew ?_ | refine below_drewN ?_ _ | refine Below.alloc ?_ ?_ _ | (simp; done) | (simp; omega)))
end Go.Proofs.Ytmaphdfhoddnmaa
