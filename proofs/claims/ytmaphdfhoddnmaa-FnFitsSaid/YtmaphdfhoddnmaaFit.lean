/-
  The walk of FnFits: it returns true for every input.
-/
import Derived.Test.YtmaphdfhoddnmaaWid
namespace Go.Proofs.Ytmaphdfhoddnmaa
open Go.RowKit Fl

set_option maxHeartbeats 4000000 in
theorem implFits (a b c d a' b' c' d' s t s' t' : Nat) (w : World)
    (h1 : floatBits .sub .f64 c a = some s) (h2 : floatBits .sub .f64 c' a' = some s') (h3 : floatBits .sub .f64 d b = some t) (h4 : floatBits .sub .f64 d' b' = some t')
    (q r : Bool) (l1 : (FloatKind.f64.format.order s s' == some .lt || FloatKind.f64.format.order s s' == some .eq) = q) (l2 : (FloatKind.f64.format.order t t' == some .lt || FloatKind.f64.format.order t t' == some .eq) = r) :
    Calls Try.prog 18 #[rv a b c d, rv a' b' c' d'] w fun e w' => e = .returned (.bool (q && r)) ∧ Below w.heap.size w w' := by
  have HF := Lib.hid fun g w hr => fits a b c d g a' b' c' d' s t s' t' w hr h1 h2 h3 h4 q r l1 l2
  clear h1 h2 h3 h4 l1 l2
  go_enter Try.func18, Try.ntmps18
  go_wp2_with fail
  go_region_with (first
    | (go_at_call 29; ((with_reducible refine (rectangle a b c d _).mono ?_); rintro e w1 ⟨rfl, rfl⟩))
    | (go_at_call 29; ((with_reducible refine (rectangle a' b' c' d' _).mono ?_); rintro e w1 ⟨rfl, rfl⟩))
    | (go_at_call 31; refine (HF.out _ _ ?_).mono ?_; exact ⟨by simp [go_sem], by simp [go_sem], by simp [go_sem], by simp [go_sem]⟩; rintro e w1 ⟨rfl, hb1⟩))
  all_goals
    go_wp2
    go_ret
    refine ⟨rfl, ?_⟩
    refine thenC ?_ hb1
    repeat' (first | exact Below.refl _ _ | refine Below.drew ?_ | refine Below.alloc ?_ ?_ _ | (simp; done) | (simp; omega))

theorem fits_one (w : World) : Calls Try.prog 18 #[rv 0 0 4607182418800017408 4607182418800017408, rv 0 0 4611686018427387904 4611686018427387904] w fun e w' => e = .returned (.bool true) ∧ Below w.heap.size w w' :=
  implFits 0 0 4607182418800017408 4607182418800017408 0 0 4611686018427387904 4611686018427387904 4607182418800017408 4607182418800017408 4611686018427387904 4611686018427387904 w
    (by decide +kernel) (by decide +kernel) (by decide +kernel) (by decide +kernel) true true (by decide +kernel) (by decide +kernel)

set_option maxHeartbeats 4000000 in
theorem fnFits_walk (a b c d a' b' c' d' : Nat) (w : World) :
    Calls Try.prog 7 #[rv a b c d, rv a' b' c' d'] w fun e w' => e = .returned (.bool true) ∧ Below w.heap.size w w' := by
  obtain ⟨r1, hr1, hcall1⟩ := plain_any a b c d
  obtain ⟨r2, hr2, hcall2⟩ := plain_any a' b' c' d'
  have HP1 := Lib.hid hcall1
  have HP2 := Lib.hid hcall2
  clear hcall1 hcall2
  obtain ⟨W, hW⟩ : ∃ W, (w.alloc (.cells #[.float .f64 a, .float .f64 b, .float .f64 c, .float .f64 d] 37)).alloc (.cells #[.float .f64 a', .float .f64 b', .float .f64 c', .float .f64 d'] 37) = W := ⟨_, rfl⟩
  have bel : Below w.heap.size w W := by rw [← hW]; exact ((Below.refl _ _).alloc (Nat.le_refl _) _).alloc (by simp) _
  obtain ⟨g0, g1, g2, g3⟩ : IsRect W w.heap.size a b c d := by rw [← hW]; exact ⟨by simp [go_sem], by simp [go_sem], by simp [go_sem], by simp [go_sem]⟩
  obtain ⟨k0, k1, k2, k3⟩ : IsRect W (w.heap.size + 1) a' b' c' d' := by rw [← hW]; exact ⟨by simp [go_sem], by simp [go_sem], by simp [go_sem], by simp [go_sem]⟩
  have HW := Lib.hid hW
  have HB := Lib.hid bel
  clear hW bel
  cases r1
  · clear hr1 hr2
    go_enter Try.func7, Try.ntmps7
    go_wp2_with fail
    rw [HW.out]
    go_wp2_with fail
    refine (HP1.out _).mono ?_
    rintro e w1 ⟨rfl, hb1⟩
    go_wp2
    go_ret
    exact ⟨rfl, thenC HB.out hb1⟩
  cases r2
  · clear hr1 hr2
    go_enter Try.func7, Try.ntmps7
    go_wp2_with fail
    rw [HW.out]
    go_wp2_with fail
    refine (HP1.out _).mono ?_
    rintro e w1 ⟨rfl, hb1⟩
    have m0 := keepC hb1 k0
    have m1 := keepC hb1 k1
    have m2 := keepC hb1 k2
    have m3 := keepC hb1 k3
    go_wp2_with fail
    refine (HP2.out _).mono ?_
    rintro e w2 ⟨rfl, hb2⟩
    go_wp2
    go_ret
    exact ⟨rfl, thenC (thenC HB.out hb1) hb2⟩
  obtain ⟨n0, n1, n2, n3, h0, h1, h2, h3, _, _⟩ := hr1 rfl
  obtain ⟨n0', n1', n2', n3', h0', h1', h2', h3', _, _⟩ := hr2 rfl
  obtain ⟨_, _, h0, _⟩ := h0
  obtain ⟨_, _, h1, _⟩ := h1
  obtain ⟨_, _, h2, _⟩ := h2
  obtain ⟨_, _, h3, _⟩ := h3
  obtain ⟨_, _, h0', _⟩ := h0'
  obtain ⟨_, _, h1', _⟩ := h1'
  obtain ⟨_, _, h2', _⟩ := h2'
  obtain ⟨_, _, h3', _⟩ := h3'
  obtain ⟨s, e1, hs⟩ := sub_qu (qu_of_half h2) (qu_of_half h0) (by omega)
  obtain ⟨t, e2, ht⟩ := sub_qu (qu_of_half h3) (qu_of_half h1) (by omega)
  obtain ⟨s', e3, hs'⟩ := sub_qu (qu_of_half h2') (qu_of_half h0') (by omega)
  obtain ⟨t', e4, ht'⟩ := sub_qu (qu_of_half h3') (qu_of_half h1') (by omega)
  have l1 := qu_leq hs hs'
  have l2 := qu_leq ht ht'
  have x1 := fun t w => run_float_arith (P := Try.prog) w .sub t .f64 _ _ _ e1
  have x2 := fun t w => run_float_arith (P := Try.prog) w .sub t .f64 _ _ _ e2
  have x3 := fun t w => run_float_arith (P := Try.prog) w .sub t .f64 _ _ _ e3
  have x4 := fun t w => run_float_arith (P := Try.prog) w .sub t .f64 _ _ _ e4
  clear h0 h1 h2 h3 h0' h1' h2' h3' hs ht hs' ht' hr1 hr2
  generalize decide (2 * n2 - 2 * n0 ≤ 2 * n2' - 2 * n0') = q at l1
  generalize decide (2 * n3 - 2 * n1 ≤ 2 * n3' - 2 * n1') = r at l2
  have HF := Lib.hid fun w => implFits a b c d a' b' c' d' s t s' t' w e1 e3 e2 e4 q r l1 l2
  clear e1 e2 e3 e4
  cases q <;> cases r <;>
  (go_enter Try.func7, Try.ntmps7
   go_wp2_with fail
   rw [HW.out]
   go_wp2_with fail
   refine (HP1.out _).mono ?_
   rintro e w1 ⟨rfl, hb1⟩
   have m0 := keepC hb1 k0
   have m1 := keepC hb1 k1
   have m2 := keepC hb1 k2
   have m3 := keepC hb1 k3
   have i0 := keepC hb1 g0
   have i1 := keepC hb1 g1
   have i2 := keepC hb1 g2
   have i3 := keepC hb1 g3
   go_wp2_with fail
   refine (HP2.out _).mono ?_
   rintro e w2 ⟨rfl, hb2⟩
   have HB2 := Lib.hid (thenC (thenC HB.out hb1) hb2)
   have o0 := cell_regrown (keepC hb2 m0)
   have o1 := cell_regrown (keepC hb2 m1)
   have o2 := cell_regrown (keepC hb2 m2)
   have o3 := cell_regrown (keepC hb2 m3)
   have p0 := cell_regrown (keepC hb2 i0)
   have p1 := cell_regrown (keepC hb2 i1)
   have p2 := cell_regrown (keepC hb2 i2)
   have p3 := cell_regrown (keepC hb2 i3)
   clear hb1 hb2 m0 m1 m2 m3 i0 i1 i2 i3
   go_wp2_with fail
   have C1 := Lib.hid fun d' os => Calls.regrown_of (w := w2) (d := d') (os := os) (HF.out _)
   have C2 := Lib.hid fun d' os => Calls.regrown_of (w := w2) (d := d') (os := os) (fits_one _)
   refine wp_region_quiet_below (by kernel_rfl) (by kernel_rfl) ?_
   repeat (go_big_quiet_step ((first | (with_reducible exact C1.out _ _) | (with_reducible exact C2.out _ _))))
   refine wpQuiet_nil ?_
   intro _ hw'
   obtain ⟨⟨dq, osq⟩, hw''⟩ := hw'
   subst hw''
   go_wp2
   go_ret
   exact ⟨rfl, thenC HB2.out (below_regrown _ dq osq)⟩)
end Go.Proofs.Ytmaphdfhoddnmaa
