/-
  Contracts under FnEnclosing.
-/
import Derived.Test.YtmaphdfhoddnmaaWid
import Derived.Test.YtmaphdfhoddnmaaFlSmall
namespace Go.Proofs.Ytmaphdfhoddnmaa
open Go.RowKit Fl

set_option maxHeartbeats 1000000 in
theorem small_any (b : Nat) : ∃ r : Bool, (r = true → ∃ n, Ei b n ∧ -8388608 ≤ n ∧ n ≤ 8388608) ∧ ∀ w, Calls Try.prog 19 #[.float .f64 b] w fun e w' => e = .returned (.bool r) ∧ w = w' := by
  cases small_cases b with
  | low h1 =>
    refine ⟨false, (fun h => nomatch h), fun w => ?_⟩
    have k1 : (FloatKind.f64.format.order b 13920626448202203136 == some .gt || FloatKind.f64.format.order b 13920626448202203136 == some .eq) = false := h1
    clear h1
    go_enter Try.func19, Try.ntmps19
    go_wp2
    go_ret
    exact ⟨rfl, rfl⟩
  | high h1 h2 =>
    refine ⟨false, (fun h => nomatch h), fun w => ?_⟩
    have k1 : (FloatKind.f64.format.order b 13920626448202203136 == some .gt || FloatKind.f64.format.order b 13920626448202203136 == some .eq) = true := h1
    have k2 : (FloatKind.f64.format.order b 4697254411347427328 == some .lt || FloatKind.f64.format.order b 4697254411347427328 == some .eq) = false := h2
    clear h1 h2
    go_enter Try.func19, Try.ntmps19
    go_wp2
    go_ret
    exact ⟨rfl, rfl⟩
  | in_ r z q h1 h2 h3 h4 h5 hq =>
    refine ⟨q, (fun h => ⟨z, hq h⟩), fun w => ?_⟩
    clear hq
    have k1 : (FloatKind.f64.format.order b 13920626448202203136 == some .gt || FloatKind.f64.format.order b 13920626448202203136 == some .eq) = true := h1
    have k2 : (FloatKind.f64.format.order b 4697254411347427328 == some .lt || FloatKind.f64.format.order b 4697254411347427328 == some .eq) = true := h2
    have k3 := fun t w => run_float_arith (P := Try.prog) w .mul t .f64 _ _ _ h3
    have k4 := fun w => run_convert_float_int (P := Try.prog) w 23 3 .f64 .i64 r z (by rw [Try.underlying23]; rfl) Try.underlying3 h4
    have k5 : (FloatKind.f64.format.order r (floatOfInt .f64 z) == some .eq) = q := h5
    clear h1 h2 h3 h4 h5
    cases q <;>
    (go_enter Try.func19, Try.ntmps19
     go_wp2
     go_ret
     exact ⟨rfl, rfl⟩)

theorem isRect_at (w : World) (g a b c d : Nat) (t : TypeId) (h : g = w.heap.size) : IsRect (w.alloc (rcells a b c d t)) g a b c d := by
  subst h; exact isRect_new w a b c d t

/-- Eight numbers in block h. -/
def IsQuad (w : World) (h a0 a1 a2 a3 a4 a5 a6 a7 : Nat) : Prop :=
  w.cell? ⟨h, 0, none⟩ = some (.float .f64 a0) ∧ w.cell? ⟨h, 1, none⟩ = some (.float .f64 a1) ∧ w.cell? ⟨h, 2, none⟩ = some (.float .f64 a2) ∧ w.cell? ⟨h, 3, none⟩ = some (.float .f64 a3) ∧
  w.cell? ⟨h, 4, none⟩ = some (.float .f64 a4) ∧ w.cell? ⟨h, 5, none⟩ = some (.float .f64 a5) ∧ w.cell? ⟨h, 6, none⟩ = some (.float .f64 a6) ∧ w.cell? ⟨h, 7, none⟩ = some (.float .f64 a7)

def QuadPost (a b c d : Nat) (w : World) (e : Ending) (w' : World) : Prop :=
  ∃ h, e = .returned (.pointer (some ⟨h, 0, none⟩)) ∧ IsQuad w' h a d c d a b c b ∧ Below w.heap.size w w'

set_option maxHeartbeats 4000000 in
theorem quadFor (g a b c d : Nat) (w : World) (hr : IsRect w g a b c d) : Calls Try.prog 32 #[.pointer (some ⟨g, 0, none⟩)] w (QuadPost a b c d w) := by
  obtain ⟨r0, r1, r2, r3⟩ := hr
  have hg : g < w.heap.size := World.block_lt_of_cell? w _ r0
  have hg1 : g < w.heap.size + 1 := by omega
  have hg2 : g < w.heap.size + 1 + 1 := by omega
  have hg3 : g < w.heap.size + 1 + 1 + 1 := by omega
  go_enter Try.func32, Try.ntmps32
  go_wp2_with fail
  go_region
  go_wp2
  go_region
  go_wp2
  go_region
  go_wp2
  go_region
  go_wp2
  go_ret
  refine ⟨w.heap.size + 1 + 1 + 1 + 1, rfl, ⟨?_, ?_, ?_, ?_, ?_, ?_, ?_, ?_⟩, ?_⟩
  all_goals first | (simp [go_sem]; done) | skip
  repeat' (first | exact Below.refl _ _ | refine Below.drew ?_ | refine Below.alloc ?_ ?_ _ | (simp; done) | (simp; omega))

/-- The corners, and the distance: what EnclosingRectangle gives. -/
structure Around (a b c d f : Nat) (n0 n1 n2 n3 m : Int) : Prop where
  ha : Ei a n0
  hb : Ei b n1
  hc : Ei c n2
  hd : Ei d n3
  hf : Ei f m
  hx : n0 ≤ n2
  hy : n1 ≤ n3
  bnd : n0.natAbs ≤ 8388608 ∧ n1.natAbs ≤ 8388608 ∧ n2.natAbs ≤ 8388608 ∧ n3.natAbs ≤ 8388608 ∧ m.natAbs ≤ 8388608

def EncPost (x y x' y' : Nat) (w : World) (e : Ending) (w' : World) : Prop :=
  ∃ h, e = .returned (.pointer (some ⟨h, 0, none⟩)) ∧ IsRect w' h x y x' y' ∧ Below w.heap.size w w'

set_option maxHeartbeats 4000000 in
theorem enclosing (a b c d f : Nat) (n0 n1 n2 n3 m : Int) (H : Around a b c d f n0 n1 n2 n3 m) : ∃ x y x' y', Ei x (n0 - m) ∧ Ei y (n1 - m) ∧ Ei x' (n2 + m) ∧ Ei y' (n3 + m) ∧
    ∀ w, Calls Try.prog 33 #[.agg #[.float .f64 a, .float .f64 d, .float .f64 c, .float .f64 d, .float .f64 a, .float .f64 b, .float .f64 c, .float .f64 b], .float .f64 f] w (EncPost x y x' y' w) := by
  obtain ⟨ha, hb, hc, hd, hf, hx, hy, b0, b1, b2, b3, bm⟩ := H
  -- the corners that the loop takes: c or a, b or d
  by_cases c1 : n0 < n2
  · by_cases c2 : n1 < n3
    · obtain ⟨x, e1, hx1⟩ := sub_ei ha hf (by omega)
      obtain ⟨y, e2, hy1⟩ := sub_ei hb hf (by omega)
      obtain ⟨x', e3, hx2⟩ := add_ei hc hf (by omega)
      obtain ⟨y', e4, hy2⟩ := add_ei hd hf (by omega)
      refine ⟨x, y, x', y', hx1, hy1, hx2, hy2, fun w => ?_⟩
      have k1 := fun t w => run_float_arith (P := Try.prog) w .sub t .f64 _ _ _ e1
      have k2 := fun t w => run_float_arith (P := Try.prog) w .sub t .f64 _ _ _ e2
      have k3 := fun t w => run_float_arith (P := Try.prog) w .add t .f64 _ _ _ e3
      have k4 := fun t w => run_float_arith (P := Try.prog) w .add t .f64 _ _ _ e4
      have t1 := ei_lss hc ha
      have t3 := ei_lss ha ha
      have t4 := ei_gtr ha hc
      have t5 := ei_gtr hc hc
      have t6 := ei_lss hd hd
      have t7 := ei_gtr hd hd
      have t9 := ei_gtr hb hd
      have t10 := ei_lss hb hb
      have t11 := ei_gtr ha ha
      have t2 := ei_gtr hc ha
      have t8 := ei_lss hb hd
      rw [decide_eq_false (by omega)] at t1
      rw [decide_eq_false (by omega)] at t3
      rw [decide_eq_false (by omega)] at t4
      rw [decide_eq_false (by omega)] at t5
      rw [decide_eq_false (by omega)] at t6
      rw [decide_eq_false (by omega)] at t7
      rw [decide_eq_false (by omega)] at t9
      rw [decide_eq_false (by omega)] at t10
      rw [decide_eq_false (by omega)] at t11
      rw [decide_eq_true (by omega)] at t2
      rw [decide_eq_true (by omega)] at t8
      clear e1 e2 e3 e4 ha hb hc hd hf hx hy b0 b1 b2 b3 bm c1 c2 hx1 hy1 hx2 hy2
      go_enter Try.func33, Try.ntmps33
      go_wp2
      go_quiet (fail)
      go_wp2
      go_quiet (fail)
      go_wp2
      refine wp_loop_rounds 4 ?_
      rw [rounds_succ]
      go_wp2
      rw [rounds_succ]
      go_wp2
      rw [rounds_succ]
      go_wp2
      rw [rounds_succ]
      go_wp2_with (go_at_call 36; refine (newRectangle _ _ _ _ _).mono ?_; rintro e w' ⟨rfl, rfl⟩)
      go_ret
      refine ⟨_, rfl, isRect_at _ _ _ _ _ _ _ (by simp), ?_⟩
      repeat' (first | exact Below.refl _ _ | refine Below.drew ?_ | refine below_drewN ?_ _ | refine Below.alloc ?_ ?_ _ | (simp; done) | (simp; omega))
    · obtain ⟨x, e1, hx1⟩ := sub_ei ha hf (by omega)
      obtain ⟨y, e2, hy1⟩ := sub_ei hd hf (by omega)
      obtain ⟨x', e3, hx2⟩ := add_ei hc hf (by omega)
      obtain ⟨y', e4, hy2⟩ := add_ei hd hf (by omega)
      have hy1 : Ei y (n1 - m) := by rw [show n1 = n3 by omega]; exact hy1
      refine ⟨x, y, x', y', hx1, hy1, hx2, hy2, fun w => ?_⟩
      have k1 := fun t w => run_float_arith (P := Try.prog) w .sub t .f64 _ _ _ e1
      have k2 := fun t w => run_float_arith (P := Try.prog) w .sub t .f64 _ _ _ e2
      have k3 := fun t w => run_float_arith (P := Try.prog) w .add t .f64 _ _ _ e3
      have k4 := fun t w => run_float_arith (P := Try.prog) w .add t .f64 _ _ _ e4
      have t1 := ei_lss hc ha
      have t3 := ei_lss ha ha
      have t4 := ei_gtr ha hc
      have t5 := ei_gtr hc hc
      have t6 := ei_lss hd hd
      have t7 := ei_gtr hd hd
      have t9 := ei_gtr hb hd
      have t10 := ei_lss hb hb
      have t11 := ei_gtr ha ha
      have t8 := ei_lss hb hd
      have t2 := ei_gtr hc ha
      rw [decide_eq_false (by omega)] at t1
      rw [decide_eq_false (by omega)] at t3
      rw [decide_eq_false (by omega)] at t4
      rw [decide_eq_false (by omega)] at t5
      rw [decide_eq_false (by omega)] at t6
      rw [decide_eq_false (by omega)] at t7
      rw [decide_eq_false (by omega)] at t9
      rw [decide_eq_false (by omega)] at t10
      rw [decide_eq_false (by omega)] at t11
      rw [decide_eq_false (by omega)] at t8
      rw [decide_eq_true (by omega)] at t2
      clear e1 e2 e3 e4 ha hb hc hd hf hx hy b0 b1 b2 b3 bm c1 c2 hx1 hy1 hx2 hy2
      go_enter Try.func33, Try.ntmps33
      go_wp2
      go_quiet (fail)
      go_wp2
      go_quiet (fail)
      go_wp2
      refine wp_loop_rounds 4 ?_
      rw [rounds_succ]
      go_wp2
      rw [rounds_succ]
      go_wp2
      rw [rounds_succ]
      go_wp2
      rw [rounds_succ]
      go_wp2_with (go_at_call 36; refine (newRectangle _ _ _ _ _).mono ?_; rintro e w' ⟨rfl, rfl⟩)
      go_ret
      refine ⟨_, rfl, isRect_at _ _ _ _ _ _ _ (by simp), ?_⟩
      repeat' (first | exact Below.refl _ _ | refine Below.drew ?_ | refine below_drewN ?_ _ | refine Below.alloc ?_ ?_ _ | (simp; done) | (simp; omega))
  · by_cases c2 : n1 < n3
    · obtain ⟨x, e1, hx1⟩ := sub_ei ha hf (by omega)
      obtain ⟨y, e2, hy1⟩ := sub_ei hb hf (by omega)
      obtain ⟨x', e3, hx2⟩ := add_ei ha hf (by omega)
      obtain ⟨y', e4, hy2⟩ := add_ei hd hf (by omega)
      have hx2 : Ei x' (n2 + m) := by rw [show n2 = n0 by omega]; exact hx2
      refine ⟨x, y, x', y', hx1, hy1, hx2, hy2, fun w => ?_⟩
      have k1 := fun t w => run_float_arith (P := Try.prog) w .sub t .f64 _ _ _ e1
      have k2 := fun t w => run_float_arith (P := Try.prog) w .sub t .f64 _ _ _ e2
      have k3 := fun t w => run_float_arith (P := Try.prog) w .add t .f64 _ _ _ e3
      have k4 := fun t w => run_float_arith (P := Try.prog) w .add t .f64 _ _ _ e4
      have t1 := ei_lss hc ha
      have t3 := ei_lss ha ha
      have t4 := ei_gtr ha hc
      have t5 := ei_gtr hc hc
      have t6 := ei_lss hd hd
      have t7 := ei_gtr hd hd
      have t9 := ei_gtr hb hd
      have t10 := ei_lss hb hb
      have t11 := ei_gtr ha ha
      have t2 := ei_gtr hc ha
      have t8 := ei_lss hb hd
      rw [decide_eq_false (by omega)] at t1
      rw [decide_eq_false (by omega)] at t3
      rw [decide_eq_false (by omega)] at t4
      rw [decide_eq_false (by omega)] at t5
      rw [decide_eq_false (by omega)] at t6
      rw [decide_eq_false (by omega)] at t7
      rw [decide_eq_false (by omega)] at t9
      rw [decide_eq_false (by omega)] at t10
      rw [decide_eq_false (by omega)] at t11
      rw [decide_eq_false (by omega)] at t2
      rw [decide_eq_true (by omega)] at t8
      clear e1 e2 e3 e4 ha hb hc hd hf hx hy b0 b1 b2 b3 bm c1 c2 hx1 hy1 hx2 hy2
      go_enter Try.func33, Try.ntmps33
      go_wp2
      go_quiet (fail)
      go_wp2
      go_quiet (fail)
      go_wp2
      refine wp_loop_rounds 4 ?_
      rw [rounds_succ]
      go_wp2
      rw [rounds_succ]
      go_wp2
      rw [rounds_succ]
      go_wp2
      rw [rounds_succ]
      go_wp2_with (go_at_call 36; refine (newRectangle _ _ _ _ _).mono ?_; rintro e w' ⟨rfl, rfl⟩)
      go_ret
      refine ⟨_, rfl, isRect_at _ _ _ _ _ _ _ (by simp), ?_⟩
      repeat' (first | exact Below.refl _ _ | refine Below.drew ?_ | refine below_drewN ?_ _ | refine Below.alloc ?_ ?_ _ | (simp; done) | (simp; omega))
    · obtain ⟨x, e1, hx1⟩ := sub_ei ha hf (by omega)
      obtain ⟨y, e2, hy1⟩ := sub_ei hd hf (by omega)
      obtain ⟨x', e3, hx2⟩ := add_ei ha hf (by omega)
      obtain ⟨y', e4, hy2⟩ := add_ei hd hf (by omega)
      have hx2 : Ei x' (n2 + m) := by rw [show n2 = n0 by omega]; exact hx2
      have hy1 : Ei y (n1 - m) := by rw [show n1 = n3 by omega]; exact hy1
      refine ⟨x, y, x', y', hx1, hy1, hx2, hy2, fun w => ?_⟩
      have k1 := fun t w => run_float_arith (P := Try.prog) w .sub t .f64 _ _ _ e1
      have k2 := fun t w => run_float_arith (P := Try.prog) w .sub t .f64 _ _ _ e2
      have k3 := fun t w => run_float_arith (P := Try.prog) w .add t .f64 _ _ _ e3
      have k4 := fun t w => run_float_arith (P := Try.prog) w .add t .f64 _ _ _ e4
      have t1 := ei_lss hc ha
      have t3 := ei_lss ha ha
      have t4 := ei_gtr ha hc
      have t5 := ei_gtr hc hc
      have t6 := ei_lss hd hd
      have t7 := ei_gtr hd hd
      have t9 := ei_gtr hb hd
      have t10 := ei_lss hb hb
      have t11 := ei_gtr ha ha
      have t2 := ei_gtr hc ha
      have t8 := ei_lss hb hd
      rw [decide_eq_false (by omega)] at t1
      rw [decide_eq_false (by omega)] at t3
      rw [decide_eq_false (by omega)] at t4
      rw [decide_eq_false (by omega)] at t5
      rw [decide_eq_false (by omega)] at t6
      rw [decide_eq_false (by omega)] at t7
      rw [decide_eq_false (by omega)] at t9
      rw [decide_eq_false (by omega)] at t10
      rw [decide_eq_false (by omega)] at t11
      rw [decide_eq_false (by omega)] at t2
      rw [decide_eq_false (by omega)] at t8
      clear e1 e2 e3 e4 ha hb hc hd hf hx hy b0 b1 b2 b3 bm c1 c2 hx1 hy1 hx2 hy2
      go_enter Try.func33, Try.ntmps33
      go_wp2
      go_quiet (fail)
      go_wp2
      go_quiet (fail)
      go_wp2
      refine wp_loop_rounds 4 ?_
      rw [rounds_succ]
      go_wp2
      rw [rounds_succ]
      go_wp2
      rw [rounds_succ]
      go_wp2
      rw [rounds_succ]
      go_wp2_with (go_at_call 36; refine (newRectangle _ _ _ _ _).mono ?_; rintro e w' ⟨rfl, rfl⟩)
      go_ret
      refine ⟨_, rfl, isRect_at _ _ _ _ _ _ _ (by simp), ?_⟩
      repeat' (first | exact Below.refl _ _ | refine Below.drew ?_ | refine below_drewN ?_ _ | refine Below.alloc ?_ ?_ _ | (simp; done) | (simp; omega))

set_option maxHeartbeats 4000000 in
theorem implEnclosing (a b c d f x y x' y' : Nat)
    (HE : Hid (∀ w, Calls Try.prog 33 #[.agg #[.float .f64 a, .float .f64 d, .float .f64 c, .float .f64 d, .float .f64 a, .float .f64 b, .float .f64 c, .float .f64 b], .float .f64 f] w (EncPost x y x' y' w))) (w : World) :
    Calls Try.prog 20 #[rv a b c d, .float .f64 f] w fun e w' => e = .returned (rv x y x' y') ∧ Below w.heap.size w w' := by
  go_enter Try.func20, Try.ntmps20
  go_wp2_with fail
  refine (rectangle _ _ _ _ _).mono ?_
  rintro e w1 ⟨rfl, rfl⟩
  go_wp2_with fail
  refine (quadFor _ a b c d _ ?h).mono ?_
  case h => exact isRect_at _ _ _ _ _ _ _ (by simp)
  rintro e w2 ⟨h, rfl, ⟨q0, q1, q2, q3, q4, q5, q6, q7⟩, hb2⟩
  go_wp2_with fail
  refine (HE.out _).mono ?_
  rintro e w3 ⟨h3, rfl, hr3, hb3⟩
  go_wp2_with fail
  refine (implPlain _ _ _ _ _ _ hr3).mono ?_
  rintro e w4 ⟨rfl, hb4⟩
  have z2 := hb2.size
  simp at z2
  have z3 := hb3.size
  have z4 := hb4.size
  have hB : Below (w.heap.size + 1 + 1 + 1 + 1) _ w4 := (hb2.mono (by simp)).trans ((hb3.mono (by omega)).trans (hb4.mono (by omega)))
  have c0 := hB.cell (p := ⟨w.heap.size + 1, 0, none⟩) (by simp)
  have c1 := hB.cell (p := ⟨w.heap.size + 1, 1, none⟩) (by simp)
  have c2 := hB.cell (p := ⟨w.heap.size + 1, 2, none⟩) (by simp)
  have c3 := hB.cell (p := ⟨w.heap.size + 1, 3, none⟩) (by simp)
  have f0 := hB.frozen (p := ⟨w.heap.size + 1, 0, none⟩) (by simp)
  have f1 := hB.frozen (p := ⟨w.heap.size + 1, 1, none⟩) (by simp)
  have f2 := hB.frozen (p := ⟨w.heap.size + 1, 2, none⟩) (by simp)
  have f3 := hB.frozen (p := ⟨w.heap.size + 1, 3, none⟩) (by simp)
  simp [go_sem] at c0 c1 c2 c3 f0 f1 f2 f3
  have HB : Hid (Below w.heap.size w w4) := by
    refine Below.trans ?_ (hB.mono (by omega))
    repeat' (first | exact Below.refl _ _ | refine Below.alloc ?_ ?_ _ | (simp; done) | (simp; omega))
  clear hb2 hb3 hb4 hB z2 z3 z4 q0 q1 q2 q3 q4 q5 q6 q7 hr3
  go_wp2
  refine bodyPost_ret (v := rv x y x' y') (by simp [results, Try.results20, go_sem, c0, c1, c2, c3]) rfl ⟨rfl, ?_⟩
  repeat' (first | exact HB.out | refine Below.setCell ?_ ?_ _ | (simp; done) | (simp; omega))
end Go.Proofs.Ytmaphdfhoddnmaa
