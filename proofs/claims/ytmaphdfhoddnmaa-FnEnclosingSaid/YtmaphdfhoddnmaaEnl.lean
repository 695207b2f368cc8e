/-
  The walk of FnEnclosing: it returns true for every input.
-/
import Derived.Test.YtmaphdfhoddnmaaEnc
import Derived.Test.YtmaphdfhoddnmaaCrop
namespace Go.Proofs.Ytmaphdfhoddnmaa
open Go.RowKit Fl

theorem wf64e {c : Int} (h : (Lit.int .i64 c).wf = true) : -9223372036854775808 ≤ c ∧ c ≤ 9223372036854775807 := by
  simp [Lit.wf, IntKind.min, IntKind.max, IntKind.signed, IntKind.bits] at h
  omega

set_option maxHeartbeats 4000000 in
theorem fnEnclosing_walk (a b c d : Nat) (i : Int) (w : World) (hi : (Lit.int .i64 i).wf = true) :
    Calls Try.prog 8 #[rv a b c d, .int .i64 i] w fun e w' => e = .returned (.bool true) ∧ Below w.heap.size w w' := by
  obtain ⟨r0, hr0, s0⟩ := small_any a
  obtain ⟨r1, hr1, s1⟩ := small_any b
  obtain ⟨r2, hr2, s2⟩ := small_any c
  obtain ⟨r3, hr3, s3⟩ := small_any d
  have S0 := Lib.hid s0
  have S1 := Lib.hid s1
  have S2 := Lib.hid s2
  have S3 := Lib.hid s3
  have hb := wf64e hi
  clear s0 s1 s2 s3 hi
  obtain ⟨W, hW⟩ : ∃ W, w.alloc (.cells #[.float .f64 a, .float .f64 b, .float .f64 c, .float .f64 d] 37) = W := ⟨_, rfl⟩
  have bel : Below w.heap.size w W := by rw [← hW]; exact (Below.refl _ _).alloc (Nat.le_refl _) _
  obtain ⟨g0, g1, g2, g3⟩ : IsRect W w.heap.size a b c d := by rw [← hW]; exact isRect_new w a b c d 37
  have HW := Lib.hid hW
  have HB := Lib.hid bel
  clear hW bel
  obtain ⟨q1, hq1⟩ : ∃ q, (FloatKind.f64.format.order a c == some .gt) = q := ⟨_, rfl⟩
  obtain ⟨q2, hq2⟩ : ∃ q, (FloatKind.f64.format.order b d == some .gt) = q := ⟨_, rfl⟩
  cases q1
  case true =>
    clear hr0 hr1 hr2 hr3 hq2
    go_enter Try.func8, Try.ntmps8
    go_wp2
    go_ret
    refine ⟨rfl, ?_⟩
    exact (Below.refl _ _).alloc (Nat.le_refl _) _
  cases q2
  case true =>
    clear hr0 hr1 hr2 hr3
    go_enter Try.func8, Try.ntmps8
    go_wp2
    go_ret
    refine ⟨rfl, ?_⟩
    exact (Below.refl _ _).alloc (Nat.le_refl _) _
  by_cases hneg : i < 0
  · clear hr0 hr1 hr2 hr3
    go_enter Try.func8, Try.ntmps8
    go_wp2
    go_ret
    refine ⟨rfl, ?_⟩
    exact (Below.refl _ _).alloc (Nat.le_refl _) _
  by_cases hbig : 1000 < i
  · clear hr0 hr1 hr2 hr3
    go_enter Try.func8, Try.ntmps8
    go_wp2
    go_ret
    refine ⟨rfl, ?_⟩
    exact (Below.refl _ _).alloc (Nat.le_refl _) _
  cases r0
  · clear hr0 hr1 hr2 hr3
    go_enter Try.func8, Try.ntmps8
    go_wp2_with fail
    rw [HW.out]
    go_wp2_with fail
    refine (S0.out _).mono ?_
    rintro e w' ⟨rfl, rfl⟩
    go_wp2
    go_ret
    exact ⟨rfl, HB.out⟩
  cases r1
  · clear hr0 hr1 hr2 hr3
    go_enter Try.func8, Try.ntmps8
    go_wp2_with fail
    rw [HW.out]
    go_wp2_with fail
    refine (S0.out _).mono ?_
    rintro e w' ⟨rfl, rfl⟩
    go_wp2_with fail
    refine (S1.out _).mono ?_
    rintro e w' ⟨rfl, rfl⟩
    go_wp2
    go_ret
    exact ⟨rfl, HB.out⟩
  cases r2
  · clear hr0 hr1 hr2 hr3
    go_enter Try.func8, Try.ntmps8
    go_wp2_with fail
    rw [HW.out]
    go_wp2_with fail
    refine (S0.out _).mono ?_
    rintro e w' ⟨rfl, rfl⟩
    go_wp2_with fail
    refine (S1.out _).mono ?_
    rintro e w' ⟨rfl, rfl⟩
    go_wp2_with fail
    refine (S2.out _).mono ?_
    rintro e w' ⟨rfl, rfl⟩
    go_wp2
    go_ret
    exact ⟨rfl, HB.out⟩
  cases r3
  · clear hr0 hr1 hr2 hr3
    go_enter Try.func8, Try.ntmps8
    go_wp2_with fail
    rw [HW.out]
    go_wp2_with fail
    refine (S0.out _).mono ?_
    rintro e w' ⟨rfl, rfl⟩
    go_wp2_with fail
    refine (S1.out _).mono ?_
    rintro e w' ⟨rfl, rfl⟩
    go_wp2_with fail
    refine (S2.out _).mono ?_
    rintro e w' ⟨rfl, rfl⟩
    go_wp2_with fail
    refine (S3.out _).mono ?_
    rintro e w' ⟨rfl, rfl⟩
    go_wp2
    go_ret
    exact ⟨rfl, HB.out⟩
  obtain ⟨n0, h0, b0, b0'⟩ := hr0 rfl
  obtain ⟨n1, h1, b1, b1'⟩ := hr1 rfl
  obtain ⟨n2, h2, b2, b2'⟩ := hr2 rfl
  obtain ⟨n3, h3, b3, b3'⟩ := hr3 rfl
  have hf := ei_int (n := i) (by omega)
  have l1 : n0 ≤ n2 := by
    have := ei_gtr h0 h2
    rw [hq1] at this
    simpa using this.symm
  have l2 : n1 ≤ n3 := by
    have := ei_gtr h1 h3
    rw [hq2] at this
    simpa using this.symm
  obtain ⟨x, y, x', y', k0, k1, k2, k3, hE⟩ := enclosing a b c d (floatOfInt .f64 i) n0 n1 n2 n3 (8 * i) ⟨h0, h1, h2, h3, hf, l1, l2, by omega⟩
  obtain ⟨u0, e0, m0⟩ := sub_ei h0 hf (by omega)
  obtain ⟨u1, e1, m1⟩ := sub_ei h1 hf (by omega)
  obtain ⟨u2, e2, m2⟩ := add_ei h2 hf (by omega)
  obtain ⟨u3, e3, m3⟩ := add_ei h3 hf (by omega)
  have E := rect_eql x y x' y' u0 u1 u2 u3 (ei_eq k0 m0 rfl) (ei_eq k1 m1 rfl) (ei_eq k2 m2 rfl) (ei_eq k3 m3 rfl)
  unfold rv at E
  have o0 := fun t w => run_float_arith (P := Try.prog) w .sub t .f64 _ _ _ e0
  have o1 := fun t w => run_float_arith (P := Try.prog) w .sub t .f64 _ _ _ e1
  have o2 := fun t w => run_float_arith (P := Try.prog) w .add t .f64 _ _ _ e2
  have o3 := fun t w => run_float_arith (P := Try.prog) w .add t .f64 _ _ _ e3
  have HI := Lib.hid (implEnclosing a b c d (floatOfInt .f64 i) x y x' y' (Lib.hid hE))
  clear hr0 hr1 hr2 hr3 h0 h1 h2 h3 hf l1 l2 k0 k1 k2 k3 m0 m1 m2 m3 e0 e1 e2 e3 hE
  go_enter Try.func8, Try.ntmps8
  go_wp2_with fail
  rw [HW.out]
  go_wp2_with fail
  refine (S0.out _).mono ?_
  rintro e w' ⟨rfl, rfl⟩
  go_wp2_with fail
  refine (S1.out _).mono ?_
  rintro e w' ⟨rfl, rfl⟩
  go_wp2_with fail
  refine (S2.out _).mono ?_
  rintro e w' ⟨rfl, rfl⟩
  go_wp2_with fail
  refine (S3.out _).mono ?_
  rintro e w' ⟨rfl, rfl⟩
  go_wp2_with fail
  have p0 := cell_regrown g0
  have p1 := cell_regrown g1
  have p2 := cell_regrown g2
  have p3 := cell_regrown g3
  have C1 := Lib.hid fun d' os => Calls.regrown_of (w := W) (d := d') (os := os) (HI.out _)
  clear g0 g1 g2 g3
  refine wp_region_quiet_below (by kernel_rfl) (by kernel_rfl) ?_
  repeat (go_big_quiet_step ((with_reducible exact C1.out _ _)))
  refine wpQuiet_nil ?_
  intro _ hw'
  obtain ⟨⟨dq, osq⟩, hw''⟩ := hw'
  subst hw''
  go_wp2
  go_ret
  exact ⟨rfl, thenC HB.out (below_regrown _ dq osq)⟩
end Go.Proofs.Ytmaphdfhoddnmaa
