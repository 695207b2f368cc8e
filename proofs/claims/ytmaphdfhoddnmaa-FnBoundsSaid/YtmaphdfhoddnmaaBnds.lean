/-
  The walk of FnBounds: it returns true for every input.
-/
import Derived.Test.YtmaphdfhoddnmaaBnd
namespace Go.Proofs.Ytmaphdfhoddnmaa
open Go.RowKit Fl

theorem pick_lo {x a : Nat} {X A : Int} (hx : Qu x X) (ha : Qu a A) : Qu (pick (decide (X < A)) x a) (min A X) := by
  unfold pick
  by_cases h : X < A
  · simp only [h, decide_true, if_true]; rw [Int.min_eq_right (by omega)]; exact hx
  · simp only [h, decide_false, Bool.false_eq_true, if_false]; rw [Int.min_eq_left (by omega)]; exact ha
theorem pick_hi {x c : Nat} {X A C : Int} (hx : Qu x X) (hc : Qu c C) (hac : A ≤ C) : Qu (pick (!(decide (X < A)) && decide (C < X)) x c) (max C X) := by
  unfold pick
  by_cases h : C < X
  · have h2 : ¬ X < A := by omega
    simp only [h, h2, decide_true, decide_false, Bool.not_false, Bool.and_self, if_true]; rw [Int.max_eq_right (by omega)]; exact hx
  · simp only [h, decide_false, Bool.and_false, Bool.false_eq_true, if_false]; rw [Int.max_eq_left (by omega)]; exact hc

set_option maxHeartbeats 4000000 in
theorem calcBB {a b c d a' b' c' d' : Nat} {A B C D A' B' C' D' : Int} (ha : Qu a A) (hb : Qu b B) (hc : Qu c C) (hd : Qu d D) (ha' : Qu a' A') (hb' : Qu b' B') (hc' : Qu c' C') (hd' : Qu d' D')
    (l1 : A ≤ C) (l2 : B ≤ D) (l3 : A' ≤ C') (l4 : B' ≤ D') : ∃ u v x y, Qu u (min A A') ∧ Qu v (min B B') ∧ Qu x (max C C') ∧ Qu y (max D D') ∧
      ∀ g h w, IsRect w g a b c d → IsRect w h a' b' c' d' → Calls Try.prog 34 #[.pointer (some ⟨g, 0, none⟩), .pointer (some ⟨h, 0, none⟩)] w (EncPost u v x y w) := by
  have p0 := pick_lo ha' ha
  have p1 := pick_lo hb' hb
  have p2 := pick_hi ha' hc l1
  have p3 := pick_hi hb' hd l2
  have W1 := Lib.hid fun g w hr => withPoint g a b c d a' b' _ _ _ _ w hr (qu_lss ha' ha) (qu_gtr ha' hc) (qu_lss hb' hb) (qu_gtr hb' hd)
  have r0 := pick_lo hc' p0
  have r1 := pick_lo hd' p1
  have r2 := pick_hi (A := min A A') hc' p2 (by omega)
  have r3 := pick_hi (A := min B B') hd' p3 (by omega)
  have W2 := Lib.hid fun g w hr => withPoint g _ _ _ _ c' d' _ _ _ _ w hr (qu_lss hc' p0) (qu_gtr hc' p2) (qu_lss hd' p1) (qu_gtr hd' p3)
  have e0 : min (min A A') C' = min A A' := by omega
  have e1 : min (min B B') D' = min B B' := by omega
  have e2 : max (max C A') C' = max C C' := by omega
  have e3 : max (max D B') D' = max D D' := by omega
  rw [e0] at r0
  rw [e1] at r1
  rw [e2] at r2
  rw [e3] at r3
  refine ⟨_, _, _, _, r0, r1, r2, r3, fun g h w hg hh => ?_⟩
  clear e0 e1 e2 e3
  obtain ⟨g0, g1, g2, g3⟩ := hg
  obtain ⟨h0, h1, h2, h3⟩ := hh
  have HG := Lib.hid (show IsRect w g a b c d from ⟨g0, g1, g2, g3⟩)
  clear g0 g1 g2 g3 ha hb hc hd ha' hb' hc' hd' p0 p1 p2 p3 r0 r1 r2 r3 l1 l2 l3 l4
  go_enter Try.func34, Try.ntmps34
  go_wp2_with fail
  refine (W1.out g _ HG.out).mono ?_
  rintro e w1 ⟨k, rfl, hr1, hb1⟩
  have m0 := keepC hb1 h0
  have m1 := keepC hb1 h1
  have m2 := keepC hb1 h2
  have m3 := keepC hb1 h3
  have HR := Lib.hid hr1
  have HB := Lib.hid hb1
  clear hr1 hb1 h0 h1 h2 h3
  go_wp2_with fail
  refine (W2.out k _ HR.out).mono ?_
  rintro e w2 ⟨k', rfl, hr2, hb2⟩
  have HR2 := Lib.hid hr2
  have HB2 := Lib.hid hb2
  clear hr2 hb2
  go_wp2
  go_ret
  exact ⟨k', rfl, HR2.out, thenC HB.out HB2.out⟩

set_option maxHeartbeats 4000000 in
theorem implBounds {a b c d a' b' c' d' u v x y : Nat} (HC : Hid (∀ g h w, IsRect w g a b c d → IsRect w h a' b' c' d' → Calls Try.prog 34 #[.pointer (some ⟨g, 0, none⟩), .pointer (some ⟨h, 0, none⟩)] w (EncPost u v x y w))) (w : World) :
    Calls Try.prog 21 #[rv a b c d, rv a' b' c' d'] w fun e w' => e = .returned (rv u v x y) ∧ Below w.heap.size w w' := by
  go_enter Try.func21, Try.ntmps21
  go_wp2_with fail
  go_region_with (first
    | (go_at_call 29; ((with_reducible refine (rectangle a b c d _).mono ?_); rintro e w1 ⟨rfl, rfl⟩))
    | (go_at_call 29; ((with_reducible refine (rectangle a' b' c' d' _).mono ?_); rintro e w1 ⟨rfl, rfl⟩))
    | (go_at_call 34; refine (HC.out _ _ _ ?_ ?_).mono ?_; exact ⟨by simp [go_sem], by simp [go_sem], by simp [go_sem], by simp [go_sem]⟩; exact ⟨by simp [go_sem], by simp [go_sem], by simp [go_sem], by simp [go_sem]⟩; rintro e w2 ⟨k, rfl, hr2, hb2⟩)
    | (go_at_call 28; refine (implPlain _ _ _ _ _ _ hr2).mono ?_; rintro e w3 ⟨rfl, hb3⟩; (have hB := hb2.trans (hb3.mono hb2.size)); (have c0 := hB.cell (p := ⟨w.heap.size + 1 + 1, 0, none⟩) (by simp)); (have c1 := hB.cell (p := ⟨w.heap.size + 1 + 1, 1, none⟩) (by simp)); (have c2 := hB.cell (p := ⟨w.heap.size + 1 + 1, 2, none⟩) (by simp)); (have c3 := hB.cell (p := ⟨w.heap.size + 1 + 1, 3, none⟩) (by simp)); (have f0 := hB.frozen (p := ⟨w.heap.size + 1 + 1, 0, none⟩) (by simp)); (have f1 := hB.frozen (p := ⟨w.heap.size + 1 + 1, 1, none⟩) (by simp)); (have f2 := hB.frozen (p := ⟨w.heap.size + 1 + 1, 2, none⟩) (by simp)); (have f3 := hB.frozen (p := ⟨w.heap.size + 1 + 1, 3, none⟩) (by simp)); simp [go_sem] at c0 c1 c2 c3 f0 f1 f2 f3))
  all_goals
    go_wp2
    refine bodyPost_ret (v := rv u v x y) (by simp [results, Try.results21, go_sem, c0, c1, c2, c3]) rfl ⟨rfl, ?_⟩
    refine Below.setCell (Below.setCell (Below.setCell (Below.setCell ?_ ?_ _) ?_ _) ?_ _) ?_ _
    all_goals first | (simp; done) | (simp; omega) | skip
    refine Below.trans ?_ (hB.mono ?_)
    all_goals (repeat' (first | exact Below.refl _ _ | refine Below.drew ?_ | refine Below.alloc ?_ ?_ _ | (simp; done) | (simp; omega)))

set_option maxHeartbeats 4000000 in
theorem fnBounds_walk (a b c d a' b' c' d' : Nat) (w : World) :
    Calls Try.prog 9 #[rv a b c d, rv a' b' c' d'] w fun e w' => e = .returned (.bool true) ∧ Below w.heap.size w w' := by
  obtain ⟨r1, hr1, hcall1⟩ := plain_any a b c d
  obtain ⟨r2, hr2, hcall2⟩ := plain_any a' b' c' d'
  have HP1 := Lib.hid hcall1
  have HP2 := Lib.hid hcall2
  clear hcall1 hcall2
  obtain ⟨W, hW⟩ : ∃ W, (w.alloc (.cells #[.float .f64 a, .float .f64 b, .float .f64 c, .float .f64 d] 37)).alloc (.cells #[.float .f64 a', .float .f64 b', .float .f64 c', .float .f64 d'] 37) = W := ⟨_, rfl⟩
  have bel : Below w.heap.size w W := by rw [← hW]; exact ((Below.refl _ _).alloc (Nat.le_refl _) _).alloc (by simp) _
  obtain ⟨g0, g1, g2, g3⟩ : IsRect W w.heap.size a b c d := by rw [← hW]; exact ⟨by simp [go_sem], by simp [go_sem], by simp [go_sem], by simp [go_sem]⟩
  obtain ⟨k0, k1, k2, k3⟩ : IsRect W (w.heap.size + 1) a' b' c' d' := by rw [← hW]; exact ⟨by simp [go_sem], by simp [go_sem], by simp [go_sem], by simp [go_sem]⟩
  have HW := Lib.hid hW
  have HB := Lib.hid bel
  clear hW bel
  cases r1
  · clear hr1 hr2
    go_enter Try.func9, Try.ntmps9
    go_wp2_with fail
    rw [HW.out]
    go_wp2_with fail
    refine (HP1.out _).mono ?_
    rintro e w1 ⟨rfl, hb1⟩
    go_wp2
    go_ret
    exact ⟨rfl, thenC HB.out hb1⟩
  cases r2
  · clear hr1 hr2
    go_enter Try.func9, Try.ntmps9
    go_wp2_with fail
    rw [HW.out]
    go_wp2_with fail
    refine (HP1.out _).mono ?_
    rintro e w1 ⟨rfl, hb1⟩
    have m0 := keepC hb1 k0
    have m1 := keepC hb1 k1
    have m2 := keepC hb1 k2
    have m3 := keepC hb1 k3
    go_wp2_with fail
    refine (HP2.out _).mono ?_
    rintro e w2 ⟨rfl, hb2⟩
    go_wp2
    go_ret
    exact ⟨rfl, thenC (thenC HB.out hb1) hb2⟩
  obtain ⟨n0, n1, n2, n3, h0, h1, h2, h3, l1, l2⟩ := hr1 rfl
  obtain ⟨n0', n1', n2', n3', h0', h1', h2', h3', l1', l2'⟩ := hr2 rfl
  have q0 := qu_of_half h0.2.2.1
  have q1 := qu_of_half h1.2.2.1
  have q2 := qu_of_half h2.2.2.1
  have q3 := qu_of_half h3.2.2.1
  have q0' := qu_of_half h0'.2.2.1
  have q1' := qu_of_half h1'.2.2.1
  have q2' := qu_of_half h2'.2.2.1
  have q3' := qu_of_half h3'.2.2.1
  obtain ⟨u, v, x, y, t0, t1, t2, t3, hBB⟩ := calcBB q0 q1 q2 q3 q0' q1' q2' q3' (by omega) (by omega) (by omega) (by omega)
  obtain ⟨u', e0, o0⟩ := min_qu q0 q0'
  obtain ⟨v', e1, o1⟩ := min_qu q1 q1'
  obtain ⟨x', e2, o2⟩ := max_qu q2 q2'
  obtain ⟨y', e3, o3⟩ := max_qu q3 q3'
  have E := rect_eql u v x y u' v' x' y' (qu_eq t0 e0 rfl) (qu_eq t1 e1 rfl) (qu_eq t2 e2 rfl) (qu_eq t3 e3 rfl)
  unfold rv at E
  have one : Qu 4607182418800017408 4 := by
    unfold Qu
    have : ((4 : Int) : Rat) / 4 = 1 := by decide +kernel
    rw [this]; exact v_one
  have two : Qu 4611686018427387904 8 := by
    unfold Qu
    have : ((8 : Int) : Rat) / 4 = 2 := by decide +kernel
    rw [this]; exact v_two
  obtain ⟨s0, s1, s2, s3, z0, z1, z2, z3, hB1⟩ := calcBB one one two two one one two two (by omega) (by omega) (by omega) (by omega)
  have E1 := rect_eql s0 s1 s2 s3 4607182418800017408 4607182418800017408 4611686018427387904 4611686018427387904 (qu_eq z0 one (by omega)) (qu_eq z1 one (by omega)) (qu_eq z2 two (by omega)) (qu_eq z3 two (by omega))
  unfold rv at E1
  have HI := Lib.hid (implBounds (Lib.hid hBB))
  have HI1 := Lib.hid (implBounds (Lib.hid hB1))
  clear h0 h1 h2 h3 h0' h1' h2' h3' l1 l2 l1' l2' q0 q1 q2 q3 q0' q1' q2' q3' t0 t1 t2 t3 hBB e0 e1 e2 e3 one two z0 z1 z2 z3 hB1 hr1 hr2
  go_enter Try.func9, Try.ntmps9
  go_wp2_with fail
  rw [HW.out]
  go_wp2_with fail
  refine (HP1.out _).mono ?_
  rintro e w1 ⟨rfl, hb1⟩
  have m0 := keepC hb1 k0
  have m1 := keepC hb1 k1
  have m2 := keepC hb1 k2
  have m3 := keepC hb1 k3
  have i0 := keepC hb1 g0
  have i1 := keepC hb1 g1
  have i2 := keepC hb1 g2
  have i3 := keepC hb1 g3
  go_wp2_with fail
  refine (HP2.out _).mono ?_
  rintro e w2 ⟨rfl, hb2⟩
  obtain ⟨W3, hW3⟩ : ∃ W3, w2.alloc (.cells #[.float .f64 4607182418800017408, .float .f64 4607182418800017408, .float .f64 4611686018427387904, .float .f64 4611686018427387904] 37) = W3 := ⟨_, rfl⟩
  have hb3 : Below w2.heap.size w2 W3 := by rw [← hW3]; exact (Below.refl _ _).alloc (Nat.le_refl _) _
  have HB2 := Lib.hid (thenC (thenC (thenC HB.out hb1) hb2) hb3)
  obtain ⟨j0, j1, j2, j3⟩ : IsRect W3 w2.heap.size 4607182418800017408 4607182418800017408 4611686018427387904 4611686018427387904 := by rw [← hW3]; exact isRect_new w2 _ _ _ _ 37
  have a0 := cell_regrown (keepC hb3 (keepC hb2 m0))
  have a1 := cell_regrown (keepC hb3 (keepC hb2 m1))
  have a2 := cell_regrown (keepC hb3 (keepC hb2 m2))
  have a3 := cell_regrown (keepC hb3 (keepC hb2 m3))
  have b0 := cell_regrown (keepC hb3 (keepC hb2 i0))
  have b1 := cell_regrown (keepC hb3 (keepC hb2 i1))
  have b2 := cell_regrown (keepC hb3 (keepC hb2 i2))
  have b3 := cell_regrown (keepC hb3 (keepC hb2 i3))
  have c0 := cell_regrown j0
  have c1 := cell_regrown j1
  have c2 := cell_regrown j2
  have c3 := cell_regrown j3
  have HW3 := Lib.hid hW3
  clear hb1 hb2 hb3 m0 m1 m2 m3 i0 i1 i2 i3 j0 j1 j2 j3 hW3 g0 g1 g2 g3 k0 k1 k2 k3
  go_wp2_with fail
  rw [HW3.out]
  have C1 := Lib.hid fun d' os => Calls.regrown_of (w := W3) (d := d') (os := os) (HI.out _)
  have C2 := Lib.hid fun d' os => Calls.regrown_of (w := W3) (d := d') (os := os) (HI1.out _)
  refine wp_region_quiet_below (by kernel_rfl) (by kernel_rfl) ?_
  repeat (go_big_quiet_step ((first | (with_reducible exact C1.out _ _) | (with_reducible exact C2.out _ _))))
  refine wpQuiet_nil ?_
  intro _ hw'
  obtain ⟨⟨dq, osq⟩, hw''⟩ := hw'
  subst hw''
  go_wp2
  go_ret
  exact ⟨rfl, thenC HB2.out (below_regrown _ dq osq)⟩
end Go.Proofs.Ytmaphdfhoddnmaa
