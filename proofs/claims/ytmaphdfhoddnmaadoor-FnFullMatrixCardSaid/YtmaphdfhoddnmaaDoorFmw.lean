/-
  The walk of FnFullMatrix: it returns true for every input.
-/
import Derived.Test.YtmaphdfhoddnmaaDoorFm
import Derived.Deep.DeepFit
namespace Go.Proofs.YtmaphdfhoddnmaaDoor
open Go.RowKit Fl

theorem half_hf {b : Nat} {n : Int} (h : Half b n) : Hf b n := ⟨h.2.2.1, by have := h.1; have := h.2.1; omega⟩
theorem wf64 {c : Int} (h : (Lit.int .i64 c).wf = true) : -9223372036854775808 ≤ c ∧ c ≤ 9223372036854775807 := by
  simp [Lit.wf, IntKind.min, IntKind.max, IntKind.signed, IntKind.bits] at h
  omega

/-- The sine and the cosine of a quarter: what the two rows hold at it. -/
structure Quarter (k : Nat) (sn cs : Nat) (s c : Int) : Prop where
  sv : ∀ h, [Value.float .f64 0, .float .f64 4607182418800017408, .float .f64 0, .float .f64 13830554455654793216][k]'h = .float .f64 sn
  cv : ∀ h, [Value.float .f64 4607182418800017408, .float .f64 0, .float .f64 13830554455654793216, .float .f64 0][k]'h = .float .f64 cs
  hs : Hf sn (2 * s)
  hc : Hf cs (2 * c)
  bs : s.natAbs ≤ 1
  bc : c.natAbs ≤ 1
theorem hf_neg : Hf 13830554455654793216 (2 * -1) := ⟨by
  rw [show (((2 * -1 : Int) : Rat) / 2) = -1 by decide +kernel]
  exact ⟨true, 4503599627370496, -52, by decide +kernel, by decide +kernel⟩, by decide⟩
theorem quarter (k : Nat) (h : k < 4) : ∃ sn cs s c, Quarter k sn cs s c :=
  match k, h with
  | 0, _ => ⟨_, _, 0, 1, fun _ => rfl, fun _ => rfl, hf_zero, hf_one, by decide, by decide⟩
  | 1, _ => ⟨_, _, 1, 0, fun _ => rfl, fun _ => rfl, hf_one, hf_zero, by decide, by decide⟩
  | 2, _ => ⟨_, _, 0, -1, fun _ => rfl, fun _ => rfl, hf_zero, hf_neg, by decide, by decide⟩
  | 3, _ => ⟨_, _, -1, 0, fun _ => rfl, fun _ => rfl, hf_neg, hf_zero, by decide, by decide⟩

set_option maxHeartbeats 4000000 in
theorem fullMatrix_out (sx sy dx dy x y : Nat) (q : Int) (w : World) (hq : q < 0 ∨ 3 < q) :
    Calls Tryd.prog 3 #[.float .f64 sx, .float .f64 sy, .int .i64 q, .float .f64 dx, .float .f64 dy, .float .f64 x, .float .f64 y] w fun e w' => e = .returned (.bool true) ∧ Below w.heap.size w w' := by
  by_cases h0 : q < 0
  · clear hq
    go_enter Tryd.func3, Tryd.ntmps3
    go_wp2
    go_ret
    exact ⟨rfl, Below.refl _ _⟩
  · have h3 : 3 < q := by omega
    clear hq
    go_enter Tryd.func3, Tryd.ntmps3
    go_wp2
    go_ret
    exact ⟨rfl, Below.refl _ _⟩

set_option maxHeartbeats 4000000 in
theorem fullMatrix_far (sx sy dx dy x y : Nat) (k : Nat) (hk : k < 4) (w : World)
    (HC : Hid (∀ (b cap n : Nat) (t : TypeId) (w : World), b = w.heap.size → n = 6 →
      Calls Tryd.prog 4 #[.slice (some ⟨b, 0, none⟩) n cap] (w.alloc (.cells #[.float .f64 sx, .float .f64 sy, .float .f64 dx, .float .f64 dy, .float .f64 x, .float .f64 y] t)) fun e w' => e = .returned (.bool false) ∧ w.alloc (.cells #[.float .f64 sx, .float .f64 sy, .float .f64 dx, .float .f64 dy, .float .f64 x, .float .f64 y] t) = w')) :
    Calls Tryd.prog 3 #[.float .f64 sx, .float .f64 sy, .int .i64 k, .float .f64 dx, .float .f64 dy, .float .f64 x, .float .f64 y] w fun e w' => e = .returned (.bool true) ∧ Below w.heap.size w w' := by
  go_enter Tryd.func3, Tryd.ntmps3
  go_wp2_with fail
  refine (HC.out _ _ _ _ _ ?hb1 rfl).mono ?_
  case hb1 => simp
  rintro e w' ⟨rfl, rfl⟩
  go_wp2
  go_ret
  refine ⟨rfl, ?_⟩
  repeat' (first | exact Below.refl _ _ | refine Below.alloc ?_ ?_ _ | (simp; done) | (simp; omega))

set_option maxHeartbeats 4000000 in
theorem fullMatrix_in (sx sy dx dy x y : Nat) (k : Nat) (hk : k < 4) (w : World) (hI : Ident w)
    (HC : Hid (∀ (b cap n : Nat) (t : TypeId) (w : World), b = w.heap.size → n = 6 →
      Calls Tryd.prog 4 #[.slice (some ⟨b, 0, none⟩) n cap] (w.alloc (.cells #[.float .f64 sx, .float .f64 sy, .float .f64 dx, .float .f64 dy, .float .f64 x, .float .f64 y] t)) fun e w' => e = .returned (.bool true) ∧ w.alloc (.cells #[.float .f64 sx, .float .f64 sy, .float .f64 dx, .float .f64 dy, .float .f64 x, .float .f64 y] t) = w'))
    {a b d e n m : Int} (h1 : Hf sx a) (h2 : Hf sy b) (h5 : Hf dx d) (h6 : Hf dy e) (hx : Hf x n) (hy : Hf y m) :
    Calls Tryd.prog 3 #[.float .f64 sx, .float .f64 sy, .int .i64 k, .float .f64 dx, .float .f64 dy, .float .f64 x, .float .f64 y] w fun e w' => e = .returned (.bool true) ∧ Below w.heap.size w w' := by
  obtain ⟨sn, cs, s, c, sv, cv, hs, hc, bs, bc⟩ := quarter k hk
  obtain ⟨p, r, t, hcall, hl1, hl2, hr, ht⟩ := full_any h1 h2 hs hc h5 h6 hx hy bs bc
  obtain ⟨p', r', t', hcall', hl1', hl2', hr', _⟩ := full_any hf_one hf_one (s := 0) (c := 1) hf_zero hf_one hf_zero hf_zero hf_one hf_zero (by decide) (by decide)
  obtain ⟨k1, k2, k3, k4, k5, k6, e1, e2, e3, e4, e5, e6, v⟩ := side_sub h1 h2 hs hc h5 hx hy bs bc
  obtain ⟨l1, l2, l3, l4, l5, l6, f1, f2, f3, f4, f5, f6, u⟩ := side_add h1 h2 hs hc h6 hx hy bs bc
  have E1 := qu_eq hr v rfl
  have E2 := qu_eq ht u rfl
  have E3 := qu_eq hr' (qu_of_half hf_one.1) rfl
  have HK := Lib.hid hcall
  have HK' := Lib.hid hcall'
  have HL1 := Lib.hid hl1
  have HL2 := Lib.hid hl2
  have HM1 := Lib.hid hl1'
  have HM2 := Lib.hid hl2'
  have HI := Lib.hid hI
  have SV := Lib.hid sv
  have CV := Lib.hid cv
  have m1 := fun t w => run_float_arith (P := Tryd.prog) w .mul t .f64 _ _ _ e1
  have m2 := fun t w => run_float_arith (P := Tryd.prog) w .mul t .f64 _ _ _ e2
  have m3 := fun t w => run_float_arith (P := Tryd.prog) w .mul t .f64 _ _ _ e3
  have m4 := fun t w => run_float_arith (P := Tryd.prog) w .mul t .f64 _ _ _ e4
  have m5 := fun t w => run_float_arith (P := Tryd.prog) w .sub t .f64 _ _ _ e5
  have m6 := fun t w => run_float_arith (P := Tryd.prog) w .add t .f64 _ _ _ e6
  have n1 := fun t w => run_float_arith (P := Tryd.prog) w .mul t .f64 _ _ _ f1
  have n2 := fun t w => run_float_arith (P := Tryd.prog) w .mul t .f64 _ _ _ f2
  have n3 := fun t w => run_float_arith (P := Tryd.prog) w .mul t .f64 _ _ _ f3
  have n4 := fun t w => run_float_arith (P := Tryd.prog) w .mul t .f64 _ _ _ f4
  have n5 := fun t w => run_float_arith (P := Tryd.prog) w .add t .f64 _ _ _ f5
  have n6 := fun t w => run_float_arith (P := Tryd.prog) w .add t .f64 _ _ _ f6
  clear e1 e2 e3 e4 e5 e6 f1 f2 f3 f4 f5 f6 v u hr ht hr' hcall hcall' hl1 hl2 hl1' hl2' h1 h2 h5 h6 hx hy hs hc bs bc hI sv cv
  have d3 : ¬ ((3 : Int) < (k : Int)) := by omega
  have d0 : ¬ ((k : Int) < 0) := by omega
  go_enter Tryd.func3, Tryd.ntmps3
  go_wp2_with fail
  refine (HC.out _ _ _ _ _ ?hb1 rfl).mono ?_
  case hb1 => simp
  rintro e w' ⟨rfl, rfl⟩
  go_wp2_with fail
  simp only [SV.out, CV.out]
  refine (HK.out _ ?hi1).mono ?_
  case hi1 => exact Ident.alloc (Ident.alloc (Ident.alloc HI.out _) _) _
  rintro e w1 ⟨rfl, hb1⟩
  have HB1 : Hid (Below w.heap.size w w1) := by
    refine Below.trans ?_ (hb1.mono ?_)
    all_goals (repeat' (first | exact Below.refl _ _ | refine Below.alloc ?_ ?_ _ | (simp; done) | (simp; omega)))
  have HI1 : Hid (Ident w1) := Ident.below HI.out HB1.out
  clear hb1
  simp only [mval]
  go_wp2_with fail
  refine (implTransform _ _ _ _ _ _ _ _ _ _ _ _ _ HL1.out HL2.out _).mono ?_
  rintro e w2 ⟨rfl, hb2⟩
  have HB2 : Hid (Below w.heap.size w w2) := thenC HB1.out hb2
  have HI2 : Hid (Ident w2) := Ident.below HI.out HB2.out
  clear hb2
  go_wp2_with fail
  refine (HK'.out _ HI2.out).mono ?_
  rintro e w3 ⟨rfl, hb3⟩
  have HB3 : Hid (Below w.heap.size w w3) := thenC HB2.out hb3
  clear hb3
  simp only [mval]
  go_wp2_with fail
  refine (implTransform _ _ _ _ _ _ _ _ _ _ _ _ _ HM1.out HM2.out _).mono ?_
  rintro e w4 ⟨rfl, hb4⟩
  have HB4 : Hid (Below w.heap.size w w4) := thenC HB3.out hb4
  clear hb4
  go_wp2
  go_ret
  exact ⟨rfl, HB4.out⟩

theorem fullMatrix_walk (sx sy dx dy x y : Nat) (q : Int) (w : World) (hI : Ident w) :
    Calls Tryd.prog 3 #[.float .f64 sx, .float .f64 sy, .int .i64 q, .float .f64 dx, .float .f64 dy, .float .f64 x, .float .f64 y] w fun e w' => e = .returned (.bool true) ∧ Below w.heap.size w w' := by
  by_cases hq : q < 0 ∨ 3 < q
  · exact fullMatrix_out sx sy dx dy x y q w hq
  · obtain ⟨k, rfl⟩ := Int.eq_ofNat_of_zero_le (a := q) (by omega)
    have hk : k < 4 := by omega
    obtain ⟨r, hr, hcall⟩ := near_new [sx, sy, dx, dy, x, y] #[.float .f64 sx, .float .f64 sy, .float .f64 dx, .float .f64 dy, .float .f64 x, .float .f64 y] rfl (by simp)
    cases r
    · exact fullMatrix_far sx sy dx dy x y k hk w hcall
    · obtain ⟨n0, h0⟩ := hr rfl 0 (by simp)
      obtain ⟨n1, h1⟩ := hr rfl 1 (by simp)
      obtain ⟨n2, h2⟩ := hr rfl 2 (by simp)
      obtain ⟨n3, h3⟩ := hr rfl 3 (by simp)
      obtain ⟨n4, h4⟩ := hr rfl 4 (by simp)
      obtain ⟨n5, h5⟩ := hr rfl 5 (by simp)
      exact fullMatrix_in sx sy dx dy x y k hk w hI hcall (half_hf h0) (half_hf h1) (half_hf h2) (half_hf h3) (half_hf h4) (half_hf h5)
end Go.Proofs.YtmaphdfhoddnmaaDoor
