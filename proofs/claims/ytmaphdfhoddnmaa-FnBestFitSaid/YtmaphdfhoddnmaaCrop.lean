/-
  The walk of FnCropped: it returns true for every input.
-/
import Derived.Test.YtmaphdfhoddnmaaRect
namespace Go.Proofs.Ytmaphdfhoddnmaa
open Go.RowKit Fl

theorem rect_eql (a b c d a' b' c' d' : Nat) (h0 : (FloatKind.f64.format.order a a' == some .eq) = true) (h1 : (FloatKind.f64.format.order b b' == some .eq) = true)
    (h2 : (FloatKind.f64.format.order c c' == some .eq) = true) (h3 : (FloatKind.f64.format.order d d' == some .eq) = true) (w : World) :
    (binOp .eql 37 (rv a b c d) (rv a' b' c' d')).run Try.prog w = .ok (.bool true) w := by
  have e : ∀ (n : Nat) (x y : Nat) (w : World), (FloatKind.f64.format.order x y == some .eq) = true → (Op.equalIn (n + 1) 23 (.float .f64 x) (.float .f64 y)).run Try.prog w = .ok true w := by
    intro n x y w h
    simp [Op.equalIn, run_underlying Try.underlying23, Op.floatEq, h]
  have hs : Try.prog.stoodInHeld 37 = false := by kernel_rfl
  rw [run_eql_struct]
  simp [run_equalIn_agg, Program.fieldsOf, Try.underlying37, hs, Op.eqFields, go_sem, e _ a a' _ h0, e _ b b' _ h1, e _ c c' _ h2, e _ d d' _ h3]
set_option maxHeartbeats 2000000 in
theorem fnCropped_walk (a b c d m : Nat) (w : World) :
    Calls Try.prog 6 #[rv a b c d, .float .f64 m] w fun e w' => e = .returned (.bool true) ∧ Below w.heap.size w w' := by
  obtain ⟨r1, hr1, hcall1⟩ := plain_any a b c d
  obtain ⟨r2, hr2, hcall2⟩ := near_new [m] #[.float .f64 m] rfl (by simp)
  have HP := Lib.hid hcall1
  have HC := Lib.hid hcall2
  clear hcall1 hcall2
  obtain ⟨W, hW⟩ : ∃ W, w.alloc (.cells #[.float .f64 a, .float .f64 b, .float .f64 c, .float .f64 d] 37) = W := ⟨_, rfl⟩
  have hsz : w.heap.size < W.heap.size := by rw [← hW]; simp
  have bel : Below w.heap.size w W := by rw [← hW]; exact (Below.refl _ _).alloc (Nat.le_refl _) _
  obtain ⟨g0, g1, g2, g3⟩ : IsRect W w.heap.size a b c d := by rw [← hW]; exact isRect_new w a b c d 37
  have HW := Lib.hid hW
  have HB := Lib.hid bel
  clear hW bel
  cases r1
  · clear hr1 hr2
    go_enter Try.func6, Try.ntmps6
    go_wp2_with fail
    refine (HP.out _).mono ?_
    rintro e w1 ⟨rfl, hb1⟩
    rw [HW.out] at hb1
    have s1 := hb1.size
    have hB : Hid (Below w.heap.size w w1) := HB.out.trans (hb1.mono (by omega))
    have c0 := (hb1.cell (p := ⟨w.heap.size, 0, none⟩) hsz).trans g0
    have c1 := (hb1.cell (p := ⟨w.heap.size, 1, none⟩) hsz).trans g1
    have c2 := (hb1.cell (p := ⟨w.heap.size, 2, none⟩) hsz).trans g2
    have c3 := (hb1.cell (p := ⟨w.heap.size, 3, none⟩) hsz).trans g3
    have hs1 : w.heap.size < w1.heap.size := by omega
    clear hb1 s1 g0 g1 g2 g3 hsz
    go_wp2
    go_ret
    refine ⟨rfl, ?_⟩
    refine Below.trans hB.out ?_
    repeat' (first | exact Below.refl _ _ | refine Below.alloc ?_ ?_ _ | omega | (simp; done) | (simp; omega))
  obtain ⟨n0, n1, n2, n3, h0, h1, h2, h3, hx, hy⟩ := hr1 rfl
  cases r2
  · clear hr1 hr2 h0 h1 h2 h3 hx hy
    go_enter Try.func6, Try.ntmps6
    go_wp2_with fail
    refine (HP.out _).mono ?_
    rintro e w1 ⟨rfl, hb1⟩
    rw [HW.out] at hb1
    have s1 := hb1.size
    have hB : Hid (Below w.heap.size w w1) := HB.out.trans (hb1.mono (by omega))
    have c0 := (hb1.cell (p := ⟨w.heap.size, 0, none⟩) hsz).trans g0
    have c1 := (hb1.cell (p := ⟨w.heap.size, 1, none⟩) hsz).trans g1
    have c2 := (hb1.cell (p := ⟨w.heap.size, 2, none⟩) hsz).trans g2
    have c3 := (hb1.cell (p := ⟨w.heap.size, 3, none⟩) hsz).trans g3
    have hs1 : w.heap.size < w1.heap.size := by omega
    clear hb1 s1 g0 g1 g2 g3 hsz
    go_wp2_with fail
    refine (HC.out _ _ _ _ _ ?hb rfl).mono ?_
    case hb => simp
    rintro e w' ⟨rfl, rfl⟩
    go_wp2
    go_ret
    refine ⟨rfl, ?_⟩
    refine Below.trans hB.out ?_
    repeat' (first | exact Below.refl _ _ | refine Below.alloc ?_ ?_ _ | omega | (simp; done) | (simp; omega))
  obtain ⟨nm, hm⟩ := hr2 rfl 0 (by simp)
  simp at hm
  clear hr1 hr2
  obtain ⟨a1, a2, ha, _⟩ := h0
  obtain ⟨b1, b2, hb, _⟩ := h1
  obtain ⟨c1, c2, hc, _⟩ := h2
  obtain ⟨d1, d2, hd, _⟩ := h3
  obtain ⟨m1, m2, hm, _⟩ := hm
  have hz : Qu 0 0 := by
    unfold Qu
    have : ((0 : Int) : Rat) / 4 = 0 := by decide +kernel
    rw [this]; exact v_zero
  have t1 := qu_lss (qu_of_half hm) hz
  by_cases hneg : 2 * nm < 0
  · rw [decide_eq_true hneg] at t1
    clear ha hb hc hd hm hz
    go_enter Try.func6, Try.ntmps6
    go_wp2_with fail
    refine (HP.out _).mono ?_
    rintro e w1 ⟨rfl, hb1⟩
    rw [HW.out] at hb1
    have s1 := hb1.size
    have hB : Hid (Below w.heap.size w w1) := HB.out.trans (hb1.mono (by omega))
    have c0 := (hb1.cell (p := ⟨w.heap.size, 0, none⟩) hsz).trans g0
    have c1 := (hb1.cell (p := ⟨w.heap.size, 1, none⟩) hsz).trans g1
    have c2 := (hb1.cell (p := ⟨w.heap.size, 2, none⟩) hsz).trans g2
    have c3 := (hb1.cell (p := ⟨w.heap.size, 3, none⟩) hsz).trans g3
    have hs1 : w.heap.size < w1.heap.size := by omega
    clear hb1 s1 g0 g1 g2 g3 hsz
    go_wp2_with fail
    refine (HC.out _ _ _ _ _ ?hb rfl).mono ?_
    case hb => simp
    rintro e w' ⟨rfl, rfl⟩
    go_wp2
    go_ret
    refine ⟨rfl, ?_⟩
    refine Below.trans hB.out ?_
    repeat' (first | exact Below.refl _ _ | refine Below.alloc ?_ ?_ _ | omega | (simp; done) | (simp; omega))
  rw [decide_eq_false hneg] at t1
  have h4 : IsV 4611686018427387904 (((4 : Int) : Rat) / 2) := by
    have : ((4 : Int) : Rat) / 2 = 2 := by decide +kernel
    rw [this]; exact v_two
  obtain ⟨p, e1, hp, _⟩ := mul_half h4 hm (by decide) (by omega)
  obtain ⟨sx, e2, hsx⟩ := sub_qu (qu_of_half hc) (qu_of_half ha) (by omega)
  obtain ⟨sy, e3, hsy⟩ := sub_qu (qu_of_half hd) (qu_of_half hb) (by omega)
  have t2 := qu_gtr hp hsx
  have t3 := qu_gtr hp hsy
  have k1 := fun t w => run_float_arith (P := Try.prog) w .mul t .f64 _ _ _ e1
  have k2 := fun t w => run_float_arith (P := Try.prog) w .sub t .f64 _ _ _ e2
  have k3 := fun t w => run_float_arith (P := Try.prog) w .sub t .f64 _ _ _ e3
  obtain ⟨a', e4, ha'⟩ := add_qu (qu_of_half ha) (qu_of_half hm) (by omega)
  obtain ⟨b', e5, hb'⟩ := add_qu (qu_of_half hb) (qu_of_half hm) (by omega)
  obtain ⟨c', e6, hc'⟩ := sub_qu (qu_of_half hc) (qu_of_half hm) (by omega)
  obtain ⟨d', e7, hd'⟩ := sub_qu (qu_of_half hd) (qu_of_half hm) (by omega)
  have HK := Lib.hid (cropped a b c d m a' b' c' d' e4 e5 e6 e7)
  have HQ := Lib.hid (rect_eql a' b' c' d' a' b' c' d' (qu_eq ha' ha' rfl) (qu_eq hb' hb' rfl) (qu_eq hc' hc' rfl) (qu_eq hd' hd' rfl))
  have k4 := fun t w => run_float_arith (P := Try.prog) w .add t .f64 _ _ _ e4
  have k5 := fun t w => run_float_arith (P := Try.prog) w .add t .f64 _ _ _ e5
  have k6 := fun t w => run_float_arith (P := Try.prog) w .sub t .f64 _ _ _ e6
  have k7 := fun t w => run_float_arith (P := Try.prog) w .sub t .f64 _ _ _ e7
  clear e1 e2 e3 e4 e5 e6 e7 ha hb hc hd hm hp hsx hsy hz h4 ha' hb' hc' hd' hx hy
  by_cases hbx : 2 * n2 - 2 * n0 < 4 * nm
  · rw [decide_eq_true hbx] at t2
    clear t3 k3 k4 k5 k6 k7
    go_enter Try.func6, Try.ntmps6
    go_wp2_with fail
    refine (HP.out _).mono ?_
    rintro e w1 ⟨rfl, hb1⟩
    rw [HW.out] at hb1
    have s1 := hb1.size
    have hB : Hid (Below w.heap.size w w1) := HB.out.trans (hb1.mono (by omega))
    have c0 := (hb1.cell (p := ⟨w.heap.size, 0, none⟩) hsz).trans g0
    have c1 := (hb1.cell (p := ⟨w.heap.size, 1, none⟩) hsz).trans g1
    have c2 := (hb1.cell (p := ⟨w.heap.size, 2, none⟩) hsz).trans g2
    have c3 := (hb1.cell (p := ⟨w.heap.size, 3, none⟩) hsz).trans g3
    have hs1 : w.heap.size < w1.heap.size := by omega
    clear hb1 s1 g0 g1 g2 g3 hsz
    go_wp2_with fail
    refine (HC.out _ _ _ _ _ ?hb rfl).mono ?_
    case hb => simp
    rintro e w' ⟨rfl, rfl⟩
    go_wp2
    go_ret
    refine ⟨rfl, ?_⟩
    refine Below.trans hB.out ?_
    repeat' (first | exact Below.refl _ _ | refine Below.alloc ?_ ?_ _ | omega | (simp; done) | (simp; omega))
  rw [decide_eq_false hbx] at t2
  by_cases hby : 2 * n3 - 2 * n1 < 4 * nm
  · rw [decide_eq_true hby] at t3
    clear k4 k5 k6 k7
    go_enter Try.func6, Try.ntmps6
    go_wp2_with fail
    refine (HP.out _).mono ?_
    rintro e w1 ⟨rfl, hb1⟩
    rw [HW.out] at hb1
    have s1 := hb1.size
    have hB : Hid (Below w.heap.size w w1) := HB.out.trans (hb1.mono (by omega))
    have c0 := (hb1.cell (p := ⟨w.heap.size, 0, none⟩) hsz).trans g0
    have c1 := (hb1.cell (p := ⟨w.heap.size, 1, none⟩) hsz).trans g1
    have c2 := (hb1.cell (p := ⟨w.heap.size, 2, none⟩) hsz).trans g2
    have c3 := (hb1.cell (p := ⟨w.heap.size, 3, none⟩) hsz).trans g3
    have hs1 : w.heap.size < w1.heap.size := by omega
    clear hb1 s1 g0 g1 g2 g3 hsz
    go_wp2_with fail
    refine (HC.out _ _ _ _ _ ?hb rfl).mono ?_
    case hb => simp
    rintro e w' ⟨rfl, rfl⟩
    go_wp2
    go_ret
    refine ⟨rfl, ?_⟩
    refine Below.trans hB.out ?_
    repeat' (first | exact Below.refl _ _ | refine Below.alloc ?_ ?_ _ | omega | (simp; done) | (simp; omega))
  rw [decide_eq_false hby] at t3
  clear hneg hbx hby a1 a2 b1 b2 c1 c2 d1 d2 m1 m2
  go_enter Try.func6, Try.ntmps6
  go_wp2_with fail
  refine (HP.out _).mono ?_
  rintro e w1 ⟨rfl, hb1⟩
  rw [HW.out] at hb1
  have s1 := hb1.size
  have hB : Hid (Below w.heap.size w w1) := HB.out.trans (hb1.mono (by omega))
  have c0 := (hb1.cell (p := ⟨w.heap.size, 0, none⟩) hsz).trans g0
  have c1 := (hb1.cell (p := ⟨w.heap.size, 1, none⟩) hsz).trans g1
  have c2 := (hb1.cell (p := ⟨w.heap.size, 2, none⟩) hsz).trans g2
  have c3 := (hb1.cell (p := ⟨w.heap.size, 3, none⟩) hsz).trans g3
  have hs1 : w.heap.size < w1.heap.size := by omega
  clear hb1 s1 g0 g1 g2 g3 hsz
  go_wp2_with fail
  refine (HC.out _ _ _ _ _ ?hb rfl).mono ?_
  case hb => simp
  rintro e w' ⟨rfl, rfl⟩
  go_wp2_with fail
  obtain ⟨W2, hW2⟩ : ∃ W2, w1.alloc (.cells #[.float .f64 m] 23) = W2 := ⟨_, rfl⟩
  have bel2 : Below w1.heap.size w1 W2 := by rw [← hW2]; exact (Below.refl _ _).alloc (Nat.le_refl _) _
  have z0 := (bel2.cell (p := ⟨w.heap.size, 0, none⟩) hs1).trans c0
  have z1 := (bel2.cell (p := ⟨w.heap.size, 1, none⟩) hs1).trans c1
  have z2 := (bel2.cell (p := ⟨w.heap.size, 2, none⟩) hs1).trans c2
  have z3 := (bel2.cell (p := ⟨w.heap.size, 3, none⟩) hs1).trans c3
  have hs2 : w.heap.size < W2.heap.size := by have := bel2.size; omega
  have HB2 : Hid (Below w.heap.size w W2) := hB.out.trans (bel2.mono (by omega))
  have hK1 := cropped 0 0 4616189618054758400 4616189618054758400 4607182418800017408 4607182418800017408 4607182418800017408 4613937818241073152 4613937818241073152 (by decide +kernel) (by decide +kernel) (by decide +kernel) (by decide +kernel)
  have HK1 := Lib.hid hK1
  have q1 := HQ.out
  have q2 := rect_eql 4607182418800017408 4607182418800017408 4613937818241073152 4613937818241073152 4607182418800017408 4607182418800017408 4613937818241073152 4613937818241073152 (by decide +kernel) (by decide +kernel) (by decide +kernel) (by decide +kernel)
  unfold rv at q1 q2
  clear hK1 bel2 HQ HC HP HW HB hB c0 c1 c2 c3 t1 t2 t3 k1 k2 k3 hs1
  rw [hW2]
  clear hW2
  go_region_held3 (fun w' => w'.cell? ⟨w.heap.size, 0, none⟩ = some (.float .f64 a) ∧ w'.cell? ⟨w.heap.size, 1, none⟩ = some (.float .f64 b) ∧ w'.cell? ⟨w.heap.size, 2, none⟩ = some (.float .f64 c) ∧ w'.cell? ⟨w.heap.size, 3, none⟩ = some (.float .f64 d))
    ((first
      | (go_keep; done)
      | ((try dsimp only); (repeat' apply And.intro) <;> first | (rw [hd2 _ _ (by first | omega | (simp; omega))]; first | assumption | (simp [*]; done)) | (rw [hd1 _ _ (by first | omega | (simp; omega))]; first | assumption | (simp [*]; done)))))
    (first
      | (go_at_call 17; ((with_reducible refine (HK.out _).mono ?_); rintro e w3 ⟨rfl, hb3⟩; (have hB3 : Below w.heap.size w w3 := by (refine Below.trans ?_ (hb3.mono ?_); all_goals (repeat' (first | exact HB2.out | refine Below.drew ?_ | refine Below.alloc ?_ ?_ _ | omega | (simp; done) | (simp; omega))))); obtain ⟨hd1, hf1⟩ := bcell hb3; have hz3 := hb3.size; (try simp at hz3); (have ha3 : w.heap.size < w3.heap.size := by omega)))
      | (go_at_call 17; ((with_reducible refine (HK1.out _).mono ?_); rintro e w4 ⟨rfl, hb4⟩; (have hB4 : Below w.heap.size w w4 := by (refine Below.trans ?_ (hb4.mono ?_); all_goals (repeat' (first | exact hB3 | refine Below.drew ?_ | refine Below.alloc ?_ ?_ _ | omega | (simp; done) | (simp; omega))))); obtain ⟨hd2, hf2⟩ := bcell hb4; have hz4 := hb4.size; (try simp at hz4); (have ha4 : w.heap.size < w4.heap.size := by omega))))
  go_wp2
  go_ret
  refine ⟨rfl, ?_⟩
  repeat' (first | exact hB4 | refine Below.drew ?_)
end Go.Proofs.Ytmaphdfhoddnmaa
