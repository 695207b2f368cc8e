/-
  The walk of FnTransform: it returns true for every input.
-/
import Derived.Test.YtmaphdfhoddnmaaMat
import Derived.Test.YtmaphdfhoddnmaaFlPlane
import Derived.Deep.DeepFit
namespace Go.Proofs.Ytmaphdfhoddnmaa
open Go.RowKit Fl

theorem lin_half {a c e x y : Nat} {na nc ne nx ny : Int} (ha : Half a na) (hc : Half c nc) (he : Half e ne) (hx : Half x nx) (hy : Half y ny) :
    ∃ r, Lin a c e x y r ∧ Qu r (nx * na + ny * nc + 2 * ne) ∧
      ∃ p q s r', floatBits .mul .f64 a x = some p ∧ floatBits .mul .f64 c y = some q ∧ floatBits .add .f64 p q = some s ∧ floatBits .add .f64 s e = some r' ∧ Qu r' (nx * na + ny * nc + 2 * ne) := by
  obtain ⟨a1, a2, ha, _⟩ := ha
  obtain ⟨c1, c2, hc, _⟩ := hc
  obtain ⟨e1, e2, he, _⟩ := he
  obtain ⟨x1, x2, hx, _⟩ := hx
  obtain ⟨y1, y2, hy, _⟩ := hy
  obtain ⟨p, k1, k2, k3⟩ := mul_half hx ha (by omega) (by omega)
  obtain ⟨q, l1, l2, l3⟩ := mul_half hy hc (by omega) (by omega)
  obtain ⟨s, m1, m2⟩ := add_qu k2 l2 (by omega)
  obtain ⟨r, n1, n2⟩ := add_qu m2 (qu_of_half he) (by omega)
  obtain ⟨p', k1', k2', k3'⟩ := mul_half ha hx (by omega) (by omega)
  obtain ⟨q', l1', l2', l3'⟩ := mul_half hc hy (by omega) (by omega)
  obtain ⟨s', m1', m2'⟩ := add_qu k2' l2' (by omega)
  obtain ⟨r', n1', n2'⟩ := add_qu m2' (qu_of_half he) (by omega)
  refine ⟨r, ⟨p, q, s, k1, l1, m1, n1⟩, n2, p', q', s', r', k1', l1', m1', n1', ?_⟩
  rw [Int.mul_comm nx na, Int.mul_comm ny nc]; exact n2'

theorem lin_one : Lin 4607182418800017408 0 0 4607182418800017408 0 4607182418800017408 :=
  ⟨4607182418800017408, 0, 4607182418800017408, by decide +kernel, by decide +kernel, by decide +kernel, by decide +kernel⟩
theorem lin_two : Lin 0 4607182418800017408 0 4607182418800017408 0 0 :=
  ⟨0, 0, 0, by decide +kernel, by decide +kernel, by decide +kernel, by decide +kernel⟩

set_option maxHeartbeats 2000000 in
theorem fnTransform_walk (a0 a1 a2 a3 a4 a5 x y : Nat) (w : World) :
    Calls Try.prog 4 #[.agg #[.float .f64 a0, .float .f64 a1, .float .f64 a2, .float .f64 a3, .float .f64 a4, .float .f64 a5], .float .f64 x, .float .f64 y] w fun e w' => e = .returned (.bool true) ∧ Below w.heap.size w w' := by
  obtain ⟨r1, hr1, hcall1⟩ := near_new [a0, a1, a2, a3, a4, a5] #[.float .f64 a0, .float .f64 a1, .float .f64 a2, .float .f64 a3, .float .f64 a4, .float .f64 a5] rfl (by simp)
  obtain ⟨r2, hr2, hcall2⟩ := near_new [x, y] #[.float .f64 x, .float .f64 y] rfl (by simp)
  have HC1 := Lib.hid hcall1
  have HC2 := Lib.hid hcall2
  clear hcall1 hcall2
  cases r1
  · clear hr1 hr2
    go_enter Try.func4, Try.ntmps4
    go_wp2_with fail
    refine (HC1.out _ _ _ _ _ ?hb1 rfl).mono ?_
    case hb1 => simp
    rintro e w' ⟨rfl, rfl⟩
    go_wp2
    go_ret
    refine ⟨rfl, ?_⟩
    repeat' (first | exact Below.refl _ _ | assumption | refine Below.drew ?_ | refine Below.alloc ?_ ?_ _ | omega | (simp; done) | (simp; omega))
  · cases r2
    · clear hr1 hr2
      go_enter Try.func4, Try.ntmps4
      go_wp2_with fail
      refine (HC1.out _ _ _ _ _ ?hb1 rfl).mono ?_
      case hb1 => simp
      rintro e w' ⟨rfl, rfl⟩
      go_wp2_with fail
      refine (HC2.out _ _ _ _ _ ?hb2 rfl).mono ?_
      case hb2 => simp
      rintro e w' ⟨rfl, rfl⟩
      go_wp2
      go_ret
      refine ⟨rfl, ?_⟩
      repeat' (first | exact Below.refl _ _ | assumption | refine Below.drew ?_ | refine Below.alloc ?_ ?_ _ | omega | (simp; done) | (simp; omega))
    · obtain ⟨n0, h0⟩ := hr1 rfl 0 (by simp)
      obtain ⟨n1, h1⟩ := hr1 rfl 1 (by simp)
      obtain ⟨n2, h2⟩ := hr1 rfl 2 (by simp)
      obtain ⟨n3, h3⟩ := hr1 rfl 3 (by simp)
      obtain ⟨n4, h4⟩ := hr1 rfl 4 (by simp)
      obtain ⟨n5, h5⟩ := hr1 rfl 5 (by simp)
      obtain ⟨nx, hx⟩ := hr2 rfl 0 (by simp)
      obtain ⟨ny, hy⟩ := hr2 rfl 1 (by simp)
      obtain ⟨r, hl1, hq1, p1, q1, s1, r', e1, e2, e3, e4, hq1'⟩ := lin_half h0 h2 h4 hx hy
      obtain ⟨t, hl2, hq2, p2, q2, s2, t', e5, e6, e7, e8, hq2'⟩ := lin_half h1 h3 h5 hx hy
      have E1 := qu_eq hq1 hq1' rfl
      have E2 := qu_eq hq2 hq2' rfl
      simp at e1 e2 e3 e4 e5 e6 e7 e8
      have k1 := fun t w => run_float_arith (P := Try.prog) w .mul t .f64 _ _ _ e1
      have k2 := fun t w => run_float_arith (P := Try.prog) w .mul t .f64 _ _ _ e2
      have k3 := fun t w => run_float_arith (P := Try.prog) w .add t .f64 _ _ _ e3
      have k4 := fun t w => run_float_arith (P := Try.prog) w .add t .f64 _ _ _ e4
      have k5 := fun t w => run_float_arith (P := Try.prog) w .mul t .f64 _ _ _ e5
      have k6 := fun t w => run_float_arith (P := Try.prog) w .mul t .f64 _ _ _ e6
      have k7 := fun t w => run_float_arith (P := Try.prog) w .add t .f64 _ _ _ e7
      have k8 := fun t w => run_float_arith (P := Try.prog) w .add t .f64 _ _ _ e8
      clear e1 e2 e3 e4 e5 e6 e7 e8 h0 h1 h2 h3 h4 h5 hx hy hq1 hq1' hq2 hq2' hr1 hr2
      have HL1 := Lib.hid hl1
      have HL2 := Lib.hid hl2
      clear hl1 hl2
      have hone : (FloatKind.f64.format.order 4607182418800017408 4607182418800017408 == some .eq) = true := by decide +kernel
      obtain ⟨W, hW⟩ : ∃ W, (w.alloc (.cells #[.float .f64 a0, .float .f64 a1, .float .f64 a2, .float .f64 a3, .float .f64 a4, .float .f64 a5] 24)).alloc (.cells #[.float .f64 x, .float .f64 y] 23) = W := ⟨_, rfl⟩
      have hsz : w.heap.size < W.heap.size := by rw [← hW]; simp; omega
      have bel : Below w.heap.size w W := by rw [← hW]; exact ((Below.refl _ _).alloc (Nat.le_refl _) _).alloc (by simp) _
      have cell : ∀ j v, #[Value.float .f64 a0, .float .f64 a1, .float .f64 a2, .float .f64 a3, .float .f64 a4, .float .f64 a5][j]? = some v → W.cell? ⟨w.heap.size, j, none⟩ = some v := by
        intro j v hv
        rw [← hW, World.cell?_alloc_past _ _ _ (by simp), World.cell?_alloc_at _ _ _ _ rfl]; exact hv
      have HW := Lib.hid hW
      have HB := Lib.hid bel
      have HC := Lib.hid cell
      clear hW bel cell
      go_enter Try.func4, Try.ntmps4
      go_wp2_with fail
      refine (HC1.out _ _ _ _ _ ?hb1 rfl).mono ?_
      case hb1 => simp
      rintro e w' ⟨rfl, rfl⟩
      go_wp2_with fail
      refine (HC2.out _ _ _ _ _ ?hb2 rfl).mono ?_
      case hb2 => simp
      rintro e w' ⟨rfl, rfl⟩
      rw [HW.out]
      have g0 := HC.out 0 _ rfl
      have g1 := HC.out 1 _ rfl
      have g2 := HC.out 2 _ rfl
      have g3 := HC.out 3 _ rfl
      have g4 := HC.out 4 _ rfl
      have g5 := HC.out 5 _ rfl
      go_wp2_with fail
      refine (affine _ _ _ _ _ _ _).mono ?_
      rintro e w1 ⟨rfl, hb1⟩
      go_wp2_with fail
      refine (implTransform _ _ _ _ _ _ _ _ _ _ _ _ _ HL1.out HL2.out _).mono ?_
      rintro e w2 ⟨rfl, hb2⟩
      go_wp2_with fail
      refine (affine _ _ _ _ _ _ _).mono ?_
      rintro e w3 ⟨rfl, hb3⟩
      go_wp2_with fail
      refine (implTransform _ _ _ _ _ _ _ _ _ _ _ _ _ lin_one lin_two _).mono ?_
      rintro e w4 ⟨rfl, hb4⟩
      have s1 := hb1.size
      have s2 := hb2.size
      have s3 := hb3.size
      have hB : Below W.heap.size W w4 := ((hb1.trans (hb2.mono (by omega))).trans (hb3.mono (by omega))).trans (hb4.mono (by omega))
      have c0 := (hB.cell (p := ⟨w.heap.size, 0, none⟩) hsz).trans g0
      have c1 := (hB.cell (p := ⟨w.heap.size, 1, none⟩) hsz).trans g1
      have c2 := (hB.cell (p := ⟨w.heap.size, 2, none⟩) hsz).trans g2
      have c3 := (hB.cell (p := ⟨w.heap.size, 3, none⟩) hsz).trans g3
      have c4 := (hB.cell (p := ⟨w.heap.size, 4, none⟩) hsz).trans g4
      have c5 := (hB.cell (p := ⟨w.heap.size, 5, none⟩) hsz).trans g5
      have HBB : Hid (Below w.heap.size w w4) := HB.out.trans (hB.mono (by omega))
      clear hb1 hb2 hb3 hb4 s1 s2 s3 hB g0 g1 g2 g3 g4 g5 hsz
      go_wp2
      go_ret
      exact ⟨rfl, HBB.out⟩
end Go.Proofs.Ytmaphdfhoddnmaa
