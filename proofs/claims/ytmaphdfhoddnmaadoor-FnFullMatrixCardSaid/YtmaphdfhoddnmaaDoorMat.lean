/-
  Contracts of the matrix functions: NewPoint, (Matrix).Transform, impl.Transform, affine.
-/
import Derived.Test.YtmaphdfhoddnmaaDoorNear
import Derived.Deep.RegionWith
import Derived.Deep.RegionHeld3
namespace Go.Proofs.YtmaphdfhoddnmaaDoor
open Go.RowKit

theorem bcell {W w1 : World} (hb : Below W.heap.size W w1) : (∀ b o, b < W.heap.size → w1.cell? ⟨b, o, none⟩ = W.cell? ⟨b, o, none⟩) ∧ (∀ b o, b < W.heap.size → w1.frozen? ⟨b, o, none⟩ = W.frozen? ⟨b, o, none⟩) :=
  ⟨fun b o h => hb.cell (p := ⟨b, o, none⟩) h, fun b o h => hb.frozen (p := ⟨b, o, none⟩) h⟩

set_option maxHeartbeats 400000 in
theorem newPoint (x y : Nat) (w : World) : Calls Tryd.prog 8 #[.float .f64 x, .float .f64 y] w fun e w' => e = .returned (.agg #[.float .f64 x, .float .f64 y]) ∧ Below w.heap.size w w' := by
  go_enter Tryd.func8, Tryd.ntmps8
  go_wp2
  refine bodyPost_ret (v := .agg #[.float .f64 x, .float .f64 y]) (by simp [results, Tryd.results8, go_sem]) rfl ⟨rfl, ?_⟩
  exact ((Below.refl _ _).alloc (Nat.le_refl _) _)

/-- One coordinate: a * x + c * y + e, rounded thrice. -/
def Lin (a c e x y r : Nat) : Prop := ∃ p q s, floatBits .mul .f64 x a = some p ∧ floatBits .mul .f64 y c = some q ∧ floatBits .add .f64 p q = some s ∧ floatBits .add .f64 s e = some r

set_option maxHeartbeats 1000000 in
theorem transform (a b z c d z' e f o x y r s : Nat) (hr : Lin a c e x y r) (hs : Lin b d f x y s) (w : World) :
    Calls Tryd.prog 7 #[.agg #[.float .f64 a, .float .f64 b, .float .f64 z, .float .f64 c, .float .f64 d, .float .f64 z', .float .f64 e, .float .f64 f, .float .f64 o], .agg #[.float .f64 x, .float .f64 y]] w
      fun e w' => e = .returned (.agg #[.float .f64 r, .float .f64 s]) ∧ Below w.heap.size w w' := by
  obtain ⟨p1, q1, s1, h1, h2, h3, h4⟩ := hr
  obtain ⟨p2, q2, s2, h5, h6, h7, h8⟩ := hs
  have k1 := fun t w => run_float_arith (P := Tryd.prog) w .mul t .f64 _ _ _ h1
  have k2 := fun t w => run_float_arith (P := Tryd.prog) w .mul t .f64 _ _ _ h2
  have k3 := fun t w => run_float_arith (P := Tryd.prog) w .add t .f64 _ _ _ h3
  have k4 := fun t w => run_float_arith (P := Tryd.prog) w .add t .f64 _ _ _ h4
  have k5 := fun t w => run_float_arith (P := Tryd.prog) w .mul t .f64 _ _ _ h5
  have k6 := fun t w => run_float_arith (P := Tryd.prog) w .mul t .f64 _ _ _ h6
  have k7 := fun t w => run_float_arith (P := Tryd.prog) w .add t .f64 _ _ _ h7
  have k8 := fun t w => run_float_arith (P := Tryd.prog) w .add t .f64 _ _ _ h8
  clear h1 h2 h3 h4 h5 h6 h7 h8
  go_enter Tryd.func7, Tryd.ntmps7
  go_wp2
  refine bodyPost_ret (v := .agg #[.float .f64 r, .float .f64 s]) (by simp [results, Tryd.results7, go_sem]) rfl ⟨rfl, ?_⟩
  repeat' (first | exact Below.refl _ _ | refine Below.alloc ?_ ?_ _ | (simp; done) | (simp; omega))

set_option maxHeartbeats 1000000 in
theorem implTransform (a b z c d z' e f o x y r s : Nat) (hr : Lin a c e x y r) (hs : Lin b d f x y s) (w : World) :
    Calls Tryd.prog 5 #[.agg #[.float .f64 a, .float .f64 b, .float .f64 z, .float .f64 c, .float .f64 d, .float .f64 z', .float .f64 e, .float .f64 f, .float .f64 o], .float .f64 x, .float .f64 y] w
      fun e w' => e = .returned (.tuple #[.float .f64 r, .float .f64 s]) ∧ Below w.heap.size w w' := by
  go_enter Tryd.func5, Tryd.ntmps5
  go_wp2_with fail
  go_region_with (first | (go_at_call 8; refine (newPoint _ _ _).mono ?_; rintro e' w1 ⟨rfl, hb1⟩; obtain ⟨hc1, hf1⟩ := bcell hb1; (have hB1 : Below w.heap.size w w1 := by (refine Below.trans ?_ (hb1.mono ?_); all_goals (repeat' (first | exact Below.refl _ _ | assumption | refine Below.drew ?_ | refine Below.alloc ?_ ?_ _ | omega | (simp; done) | (simp; omega))))); have hz1 := hb1.size; (try simp at hz1); (have ha1 : w.heap.size < w1.heap.size := by omega); (have hn1 : ¬ w.heap.size = w1.heap.size := by omega); (have hm1 : ¬ w1.heap.size = w.heap.size := by omega); (try have hd1 : w.heap.size + 1 < w1.heap.size := by omega)) | (go_at_call 7; refine (transform a b z c d z' e f o x y r s hr hs _).mono ?_; rintro e' w2 ⟨rfl, hb2⟩; obtain ⟨hc2, hf2⟩ := bcell hb2; (have hB2 : Below w.heap.size w w2 := by (refine Below.trans ?_ (hb2.mono ?_); all_goals (repeat' (first | exact Below.refl _ _ | assumption | refine Below.drew ?_ | refine Below.alloc ?_ ?_ _ | omega | (simp; done) | (simp; omega))))); have hz2 := hb2.size; (try simp at hz2); (have ha2 : w.heap.size < w2.heap.size := by omega); (have hn2 : ¬ w.heap.size = w2.heap.size := by omega); (have hm2 : ¬ w2.heap.size = w.heap.size := by omega); (try have hd2 : w.heap.size + 1 < w2.heap.size := by omega)))
  all_goals
    go_wp2
    go_quiet (fail)
    go_wp2
    go_ret2
    refine ⟨rfl, ?_⟩
    refine below_drewN ?_ _
    repeat' (first | exact Below.refl _ _ | assumption | refine Below.drew ?_ | refine Below.alloc ?_ ?_ _ | refine Below.setCell ?_ ?_ _ | omega | (simp; done) | (simp; omega))
end Go.Proofs.YtmaphdfhoddnmaaDoor
