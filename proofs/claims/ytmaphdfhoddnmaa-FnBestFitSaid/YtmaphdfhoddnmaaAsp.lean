/-
  Contracts of AspectRatio, ScaledHeight, ScaledWidth, Landscape, Portrait.
-/
import Derived.Test.YtmaphdfhoddnmaaWid
namespace Go.Proofs.Ytmaphdfhoddnmaa
open Go.RowKit Fl
set_option linter.unusedVariables false

set_option maxHeartbeats 4000000 in
theorem aspect (a b c d s t q : Nat) (h1 : floatBits .sub .f64 c a = some s) (h2 : floatBits .sub .f64 d b = some t) (h3 : floatBits .quo .f64 s t = some q) (w : World) :
    Calls Try.prog 42 #[rv a b c d] w fun e w' => e = .returned (.float .f64 q) ∧ Below w.heap.size w w' := by
  obtain ⟨W, hW⟩ : ∃ W, w.alloc (.cells #[.float .f64 a, .float .f64 b, .float .f64 c, .float .f64 d] 66) = W := ⟨_, rfl⟩
  have bel : Below w.heap.size w W := by rw [← hW]; exact (Below.refl _ _).alloc (Nat.le_refl _) _
  obtain ⟨g0, g1, g2, g3⟩ : IsRect W w.heap.size a b c d := by rw [← hW]; exact isRect_new w a b c d 66
  have k0 := cell_regrown g0
  have k1 := cell_regrown g1
  have k2 := cell_regrown g2
  have k3 := cell_regrown g3
  have HW := Lib.hid hW
  have HB := Lib.hid bel
  have kq := fun t w => run_float_arith (P := Try.prog) w .quo t .f64 _ _ _ h3
  clear hW bel g0 g1 g2 g3
  have C1 := Lib.hid fun d' os => Calls.regrown_of (w := W) (d := d') (os := os) (width a b c d s h1 _)
  have C2 := Lib.hid fun d' os => Calls.regrown_of (w := W) (d := d') (os := os) (height a b c d t h2 _)
  clear h1 h2 h3
  go_enter Try.func42, Try.ntmps42
  go_wp2_with fail
  rw [HW.out]
  refine wp_region_quiet_below (by kernel_rfl) (by kernel_rfl) ?_
  repeat (go_big_quiet_step ((first | (with_reducible exact C1.out _ _) | (with_reducible exact C2.out _ _))))
  refine wpQuiet_nil ?_
  intro _ hw'
  obtain ⟨⟨dq, osq⟩, hw''⟩ := hw'
  subst hw''
  go_wp2
  go_ret
  exact ⟨rfl, thenC HB.out (below_regrown _ dq osq)⟩


set_option maxHeartbeats 4000000 in
theorem landscape (a b c d s t q : Nat) (r : Bool) (h1 : floatBits .sub .f64 c a = some s) (h2 : floatBits .sub .f64 d b = some t) (h3 : floatBits .quo .f64 s t = some q) (h4 : (FloatKind.f64.format.order q 4607182418800017408 == some .gt) = r) (w : World) :
    Calls Try.prog 41 #[rv a b c d] w fun e w' => e = .returned (.bool r) ∧ Below w.heap.size w w' := by
  obtain ⟨W, hW⟩ : ∃ W, w.alloc (.cells #[.float .f64 a, .float .f64 b, .float .f64 c, .float .f64 d] 66) = W := ⟨_, rfl⟩
  have bel : Below w.heap.size w W := by rw [← hW]; exact (Below.refl _ _).alloc (Nat.le_refl _) _
  obtain ⟨g0, g1, g2, g3⟩ : IsRect W w.heap.size a b c d := by rw [← hW]; exact isRect_new w a b c d 66
  have HW := Lib.hid hW
  have HB := Lib.hid bel
  skip
  have C := Lib.hid (aspect a b c d s t q h1 h2 h3)
  clear hW bel h1 h2 h3
  go_enter Try.func41, Try.ntmps41
  go_wp2_with fail
  try rw [HW.out]
  refine (C.out _).mono ?_
  rintro e w1 ⟨rfl, hb1⟩
  have HB1 : Hid (Below w.heap.size w w1) := thenC HB.out hb1
  clear hb1
  go_wp2
  go_ret
  exact ⟨rfl, HB1.out⟩


set_option maxHeartbeats 4000000 in
theorem portrait (a b c d s t q : Nat) (r : Bool) (h1 : floatBits .sub .f64 c a = some s) (h2 : floatBits .sub .f64 d b = some t) (h3 : floatBits .quo .f64 s t = some q) (h4 : (FloatKind.f64.format.order q 4607182418800017408 == some .lt) = r) (w : World) :
    Calls Try.prog 45 #[rv a b c d] w fun e w' => e = .returned (.bool r) ∧ Below w.heap.size w w' := by
  obtain ⟨W, hW⟩ : ∃ W, w.alloc (.cells #[.float .f64 a, .float .f64 b, .float .f64 c, .float .f64 d] 66) = W := ⟨_, rfl⟩
  have bel : Below w.heap.size w W := by rw [← hW]; exact (Below.refl _ _).alloc (Nat.le_refl _) _
  obtain ⟨g0, g1, g2, g3⟩ : IsRect W w.heap.size a b c d := by rw [← hW]; exact isRect_new w a b c d 66
  have HW := Lib.hid hW
  have HB := Lib.hid bel
  skip
  have C := Lib.hid (aspect a b c d s t q h1 h2 h3)
  clear hW bel h1 h2 h3
  go_enter Try.func45, Try.ntmps45
  go_wp2_with fail
  try rw [HW.out]
  refine (C.out _).mono ?_
  rintro e w1 ⟨rfl, hb1⟩
  have HB1 : Hid (Below w.heap.size w w1) := thenC HB.out hb1
  clear hb1
  go_wp2
  go_ret
  exact ⟨rfl, HB1.out⟩


set_option maxHeartbeats 4000000 in
theorem scaledHeight (a b c d s t q x z : Nat) (h1 : floatBits .sub .f64 c a = some s) (h2 : floatBits .sub .f64 d b = some t) (h3 : floatBits .quo .f64 s t = some q) (h4 : floatBits .quo .f64 x q = some z) (w : World) :
    Calls Try.prog 43 #[rv a b c d, .float .f64 x] w fun e w' => e = .returned (.float .f64 z) ∧ Below w.heap.size w w' := by
  obtain ⟨W, hW⟩ : ∃ W, w.alloc (.cells #[.float .f64 a, .float .f64 b, .float .f64 c, .float .f64 d] 66) = W := ⟨_, rfl⟩
  have bel : Below w.heap.size w W := by rw [← hW]; exact (Below.refl _ _).alloc (Nat.le_refl _) _
  obtain ⟨g0, g1, g2, g3⟩ : IsRect W w.heap.size a b c d := by rw [← hW]; exact isRect_new w a b c d 66
  have HW := Lib.hid hW
  have HB := Lib.hid bel
  have kz := fun t w => run_float_arith (P := Try.prog) w .quo t .f64 _ _ _ h4
  have C := Lib.hid (aspect a b c d s t q h1 h2 h3)
  clear hW bel h1 h2 h3
  go_enter Try.func43, Try.ntmps43
  go_wp2_with fail
  try rw [HW.out]
  refine (C.out _).mono ?_
  rintro e w1 ⟨rfl, hb1⟩
  have HB1 : Hid (Below w.heap.size w w1) := thenC HB.out hb1
  clear hb1
  go_wp2
  go_ret
  exact ⟨rfl, HB1.out⟩


set_option maxHeartbeats 4000000 in
theorem scaledWidth (a b c d s t q x z : Nat) (h1 : floatBits .sub .f64 c a = some s) (h2 : floatBits .sub .f64 d b = some t) (h3 : floatBits .quo .f64 s t = some q) (h4 : floatBits .mul .f64 q x = some z) (w : World) :
    Calls Try.prog 44 #[rv a b c d, .float .f64 x] w fun e w' => e = .returned (.float .f64 z) ∧ Below w.heap.size w w' := by
  obtain ⟨W, hW⟩ : ∃ W, w.alloc (.cells #[.float .f64 a, .float .f64 b, .float .f64 c, .float .f64 d] 66) = W := ⟨_, rfl⟩
  have bel : Below w.heap.size w W := by rw [← hW]; exact (Below.refl _ _).alloc (Nat.le_refl _) _
  obtain ⟨g0, g1, g2, g3⟩ : IsRect W w.heap.size a b c d := by rw [← hW]; exact isRect_new w a b c d 66
  have HW := Lib.hid hW
  have HB := Lib.hid bel
  have kz := fun t w => run_float_arith (P := Try.prog) w .mul t .f64 _ _ _ h4
  have C := Lib.hid (aspect a b c d s t q h1 h2 h3)
  clear hW bel h1 h2 h3
  go_enter Try.func44, Try.ntmps44
  go_wp2_with fail
  try rw [HW.out]
  refine (C.out _).mono ?_
  rintro e w1 ⟨rfl, hb1⟩
  have HB1 : Hid (Below w.heap.size w w1) := thenC HB.out hb1
  clear hb1
  go_wp2
  go_ret
  exact ⟨rfl, HB1.out⟩

end Go.Proofs.Ytmaphdfhoddnmaa
