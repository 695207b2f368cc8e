/-
  Contracts of a rectangle's width, height, and of FitsWithin.
-/
import Derived.Test.YtmaphdfhoddnmaaRect
import Derived.Lib.QuietBelow
namespace Go.Proofs.Ytmaphdfhoddnmaa
open Go.RowKit Fl

set_option maxHeartbeats 1000000 in
theorem width (a b c d s : Nat) (h : floatBits .sub .f64 c a = some s) (w : World) : Calls Try.prog 37 #[rv a b c d] w fun e w' => e = .returned (.float .f64 s) ∧ Below w.heap.size w w' := by
  have k1 := fun t w => run_float_arith (P := Try.prog) w .sub t .f64 _ _ _ h
  clear h
  go_enter Try.func37, Try.ntmps37
  go_wp2
  go_ret
  refine ⟨rfl, ?_⟩
  repeat' (first | exact Below.refl _ _ | refine Below.alloc ?_ ?_ _ | (simp; done) | (simp; omega))

set_option maxHeartbeats 1000000 in
theorem height (a b c d s : Nat) (h : floatBits .sub .f64 d b = some s) (w : World) : Calls Try.prog 38 #[rv a b c d] w fun e w' => e = .returned (.float .f64 s) ∧ Below w.heap.size w w' := by
  have k1 := fun t w => run_float_arith (P := Try.prog) w .sub t .f64 _ _ _ h
  clear h
  go_enter Try.func38, Try.ntmps38
  go_wp2
  go_ret
  refine ⟨rfl, ?_⟩
  repeat' (first | exact Below.refl _ _ | refine Below.alloc ?_ ?_ _ | (simp; done) | (simp; omega))

theorem keepC {W w1 : World} (hb : Below W.heap.size W w1) {b o : Nat} {v : Value} (h : W.cell? ⟨b, o, none⟩ = some v) : w1.cell? ⟨b, o, none⟩ = some v :=
  (hb.cell (p := ⟨b, o, none⟩) (World.block_lt_of_cell? W _ h)).trans h

/-- Two steps, each of which leaves alone what was there before it. -/
theorem thenC {w W w1 : World} (h : Below w.heap.size w W) (hb : Below W.heap.size W w1) : Below w.heap.size w w1 := h.trans (hb.mono h.size)

set_option maxHeartbeats 4000000 in
theorem fits (a b c d g a' b' c' d' s t s' t' : Nat) (w : World) (hr : IsRect w g a' b' c' d')
    (h1 : floatBits .sub .f64 c a = some s) (h2 : floatBits .sub .f64 c' a' = some s') (h3 : floatBits .sub .f64 d b = some t) (h4 : floatBits .sub .f64 d' b' = some t')
    (q r : Bool) (l1 : (FloatKind.f64.format.order s s' == some .lt || FloatKind.f64.format.order s s' == some .eq) = q) (l2 : (FloatKind.f64.format.order t t' == some .lt || FloatKind.f64.format.order t t' == some .eq) = r) :
    Calls Try.prog 31 #[rv a b c d, .pointer (some ⟨g, 0, none⟩)] w fun e w' => e = .returned (.bool (q && r)) ∧ Below w.heap.size w w' := by
  obtain ⟨r0, r1, r2, r3⟩ := hr
  have hg : g < w.heap.size := World.block_lt_of_cell? w _ r0
  obtain ⟨W, hW⟩ : ∃ W, w.alloc (.cells #[.float .f64 a, .float .f64 b, .float .f64 c, .float .f64 d] 66) = W := ⟨_, rfl⟩
  have bel : Below w.heap.size w W := by rw [← hW]; exact (Below.refl _ _).alloc (Nat.le_refl _) _
  obtain ⟨g0, g1, g2, g3⟩ : IsRect W w.heap.size a b c d := by rw [← hW]; exact isRect_new w a b c d 66
  have k0 := cell_regrown g0
  have k1 := cell_regrown g1
  have k2 := cell_regrown g2
  have k3 := cell_regrown g3
  have z0 := cell_regrown ((bel.cell (p := ⟨g, 0, none⟩) hg).trans r0)
  have z1 := cell_regrown ((bel.cell (p := ⟨g, 1, none⟩) hg).trans r1)
  have z2 := cell_regrown ((bel.cell (p := ⟨g, 2, none⟩) hg).trans r2)
  have z3 := cell_regrown ((bel.cell (p := ⟨g, 3, none⟩) hg).trans r3)
  have HW := Lib.hid hW
  have HB := Lib.hid bel
  clear hW bel r0 r1 r2 r3 hg g0 g1 g2 g3
  have C1 := Lib.hid fun d' os => Calls.regrown_of (w := W) (d := d') (os := os) (width a b c d s h1 _)
  have C2 := Lib.hid fun d os => Calls.regrown_of (w := W) (d := d) (os := os) (width a' b' c' d' s' h2 _)
  have C3 := Lib.hid fun d' os => Calls.regrown_of (w := W) (d := d') (os := os) (height a b c d t h3 _)
  have C4 := Lib.hid fun d os => Calls.regrown_of (w := W) (d := d) (os := os) (height a' b' c' d' t' h4 _)
  clear h1 h2 h3 h4
  cases q
  · go_enter Try.func31, Try.ntmps31
    go_wp2_with fail
    rw [HW.out]
    clear HW
    refine wp_region_quiet_below (by kernel_rfl) (by kernel_rfl) ?_
    repeat (go_big_quiet_step ((first | (with_reducible exact C1.out _ _) | (with_reducible exact C2.out _ _))))
    refine wpQuiet_nil ?_
    intro _ hw'
    obtain ⟨⟨dq, osq⟩, hw''⟩ := hw'
    subst hw''
    go_wp2
    go_ret
    exact ⟨rfl, thenC HB.out (below_regrown _ dq osq)⟩
  · cases r <;>
    (go_enter Try.func31, Try.ntmps31
     go_wp2_with fail
     rw [HW.out]
     clear HW
     refine wp_region_quiet_below (by kernel_rfl) (by kernel_rfl) ?_
     repeat (go_big_quiet_step ((first | (with_reducible exact C1.out _ _) | (with_reducible exact C2.out _ _) | (with_reducible exact C3.out _ _) | (with_reducible exact C4.out _ _))))
     refine wpQuiet_nil ?_
     intro _ hw'
     obtain ⟨⟨dq, osq⟩, hw''⟩ := hw'
     subst hw''
     go_wp2
     go_ret
     exact ⟨rfl, thenC HB.out (below_regrown _ dq osq)⟩)
end Go.Proofs.Ytmaphdfhoddnmaa
