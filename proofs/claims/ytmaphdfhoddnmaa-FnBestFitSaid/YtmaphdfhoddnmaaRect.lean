/-
  Contracts of the rectangle functions.
-/
import Derived.Test.YtmaphdfhoddnmaaNear
import Derived.Test.YtmaphdfhoddnmaaFlPlane
import Derived.Deep.RegionWith
import Derived.Deep.RegionHeld3
import Derived.Deep.DeepFit
import Derived.StillTailTactics
import Derived.BigRegion
import Derived.Laws.StructEq
namespace Go.Proofs.Ytmaphdfhoddnmaa
open Go.RowKit Fl

/-- A rectangle's four numbers as a value. -/
abbrev rv (a b c d : Nat) : Value := .agg #[.float .f64 a, .float .f64 b, .float .f64 c, .float .f64 d]
abbrev rcells (a b c d : Nat) (t : TypeId) : Obj := .cells #[.float .f64 a, .float .f64 b, .float .f64 c, .float .f64 d] t

set_option maxHeartbeats 400000 in
theorem newRectangle (a b c d : Nat) (w : World) : Calls Try.prog 36 #[.float .f64 a, .float .f64 b, .float .f64 c, .float .f64 d] w fun e w' =>
    e = .returned (.pointer (some ⟨w.heap.size, 0, none⟩)) ∧ w.alloc (rcells a b c d 66) = w' := by
  go_enter Try.func36, Try.ntmps36
  go_wp2
  go_ret
  exact ⟨rfl, rfl⟩

set_option maxHeartbeats 400000 in
theorem rectangle (a b c d : Nat) (w : World) : Calls Try.prog 29 #[rv a b c d] w fun e w' =>
    e = .returned (.pointer (some ⟨w.heap.size + 1, 0, none⟩)) ∧ (w.alloc (rcells a b c d 37)).alloc (rcells a b c d 66) = w' := by
  go_enter Try.func29, Try.ntmps29
  go_wp2_with (go_at_call 36; refine (newRectangle _ _ _ _ _).mono ?_; rintro e w' ⟨rfl, rfl⟩)
  go_ret
  exact ⟨rfl, rfl⟩

/-- The four numbers lie in block g. -/
def IsRect (w : World) (g a b c d : Nat) : Prop :=
  w.cell? ⟨g, 0, none⟩ = some (.float .f64 a) ∧ w.cell? ⟨g, 1, none⟩ = some (.float .f64 b) ∧ w.cell? ⟨g, 2, none⟩ = some (.float .f64 c) ∧ w.cell? ⟨g, 3, none⟩ = some (.float .f64 d)

set_option maxHeartbeats 1000000 in
theorem implPlain (g a b c d : Nat) (w : World) (h : IsRect w g a b c d) : Calls Try.prog 28 #[.pointer (some ⟨g, 0, none⟩)] w fun e w' =>
    e = .returned (rv a b c d) ∧ Below w.heap.size w w' := by
  obtain ⟨h0, h1, h2, h3⟩ := h
  have hg := World.block_lt_of_cell? w _ h0
  obtain ⟨W, hW⟩ : ∃ W, w.alloc (rcells 0 0 0 0 37) = W := ⟨_, rfl⟩
  have bel : Below w.heap.size w W := by rw [← hW]; exact (Below.refl _ _).alloc (Nat.le_refl _) _
  have k0 : W.cell? ⟨g, 0, none⟩ = some (.float .f64 a) := (bel.cell (p := ⟨g, 0, none⟩) hg).trans h0
  have k1 : W.cell? ⟨g, 1, none⟩ = some (.float .f64 b) := (bel.cell (p := ⟨g, 1, none⟩) hg).trans h1
  have k2 : W.cell? ⟨g, 2, none⟩ = some (.float .f64 c) := (bel.cell (p := ⟨g, 2, none⟩) hg).trans h2
  have k3 : W.cell? ⟨g, 3, none⟩ = some (.float .f64 d) := (bel.cell (p := ⟨g, 3, none⟩) hg).trans h3
  have z0 : W.cell? ⟨w.heap.size, 0, none⟩ = some (.float .f64 0) := by rw [← hW, World.cell?_alloc_at _ _ _ _ rfl]; rfl
  have z1 : W.cell? ⟨w.heap.size, 1, none⟩ = some (.float .f64 0) := by rw [← hW, World.cell?_alloc_at _ _ _ _ rfl]; rfl
  have z2 : W.cell? ⟨w.heap.size, 2, none⟩ = some (.float .f64 0) := by rw [← hW, World.cell?_alloc_at _ _ _ _ rfl]; rfl
  have z3 : W.cell? ⟨w.heap.size, 3, none⟩ = some (.float .f64 0) := by rw [← hW, World.cell?_alloc_at _ _ _ _ rfl]; rfl
  have f0 : ∀ j, W.frozen? ⟨w.heap.size, j, none⟩ = false := fun j => by rw [← hW]; exact World.frozen?_alloc_at _ _ _ _ rfl
  have y0 := f0 0
  have y1 := f0 1
  have y2 := f0 2
  have y3 := f0 3
  have HW := Lib.hid hW
  have HB := Lib.hid bel
  clear hW bel h0 h1 h2 h3 f0 hg
  go_enter Try.func28, Try.ntmps28
  go_wp2_with fail
  rw [show rcells 0 0 0 0 37 = Obj.cells #[.float .f64 0, .float .f64 0, .float .f64 0, .float .f64 0] 37 from rfl] at HW
  rw [HW.out]
  go_region
  go_wp2
  refine bodyPost_ret (v := rv a b c d) (by simp [results, Try.results28, go_sem, z0, z1, z2, z3]) rfl ⟨rfl, ?_⟩
  repeat' (first | exact Below.refl _ _ | assumption | refine Below.drew ?_ | refine Below.alloc ?_ ?_ _ | refine Below.setCell ?_ ?_ _ | exact HB.out | omega | (simp; done) | (simp; omega))
theorem le_half {a c : Nat} {n m : Int} (ha : Half a n) (hc : Half c m) : (FloatKind.f64.format.order a c == some .lt || FloatKind.f64.format.order a c == some .eq) = decide (n ≤ m) := by
  rw [qu_leq (qu_of_half ha.2.2.1) (qu_of_half hc.2.2.1)]
  congr 1
  apply propext
  omega

set_option maxHeartbeats 1000000 in
theorem plain_any (a b c d : Nat) : ∃ r : Bool, (r = true → ∃ n0 n1 n2 n3, Half a n0 ∧ Half b n1 ∧ Half c n2 ∧ Half d n3 ∧ n0 ≤ n2 ∧ n1 ≤ n3) ∧
    ∀ w, Calls Try.prog 16 #[rv a b c d] w fun e w' => e = .returned (.bool r) ∧ Below w.heap.size w w' := by
  obtain ⟨r, hr, hcall⟩ := near_new [a, b, c, d] #[.float .f64 a, .float .f64 b, .float .f64 c, .float .f64 d] rfl (by simp)
  have HC := Lib.hid hcall
  clear hcall
  cases r
  · refine ⟨false, (fun h => nomatch h), fun w => ?_⟩
    clear hr
    go_enter Try.func16, Try.ntmps16
    go_wp2_with fail
    refine (HC.out _ _ _ _ _ ?hb rfl).mono ?_
    case hb => simp
    rintro e w' ⟨rfl, rfl⟩
    go_wp2
    go_ret
    refine ⟨rfl, ?_⟩
    repeat' (first | exact Below.refl _ _ | refine Below.alloc ?_ ?_ _ | (simp; done) | (simp; omega))
  · obtain ⟨n0, h0⟩ := hr rfl 0 (by simp)
    obtain ⟨n1, h1⟩ := hr rfl 1 (by simp)
    obtain ⟨n2, h2⟩ := hr rfl 2 (by simp)
    obtain ⟨n3, h3⟩ := hr rfl 3 (by simp)
    simp at h0 h1 h2 h3
    have l1 := le_half h0 h2
    have l2 := le_half h1 h3
    refine ⟨decide (n0 ≤ n2) && decide (n1 ≤ n3), fun h => ?_, fun w => ?_⟩
    · simp at h
      exact ⟨n0, n1, n2, n3, h0, h1, h2, h3, h.1, h.2⟩
    · clear h0 h1 h2 h3 hr
      by_cases g1 : n0 ≤ n2
      · by_cases g2 : n1 ≤ n3
        · rw [decide_eq_true g1] at l1 ⊢
          rw [decide_eq_true g2] at l2 ⊢
          clear g1 g2
          go_enter Try.func16, Try.ntmps16
          go_wp2_with fail
          refine (HC.out _ _ _ _ _ ?hb rfl).mono ?_
          case hb => simp
          rintro e w' ⟨rfl, rfl⟩
          go_wp2
          go_ret
          refine ⟨rfl, ?_⟩
          repeat' (first | exact Below.refl _ _ | refine Below.alloc ?_ ?_ _ | (simp; done) | (simp; omega))
        · rw [decide_eq_true g1] at l1 ⊢
          rw [decide_eq_false g2] at l2 ⊢
          clear g1 g2
          go_enter Try.func16, Try.ntmps16
          go_wp2_with fail
          refine (HC.out _ _ _ _ _ ?hb rfl).mono ?_
          case hb => simp
          rintro e w' ⟨rfl, rfl⟩
          go_wp2
          go_ret
          refine ⟨rfl, ?_⟩
          repeat' (first | exact Below.refl _ _ | refine Below.alloc ?_ ?_ _ | (simp; done) | (simp; omega))
      · rw [decide_eq_false g1] at l1 ⊢
        clear g1 l2
        go_enter Try.func16, Try.ntmps16
        go_wp2_with fail
        refine (HC.out _ _ _ _ _ ?hb rfl).mono ?_
        case hb => simp
        rintro e w' ⟨rfl, rfl⟩
        go_wp2
        go_ret
        refine ⟨rfl, ?_⟩
        repeat' (first | exact Below.refl _ _ | refine Below.alloc ?_ ?_ _ | (simp; done) | (simp; omega))

theorem bcell {W w1 : World} (hb : Below W.heap.size W w1) : (∀ b o, b < W.heap.size → w1.cell? ⟨b, o, none⟩ = W.cell? ⟨b, o, none⟩) ∧ (∀ b o, b < W.heap.size → w1.frozen? ⟨b, o, none⟩ = W.frozen? ⟨b, o, none⟩) :=
  ⟨fun b o h => hb.cell (p := ⟨b, o, none⟩) h, fun b o h => hb.frozen (p := ⟨b, o, none⟩) h⟩

set_option maxHeartbeats 1000000 in
theorem croppedCopy (a b c d m a' b' c' d' : Nat) (ha : floatBits .add .f64 a m = some a') (hb : floatBits .add .f64 b m = some b') (hc : floatBits .sub .f64 c m = some c') (hd : floatBits .sub .f64 d m = some d') (w : World) :
    Calls Try.prog 30 #[rv a b c d, .float .f64 m] w fun e w' => e = .returned (.pointer (some ⟨w.heap.size + 1, 0, none⟩)) ∧ (w.alloc (rcells a b c d 66)).alloc (rcells a' b' c' d' 66) = w' := by
  have k1 := fun t w => run_float_arith (P := Try.prog) w .add t .f64 _ _ _ ha
  have k2 := fun t w => run_float_arith (P := Try.prog) w .add t .f64 _ _ _ hb
  have k3 := fun t w => run_float_arith (P := Try.prog) w .sub t .f64 _ _ _ hc
  have k4 := fun t w => run_float_arith (P := Try.prog) w .sub t .f64 _ _ _ hd
  clear ha hb hc hd
  go_enter Try.func30, Try.ntmps30
  go_wp2_with (go_at_call 36; refine (newRectangle _ _ _ _ _).mono ?_; rintro e w' ⟨rfl, rfl⟩)
  go_ret
  exact ⟨rfl, rfl⟩

theorem isRect_new (w : World) (a b c d : Nat) (t : TypeId) : IsRect (w.alloc (rcells a b c d t)) w.heap.size a b c d := by
  refine ⟨?_, ?_, ?_, ?_⟩ <;> (rw [World.cell?_alloc_at _ _ _ _ rfl]; rfl)

set_option maxHeartbeats 1000000 in
theorem cropped (a b c d m a' b' c' d' : Nat) (ha : floatBits .add .f64 a m = some a') (hb : floatBits .add .f64 b m = some b') (hc : floatBits .sub .f64 c m = some c') (hd : floatBits .sub .f64 d m = some d') (w : World) :
    Calls Try.prog 17 #[rv a b c d, .float .f64 m] w fun e w' => e = .returned (rv a' b' c' d') ∧ Below w.heap.size w w' := by
  go_enter Try.func17, Try.ntmps17
  go_wp2_with fail
  refine (rectangle _ _ _ _ _).mono ?_
  rintro e w1 ⟨rfl, rfl⟩
  go_wp2_with fail
  refine (croppedCopy _ _ _ _ _ _ _ _ _ ha hb hc hd _).mono ?_
  rintro e w1 ⟨rfl, rfl⟩
  go_wp2_with fail
  refine (implPlain _ a' b' c' d' _ ?h).mono ?_
  case h => exact ⟨by simp [go_sem], by simp [go_sem], by simp [go_sem], by simp [go_sem]⟩
  rintro e w1 ⟨rfl, hb1⟩
  obtain ⟨hc1, hf1⟩ := bcell hb1
  have hz : w.heap.size + 1 < w1.heap.size := by have := hb1.size; simp at this; omega
  have HB : Hid (Below w.heap.size w w1) := by
    refine Below.trans ?_ (hb1.mono ?_)
    all_goals (repeat' (first | exact Below.refl _ _ | refine Below.alloc ?_ ?_ _ | (simp; done) | (simp; omega)))
  go_wp2
  refine bodyPost_ret (v := rv a' b' c' d') (by simp [results, Try.results17, go_sem, hc1]) rfl ⟨rfl, ?_⟩
  repeat' (first | exact HB.out | refine Below.setCell ?_ ?_ _ | (simp; done) | (simp; omega))
end Go.Proofs.Ytmaphdfhoddnmaa
