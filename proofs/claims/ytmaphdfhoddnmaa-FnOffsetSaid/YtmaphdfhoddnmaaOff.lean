/-
  The walk of FnOffset: it returns true for every input.
-/
import Derived.Test.YtmaphdfhoddnmaaNear
namespace Go.Proofs.Ytmaphdfhoddnmaa
open Go.RowKit

theorem neg_run (P : Program) : ∀ (x : Nat) (w : World), (Op.unary .neg (.float .f64 x)).run P w = .ok (.float .f64 (Op.negFloat .f64 x)) w := fun _ _ => rfl

theorem eq_self {b : Nat} {v : Rat} (h : Fl.IsV b v) : (FloatKind.f64.format.order b b == some .eq) = true := by
  have : (Ieee.double.order b b == some .eq) = true := by rw [Fl.eql h h]; simp
  exact this

theorem wf64 {c : Int} (h : (Lit.int .i64 c).wf = true) : -9223372036854775808 ≤ c ∧ c ≤ 9223372036854775807 := by
  simp [Lit.wf, IntKind.min, IntKind.max, IntKind.signed, IntKind.bits] at h
  omega

set_option maxHeartbeats 1000000 in
theorem fnOffset_walk (x y : Nat) (c : Int) (w : World) (hc : (Lit.int .i64 c).wf = true) : Calls Try.prog 5 #[.float .f64 x, .float .f64 y, .int .i64 c] w fun e w' => e = .returned (.bool true) ∧ Below w.heap.size w w' := by
  obtain ⟨r, hr, hcall⟩ := near_any [x, y] (by simp)
  have hn := neg_run Try.prog
  have hone : (FloatKind.f64.format.order 4607182418800017408 4607182418800017408 == some .eq) = true := by decide +kernel
  have hb := wf64 hc
  clear hc
  have hcell := cells_new [x, y] w 23
  have HC : ∀ cap, Calls Try.prog 12 #[.slice (some ⟨w.heap.size, 0, none⟩) 2 cap] (w.alloc (.cells #[.float .f64 x, .float .f64 y] 23)) fun e w' => e = .returned (.bool r) ∧ w.alloc (.cells #[.float .f64 x, .float .f64 y] 23) = w' := fun cap => hcall w.heap.size cap _ hcell
  have bel : Below w.heap.size w (w.alloc (.cells #[.float .f64 x, .float .f64 y] 23)) := (Below.refl _ _).alloc (Nat.le_refl _) _
  have HB := Lib.hid bel
  have HH := Lib.hid HC
  clear hcell hcall HC bel
  cases r
  · clear hr
    go_enter Try.func5, Try.ntmps5
    go_wp2_with fail
    refine (HH.out _).mono ?_
    rintro e w' ⟨rfl, rfl⟩
    go_wp2
    go_ret
    exact ⟨rfl, HB.out⟩
  · obtain ⟨m, _, _, hx, _⟩ := hr rfl 0 (by simp)
    obtain ⟨n, _, _, hy, _⟩ := hr rfl 1 (by simp)
    have e1 := eq_self hx
    have e2 := eq_self hy
    have e3 := eq_self (Fl.neg_val hx)
    have e4 := eq_self (Fl.neg_val hy)
    clear hr hx hy
    have E1 : (FloatKind.f64.format.order x x == some .eq) = true := e1
    have E2 : (FloatKind.f64.format.order y y == some .eq) = true := e2
    have E3 : (FloatKind.f64.format.order (Op.negFloat .f64 x) (Op.negFloat .f64 x) == some .eq) = true := e3
    have E4 : (FloatKind.f64.format.order (Op.negFloat .f64 y) (Op.negFloat .f64 y) == some .eq) = true := e4
    clear e1 e2 e3 e4
    by_cases h0 : c = 0
    · subst h0
      clear hb
      go_enter Try.func5, Try.ntmps5
      go_wp2_with fail
      refine (HH.out _).mono ?_
      rintro e w' ⟨rfl, rfl⟩
      go_wp2
      go_ret
      exact ⟨rfl, HB.out⟩
    by_cases h1 : c = 1
    · subst h1
      clear hb
      go_enter Try.func5, Try.ntmps5
      go_wp2_with fail
      refine (HH.out _).mono ?_
      rintro e w' ⟨rfl, rfl⟩
      go_wp2
      go_ret
      exact ⟨rfl, HB.out⟩
    by_cases h2 : c = 2
    · subst h2
      clear hb
      go_enter Try.func5, Try.ntmps5
      go_wp2_with fail
      refine (HH.out _).mono ?_
      rintro e w' ⟨rfl, rfl⟩
      go_wp2
      go_ret
      exact ⟨rfl, HB.out⟩
    by_cases h3 : c = 3
    · subst h3
      clear hb
      go_enter Try.func5, Try.ntmps5
      go_wp2_with fail
      refine (HH.out _).mono ?_
      rintro e w' ⟨rfl, rfl⟩
      go_wp2
      go_ret
      exact ⟨rfl, HB.out⟩
    rcases (show c < 0 ∨ 3 < c by omega) with h | h
    · clear h0 h1 h2 h3
      go_enter Try.func5, Try.ntmps5
      go_wp2_with fail
      refine (HH.out _).mono ?_
      rintro e w' ⟨rfl, rfl⟩
      go_wp2
      go_ret
      exact ⟨rfl, HB.out⟩
    · clear h0 h1 h2 h3
      go_enter Try.func5, Try.ntmps5
      go_wp2_with fail
      refine (HH.out _).mono ?_
      rintro e w' ⟨rfl, rfl⟩
      go_wp2
      go_ret
      exact ⟨rfl, HB.out⟩
end Go.Proofs.Ytmaphdfhoddnmaa
