/-
  spec.ParmsFit: where it says yes, the parameters are fit.
-/
import Derived.Test.YtmihbmjillcjaaaDoorUpm
import Derived.BigQuiet
namespace Go.Proofs.YtmihbmjillcjaaaDoor.up
set_option linter.unusedVariables false
set_option linter.unusedSimpArgs false
open Go.RowKit

def Fits (p colors bits columns : Int) : Prop := (p = 1 ∨ p = 2 ∨ (10 ≤ p ∧ p ≤ 15)) ∧ 1 ≤ colors ∧ colors ≤ 8 ∧ bits ∈ [(1 : Int), 2, 4, 8, 16] ∧ 1 ≤ columns ∧ columns ≤ 1000

noncomputable def fitB (p colors bits columns : Int) : Bool := @decide (Fits p colors bits columns) (Classical.propDecidable _)
theorem fit_yes {p colors bits columns : Int} (h : Fits p colors bits columns) : fitB p colors bits columns = true := by unfold fitB; simp [h]
theorem fit_no {p colors bits columns : Int} (h : ¬ Fits p colors bits columns) : fitB p colors bits columns = false := by unfold fitB; simp [h]

theorem fit_all {p colors bits columns : Int} (h1 : p = 1 ∨ p = 2 ∨ (10 ≤ p ∧ p ≤ 15)) (h2 : 1 ≤ colors) (h3 : colors ≤ 8) (h4 : bits ∈ [(1 : Int), 2, 4, 8, 16]) (h5 : 1 ≤ columns) (h6 : columns ≤ 1000) : fitB p colors bits columns = true := fit_yes ⟨h1, h2, h3, h4, h5, h6⟩

theorem ne_b {a b : Int} (h : a ≠ b) : (a == b) = false := by simp [h]
theorem ne_t {a b : Int} (h : a ≠ b) : (a != b) = true := by simp [h]

set_option maxHeartbeats 4000000 in
set_option maxRecDepth 100000 in
theorem fit6 (p colors bits columns early : Int) (w : World) : Calls Tryd.prog 6 #[.agg #[.int .i64 p, .int .i64 colors, .int .i64 bits, .int .i64 columns, .int .i64 early]] w fun e w' => e = .returned (.bool (fitB p colors bits columns)) ∧ Below w.heap.size w w' := by
  have hbel : Hid (∀ o, Below w.heap.size w (w.alloc o)) := Lib.hid fun o => (Below.refl _ _).alloc (Nat.le_refl _) _
  by_cases h1 : p = 1 ∨ p = 2 ∨ (10 ≤ p ∧ p ≤ 15)
  · have hP := Lib.hid h1
    go_enter Tryd.func6, Tryd.ntmps6
    rcases h1 with rfl | rfl | ⟨ha, hb⟩
    rotate_left 2
    have e1 := ne_b (show p ≠ 1 by omega)
    have e2 := ne_b (show p ≠ 2 by omega)
    have e3 := ne_t (show p ≠ 1 by omega)
    have e4 := ne_t (show p ≠ 2 by omega)
    have e5 : decide (p < 10) = false := by simp; omega
    have e6 : decide (15 < p) = false := by simp; omega
    have e7 : ¬ p < 10 := by omega
    have e8 : ¬ 15 < p := by omega
    all_goals
      rcases Int.lt_or_le colors 1 with hc | hc
      · have f1 : decide (1 ≤ colors) = false := by simp; omega
        have f2 : ¬ 1 ≤ colors := by omega
        go_wp2_with fail
        go_ret
        first | exact ⟨rfl, hbel.out _⟩ | exact ⟨by rw [fit_no fun h => absurd h.2.1 (by omega)]; rfl, hbel.out _⟩
      rcases Int.lt_or_le 8 colors with hd | hd
      · have f1 : decide (colors ≤ 8) = false := by simp; omega
        have f2 : ¬ colors ≤ 8 := by omega
        go_wp2_with fail
        go_ret
        first | exact ⟨rfl, hbel.out _⟩ | exact ⟨by rw [fit_no fun h => absurd h.2.2.1 (by omega)]; rfl, hbel.out _⟩
      have hC := Lib.hid (And.intro hc hd)
      by_cases hbt : bits ∈ [(1 : Int), 2, 4, 8, 16]
      · have hB := Lib.hid hbt
        simp at hbt
        rcases hbt with rfl | rfl | rfl | rfl | rfl
        all_goals
          rcases Int.lt_or_le columns 1 with hn | hn
          · have f1 : decide (1 ≤ columns) = false := by simp; omega
            have f2 : ¬ 1 ≤ columns := by omega
            go_wp2_with fail
            go_ret
            first | exact ⟨rfl, hbel.out _⟩ | exact ⟨by rw [fit_no fun h => absurd h.2.2.2.2.1 (by omega)]; rfl, hbel.out _⟩
          rcases Int.lt_or_le 1000 columns with hm | hm
          · have f1 : decide (columns ≤ 1000) = false := by simp; omega
            have f2 : ¬ columns ≤ 1000 := by omega
            go_wp2_with fail
            go_ret
            first | exact ⟨rfl, hbel.out _⟩ | exact ⟨by rw [fit_no fun h => absurd h.2.2.2.2.2 (by omega)]; rfl, hbel.out _⟩
          have HF := Lib.hid (fit_all hP.out hC.out.1 hC.out.2 hB.out hn hm)
          go_wp2_with fail
          go_ret
          first | exact ⟨rfl, hbel.out _⟩ | exact ⟨by rw [HF.out]; rfl, hbel.out _⟩
      · have hB := Lib.hid hbt
        simp at hbt
        have e11 := ne_b hbt.1
        have e12 := ne_b hbt.2.1
        have e13 := ne_b hbt.2.2.1
        have e14 := ne_b hbt.2.2.2.1
        have e15 := ne_b hbt.2.2.2.2
        go_wp2_with fail
        go_ret
        first | exact ⟨rfl, hbel.out _⟩ | exact ⟨by rw [fit_no fun h => absurd h.2.2.2.1 hB.out]; rfl, hbel.out _⟩
  · have hP := Lib.hid h1
    go_enter Tryd.func6, Tryd.ntmps6
    have e1 := ne_b (show p ≠ 1 by omega)
    have e2 := ne_b (show p ≠ 2 by omega)
    have e3 := ne_t (show p ≠ 1 by omega)
    have e4 := ne_t (show p ≠ 2 by omega)
    rcases Int.lt_or_le p 10 with ha | ha
    · go_wp2_with fail
      go_ret
      first | exact ⟨rfl, hbel.out _⟩ | exact ⟨by rw [fit_no fun h => absurd h.1 hP.out]; rfl, hbel.out _⟩
    · have e5 : decide (p < 10) = false := by simp; omega
      have e6 : ¬ p < 10 := by omega
      have e7 : 15 < p := by omega
      go_wp2_with fail
      go_ret
      first | exact ⟨rfl, hbel.out _⟩ | exact ⟨by rw [fit_no fun h => absurd h.1 hP.out]; rfl, hbel.out _⟩
end Go.Proofs.YtmihbmjillcjaaaDoor.up
