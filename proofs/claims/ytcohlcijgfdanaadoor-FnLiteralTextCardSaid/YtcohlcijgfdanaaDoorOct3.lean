/-
  What FnOctal's row lists gives a value in the variable ErrSyntax.
-/
import Derived.Test.YtcohlcijgfdanaaDoorOct2
import Derived.Stop.LaidErr
import Derived.Lib.LaidTab
namespace Go.Proofs.YtcohlcijgfdanaaDoor
open Go.RowKit

theorem gSyn : Tryd.prog.globalNamed "strconv.ErrSyntax" = some 6 := by kernel_rfl
theorem star : "*" ++ "errors.errorString" = "*errors.errorString" := by decide
/-- The one row of that name. -/
theorem errTypes (u : TypeId) (h : Tryd.prog.typeName? 3 u = some "*errors.errorString") : u = 101 :=
  typeName_ptr_named (nm := "errors.errorString") (by rw [star]; kernel_rfl) (by kernel_rfl) (by decide) u (by rw [star]; exact h)

def fnOctalTab := ErrSyn
theorem fnOctal_tab {W : World} (h : laidMetH Tryd.prog Rows.fnOctalRow.laid W) : fnOctalTab W := by
  have h : laidMet Tryd.prog Rows.fnOctalRow.laid W := h
  obtain ⟨a, s, hv, _⟩ := laid_sentinel (tp := 101) (te := 103) (ts := 9) h.tail.tail.tail.tail gSyn (by kernel_rfl) Tryd.underlying37 errTypes Tryd.underlying101 Tryd.underlying103 (by kernel_rfl) (by kernel_rfl) Tryd.underlying9 (by kernel_rfl) (by kernel_rfl)
  exact ⟨_, by simpa using World.var?_cell gSyn hv 0, Or.inr ⟨_, _, rfl⟩⟩
theorem fnOctal_walk (s : ByteArray) (w : World) (h : fnOctalTab w) (_ : s.size ≤ maxLen) :
    Calls Tryd.prog 6 #[.string s] w fun e w' => e = .returned (.bool true) ∧ Below w.heap.size w w' := octal_walk s w h
end Go.Proofs.YtcohlcijgfdanaaDoor
