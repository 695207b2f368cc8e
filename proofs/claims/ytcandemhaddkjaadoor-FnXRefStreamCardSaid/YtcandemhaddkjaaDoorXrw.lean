/-
  laws.FnXRefStream: how its arguments open, and the walk in the shell's form.
-/
import Derived.Test.YtcandemhaddkjaaDoorXrl
import Derived.Test.YtcandemhaddkjaaDoorRows
import Derived.OpenShut
import Derived.ShutString
import Derived.LaidMore
import Derived.ChangeSlices
import Derived.Laws.IdiomArrays
namespace Go.Proofs.YtcandemhaddkjaaDoor.up
set_option linter.unusedVariables false
set_option linter.unusedSimpArgs false
open Go.RowKit

set_option maxRecDepth 100000 in
open Go.ChangeShapes Go.WideShapes in
/-- An argument []int reads as numbers. -/
theorem open_ints22 {H : Type} {enc : TypeId × Value → H} {W : World} {b0 : Nat} {v : Value} {d : DataW H} {ps : List MemPlace} (hval : Value.okWide Tryd.prog W .any b0 22 v) (hd : DataW.Trod enc Tryd.prog W 0 (fun _ => true) true 22 v d ps) : ∃ (N : Nat) (z : Nat → Int), xs.IntsV W v N z := by
  obtain ⟨a0, len0, cap0, rfl⟩ := okWide_slice Tryd.underlying22 hval
  obtain ⟨fuel, hf⟩ := hd
  rcases open_ints Tryd.underlying22 Tryd.underlying3 (by kernel_rfl) hf with ⟨h, _⟩ | ⟨a, len, cap, zs, h, _, hl, hm, hlen, _, hc, hw⟩
  · simp [Value.cells] at h
    obtain ⟨rfl, rfl, rfl⟩ := h
    exact ⟨0, fun _ => 0, .inl ⟨rfl, rfl⟩⟩
  · simp [Value.cells] at h
    obtain ⟨rfl, rfl, rfl⟩ := h
    rw [if_pos rfl] at hlen
    exact ⟨len0, fun i => zs.getD i 0, .inr ⟨a, cap0, rfl, hl, hm, fun i hi => hc i (by omega)⟩⟩

theorem array3 {cs : Array Value} (h : cs.size = 3) : ∃ a b c, cs = #[a, b, c] := by
  match cs, h with
  | ⟨[a, b, c]⟩, _ => exact ⟨a, b, c, rfl⟩
set_option maxRecDepth 100000 in
open Go.ChangeShapes Go.WideShapes in
/-- An argument [3]int is three numbers. -/
theorem open_iarr3 {H : Type} {enc : TypeId × Value → H} {W : World} {b0 : Nat} {v : Value} {d : DataW H} {ps : List MemPlace} (hval : Value.okWide Tryd.prog W .any b0 23 v) (hd : DataW.Trod enc Tryd.prog W 0 (fun _ => true) true 23 v d ps) : ∃ a b c : Int, v = .agg #[.int .i64 a, .int .i64 b, .int .i64 c] := by
  simp only [Value.okWide, Tryd.underlying23] at hval
  obtain ⟨cs, rfl, hsz, _⟩ := hval
  obtain ⟨c0, c1, c2, rfl⟩ := array3 (hsz.trans (by kernel_rfl))
  obtain ⟨fuel, hf⟩ := hd
  obtain ⟨y0, y1, y2, n, _, h0, h1, h2⟩ := trod_array3 Tryd.underlying23 (by kernel_rfl) hf
  obtain ⟨a, e0, _⟩ := DataW.trod_int Tryd.underlying3 h0
  obtain ⟨b, e1, _⟩ := DataW.trod_int Tryd.underlying3 h1
  obtain ⟨c, e2, _⟩ := DataW.trod_int Tryd.underlying3 h2
  simp at e0 e1 e2
  subst e0 e1 e2
  exact ⟨a, b, c, rfl⟩
end Go.Proofs.YtcandemhaddkjaaDoor.up
namespace Go.Proofs.YtcandemhaddkjaaDoor
open Go.RowKit
def fnXRefStreamTab (_ : World) : Prop := True
theorem fnXRefStream_tab {W : World} (_ : laidMetH Tryd.prog Rows.fnXRefStreamRow.laid W) : fnXRefStreamTab W := trivial
theorem fnXRefStream_walk (size : Int) (v : Value) (n : Nat) (z : Nat → Int) (a b c prev : Int) (w : World) (_ : fnXRefStreamTab w) (_ : (Lit.int .i64 size).wf = true) (hD : xs.IntsV w v n z) (_ : (Lit.int .i64 prev).wf = true) :
    Calls Tryd.prog 3 #[.int .i64 size, v, .agg #[.int .i64 a, .int .i64 b, .int .i64 c], .int .i64 prev] w fun e w' => e = .returned (.bool true) ∧ Below w.heap.size w w' := xs.law3 size v n z a b c prev w hD
end Go.Proofs.YtcandemhaddkjaaDoor
