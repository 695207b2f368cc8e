/-
  How arguments that are floats, arrays of floats and structs of floats are opened: plain readings, over any program.
-/
import Derived.WalkKit
import Derived.ProofKit
import Derived.OpenShut
import Derived.Lib.SmallJoins
import Derived.Laws.Cover2
namespace Go.Proofs.YtoaedibfgegilaaGreatDoor.Opened
open Go.ChangeShapes Go.WideShapes Go.Joins
section
variable {H : Type} {enc : TypeId × Value → H} {P : Program} {w : World} {base : Nat} {spare : Nat → Bool} {held : Bool} {fuel : Nat} {t : TypeId} {cs : List Value} {x : DataW H × List MemPlace}

theorem trod_float {k : FloatKind} (ht : P.underlying t = some (.float k)) (h : DataW.trod enc P w base spare held fuel t cs = some x) : ∃ b, cs = [.float k b] ∧ x = (.lit (.float k b), []) ∧ (Lit.float k b).wf = true := by
  cases fuel with
  | zero => simp [DataW.trod] at h
  | succ n =>
    unfold DataW.trod at h
    rw [ht] at h
    split at h <;> simp_all

theorem array4 {cs : Array Value} (h : cs.size = 4) : ∃ a b c d, cs = #[a, b, c, d] := by
  match cs, h with
  | ⟨[a, b, c, d]⟩, _ => exact ⟨a, b, c, d, rfl⟩
theorem array6 {cs : Array Value} (h : cs.size = 6) : ∃ a b c d e f, cs = #[a, b, c, d, e, f] := by
  match cs, h with
  | ⟨[a, b, c, d, e, f]⟩, _ => exact ⟨a, b, c, d, e, f, rfl⟩

theorem farr6 {r : Reach} {b0 : Nat} {e : TypeId} {v : Value} {d : DataW H} {p : List MemPlace} (ht : P.underlying t = some (.array 6 e)) (he : P.underlying e = some (.float .f64)) (hc : P.cellsOf t = 6) (hce : P.cellsOf e = 1)
    (hv : Value.okWide P w r b0 t v) (h : DataW.Trod enc P w base spare held t v d p) :
    ∃ x0 x1 x2 x3 x4 x5 : Nat, v = .agg #[.float .f64 x0, .float .f64 x1, .float .f64 x2, .float .f64 x3, .float .f64 x4, .float .f64 x5] := by
  simp only [Value.okWide, ht] at hv
  obtain ⟨cs, rfl, hsz, _⟩ := hv
  obtain ⟨c0, c1, c2, c3, c4, c5, rfl⟩ := array6 (hsz.trans hc)
  obtain ⟨fuel, hf⟩ := h
  obtain ⟨xs, m, _, _, _, hl, hel⟩ := DataW.trod_array ht hf
  have key : ∀ i : Nat, i < 6 → ∃ b, ((Value.agg #[c0, c1, c2, c3, c4, c5]).cells.toList.drop i).take 1 = [.float .f64 b] := by
    intro i hi
    have h1 := hel i hi
    rw [hce, Nat.mul_one] at h1
    obtain ⟨y, hy⟩ : ∃ y, xs[i]? = some y := ⟨xs[i]'(by omega), List.getElem?_eq_getElem (by omega)⟩
    rw [hy] at h1
    obtain ⟨b, hb, _⟩ := trod_float he h1
    exact ⟨b, hb⟩
  obtain ⟨b0, h0⟩ := key 0 (by decide)
  obtain ⟨b1, h1⟩ := key 1 (by decide)
  obtain ⟨b2, h2⟩ := key 2 (by decide)
  obtain ⟨b3, h3⟩ := key 3 (by decide)
  obtain ⟨b4, h4⟩ := key 4 (by decide)
  obtain ⟨b5, h5⟩ := key 5 (by decide)
  simp [Value.cells] at h0 h1 h2 h3 h4 h5
  subst h0 h1 h2 h3 h4 h5
  exact ⟨b0, b1, b2, b3, b4, b5, rfl⟩

theorem rect {r : Reach} {b0 : Nat} {e : TypeId} {f0 f1 f2 f3 : Field} {v : Value} {d : DataW H} {p : List MemPlace} (hs : P.underlying t = some (.struct #[f0, f1, f2, f3])) (hone : Go.Deep.oneCellFields P #[f0, f1, f2, f3] = true) (hC : P.cellsOf t = 4)
    (he : P.underlying e = some (.float .f64)) (e0 : f0.type = e) (e1 : f1.type = e) (e2 : f2.type = e) (e3 : f3.type = e)
    (hv : Value.okWide P w r b0 t v) (h : DataW.Trod enc P w base spare held t v d p) :
    ∃ x0 x1 x2 x3 : Nat, v = .agg #[.float .f64 x0, .float .f64 x1, .float .f64 x2, .float .f64 x3] := by
  obtain ⟨c0, c1, c2, c3, y0, y1, y2, y3, n, rfl, _, _, h0, h1, h2, h3⟩ := open_agg4 hs hone hC hv h
  rw [e0] at h0
  rw [e1] at h1
  rw [e2] at h2
  rw [e3] at h3
  obtain ⟨b0, g0, _⟩ := trod_float he h0
  obtain ⟨b1, g1, _⟩ := trod_float he h1
  obtain ⟨b2, g2, _⟩ := trod_float he h2
  obtain ⟨b3, g3, _⟩ := trod_float he h3
  simp at g0 g1 g2 g3
  subst g0 g1 g2 g3
  exact ⟨b0, b1, b2, b3, rfl⟩
end
end Go.Proofs.YtoaedibfgegilaaGreatDoor.Opened
