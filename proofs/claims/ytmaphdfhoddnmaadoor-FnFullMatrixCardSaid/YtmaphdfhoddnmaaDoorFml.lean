/-
  What the row lists gives the identity in the variable's cells.
-/
import Derived.Test.YtmaphdfhoddnmaaDoorFmw
import Derived.Test.YtmaphdfhoddnmaaDoorOpen
import Derived.Lib.LaidTab
namespace Go.Proofs.YtmaphdfhoddnmaaDoor
open Go.RowKit

theorem gIdent : Tryd.prog.globalNamed "given.example/pub-foolscap/pub/pdfcpu/pkg/pdfcpu/matrix.IdentMatrix" = some 0 := by kernel_rfl
theorem gIdentType : (Tryd.prog.globals[0]?).map (·.type) = some 34 := by kernel_rfl
theorem cells27 : Tryd.prog.cellsOf 27 = 3 := by kernel_rfl
theorem cells34 : Tryd.prog.cellsOf 34 = 9 := by kernel_rfl
theorem cells22 : Tryd.prog.cellsOf 22 = 1 := by kernel_rfl

theorem list3 {α : Type} {l : List α} (h : l.length = 3) : ∃ a b c, l = [a, b, c] := by
  match l, h with
  | [a, b, c], _ => exact ⟨a, b, c, rfl⟩

section
variable {H : Type} {enc : TypeId × Value → H} {w : World} {base : Nat} {spare : Nat → Bool} {held : Bool} {fuel : Nat} {cs : List Value} {p : List MemPlace}
theorem row3 {a b c : Nat} (h : DataW.trod enc Tryd.prog w base spare held fuel 27 cs = some (.agg [.lit (.float .f64 a), .lit (.float .f64 b), .lit (.float .f64 c)], p)) : cs = [.float .f64 a, .float .f64 b, .float .f64 c] := by
  obtain ⟨xs, m, _, hx, hlen, hl, hel⟩ := DataW.trod_array Tryd.underlying27 h
  obtain ⟨c0, c1, c2, rfl⟩ := list3 (hlen.trans cells27)
  obtain ⟨x0, x1, x2, rfl⟩ := list3 hl
  simp only [cells22] at hel
  have h0 := hel 0 (by omega)
  have h1 := hel 1 (by omega)
  have h2 := hel 2 (by omega)
  simp at h0 h1 h2
  obtain ⟨b0, e0, f0, _⟩ := Opened.trod_float Tryd.underlying22 h0
  obtain ⟨b1, e1, f1, _⟩ := Opened.trod_float Tryd.underlying22 h1
  obtain ⟨b2, e2, f2, _⟩ := Opened.trod_float Tryd.underlying22 h2
  subst f0 f1 f2
  simp at hx e0 e1 e2
  obtain ⟨⟨rfl, rfl, rfl⟩, _⟩ := hx
  subst e0 e1 e2
  rfl
end

def fnFullMatrixTab := Ident
theorem fnFullMatrix_tab {W : World} (h : laidMetH Tryd.prog Rows.fnFullMatrixRow.laid W) : fnFullMatrixTab W := by
  have h : laidMet Tryd.prog Rows.fnFullMatrixRow.laid W := h
  obtain ⟨ps, ⟨g, t, cs, fuel, p, q, hg, ht, hvar, hd, _, _⟩, _⟩ := h
  obtain rfl := Option.some.inj (gIdent.symm.trans hg)
  obtain rfl := Option.some.inj (gIdentType.symm.trans ht)
  obtain ⟨xs, m, _, hx, hlen, hl, hel⟩ := DataW.trod_array Tryd.underlying34 hd
  obtain ⟨x0, x1, x2, rfl⟩ := list3 hl
  simp only [cells27] at hel
  have h0 := hel 0 (by omega)
  have h1 := hel 1 (by omega)
  have h2 := hel 2 (by omega)
  simp [Rows.laid_given_example_pub_foolscap_pub_pdfcpu_pkg_pdfcpu_matrix_IdentMatrix] at hx
  obtain ⟨⟨y0, y1, y2⟩, _⟩ := hx
  simp at h0 h1 h2
  rw [show x0 = (x0.1, x0.2) from rfl, ← y0] at h0
  rw [show x1 = (x1.1, x1.2) from rfl, ← y1] at h1
  rw [show x2 = (x2.1, x2.2) from rfl, ← y2] at h2
  have z0 := row3 h0
  have z1 := row3 h1
  have z2 := row3 h2
  have hcs : cs.toList = [.float .f64 one, .float .f64 0, .float .f64 0, .float .f64 0, .float .f64 one, .float .f64 0, .float .f64 0, .float .f64 0, .float .f64 one] := by
    rw [← List.take_append_drop 3 cs.toList, z0]
    rw [← List.take_append_drop 3 (List.drop 3 cs.toList), z1]
    have hl9 : (List.drop 3 (List.drop 3 cs.toList)).length = 3 := by rw [cells34] at hlen; simp at hlen ⊢; omega
    rw [List.drop_drop] at hl9 ⊢
    rw [← List.take_of_length_le (Nat.le_of_eq hl9), z2]
    rfl
  intro i hi
  rw [World.var?_cell gIdent hvar i]
  obtain ⟨l⟩ := cs
  simp only at hcs
  subst hcs
  match i, hi with
  | 0, _ | 1, _ | 2, _ | 3, _ | 4, _ | 5, _ | 6, _ | 7, _ | 8, _ => rfl

theorem fnFullMatrix_walk (sx sy : Nat) (q : Int) (dx dy x y : Nat) (w : World) (hI : fnFullMatrixTab w) (_ : (Lit.int .i64 q).wf = true) :
    Calls Tryd.prog 3 #[.float .f64 sx, .float .f64 sy, .int .i64 q, .float .f64 dx, .float .f64 dy, .float .f64 x, .float .f64 y] w fun e w' => e = .returned (.bool true) ∧ Below w.heap.size w w' :=
  fullMatrix_walk sx sy dx dy x y q w hI
end Go.Proofs.YtmaphdfhoddnmaaDoor
