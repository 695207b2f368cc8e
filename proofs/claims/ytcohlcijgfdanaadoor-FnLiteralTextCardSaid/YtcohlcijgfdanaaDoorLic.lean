/-
  FnLiteralText: the state of the reader of literal strings.
-/
import Derived.Test.YtcohlcijgfdanaaDoorLib
namespace Go.Proofs.YtcohlcijgfdanaaDoor.lt
open Go.RowKit
open Go.Proofs.YtcohlcijgfdanaaDoor.esc (RS own_set)

structure LS (g : Nat) (T : ByteArray) (n : Nat) (v : Value) (out : List UInt8) (w wr : World) : Prop where
  rs : RS g T n wr
  own : wr.ownsRow w.heap.size 5 1 v out.length (Lib.byteCells out)
  bel : Below g w wr
  e5 : wr.cell? ⟨g, 5, none⟩ = some (.bool false)
  f5 : wr.frozen? ⟨g, 5, none⟩ = false
  f2 : wr.frozen? ⟨g, 2, none⟩ = false
  gw : g < w.heap.size

theorem LS.draws {g n : Nat} {T : ByteArray} {v : Value} {out : List UInt8} {w wr : World} (h : LS g T n v out w wr) (k : Nat) : LS g T n v out w (wr.drewN k) :=
  ⟨RS.on h.rs rfl, h.own, ⟨h.bel.os, h.bel.tape, h.bel.output, h.bel.size, h.bel.block⟩, h.e5, h.f5, h.f2, h.gw⟩
theorem LS.set {g n : Nat} {T : ByteArray} {v : Value} {out : List UInt8} {w wr : World} (h : LS g T n v out w wr) (m : Nat) : LS g T m v out w (wr.setCell ⟨g, 1, none⟩ (.int .i64 (m : Int))) :=
  ⟨RS.step h.rs, own_set h.own h.gw, h.bel.setCell (p := ⟨g, 1, none⟩) (Nat.le_refl _) _, (World.cell?_setCell_other _ _ _ _ (by simp)).trans h.e5, by have := h.f5; simpa [go_sem] using this, by have := h.f2; simpa [go_sem] using this, h.gw⟩
theorem LS.gs {g n m : Nat} {T : ByteArray} {v : Value} {out : List UInt8} {w wr w' : World} (h : LS g T n v out w wr) (hg : GS g wr w') (hr : RS g T m w') : LS g T m v out w w' where
  rs := hr
  own := h.own.kept hg.1 (by
    by_cases hv : v.ownBlock = none
    · exact Or.inl hv
    · exact Or.inr fun e => by have := (h.own.lt g e).1; have := h.gw; omega)
  bel := ⟨hg.1.os.trans h.bel.os, hg.1.tape.trans h.bel.tape, hg.1.output.trans h.bel.output, Nat.le_trans h.bel.size hg.1.size, fun k hk => (hg.1.block k (by have := h.bel.size; have := h.gw; omega) (fun e => by simp at e; omega)).trans (h.bel.block k hk)⟩
  e5 := (hg.2.1 5 (by decide)).trans h.e5
  f5 := (hg.2.2 5).trans h.f5
  f2 := (hg.2.2 2).trans h.f2
  gw := h.gw
theorem LS.app {g n : Nat} {T : ByteArray} {v v2 : Value} {out : List UInt8} {c : UInt8} {w W w2 : World} (h : LS g T n v out w W) (hown : w2.ownsRow w.heap.size 5 1 v2 (out.length + 1) (Lib.byteCells out ++ [.int .u8 (c.toNat : Int)])) (hg : (W.alloc (.cells #[.int .u8 (c.toNat : Int)] 5)).grownBy w2 v.ownBlock) : LS g T n v2 (out ++ [c]) w w2 := by
  have hb : w2.heap[g]? = W.heap[g]? := by
    rw [hg.block g (by simp; exact Nat.lt_succ_of_lt h.rs.lt) (fun e => by have := (h.own.lt g e.symm).1; have := h.gw; omega), Lib.alloc_old W _ g h.rs.lt]
  have hsz := h.bel.size
  exact ⟨RS.on h.rs hb, by rw [Go.Proofs.YtcohlcijgfdanaaDoor.esc.byteCells_snoc, List.length_append]; exact hown, (h.bel.alloc (by have := h.gw; omega) _).grown hg (by have := h.gw; simp; omega) (fun k hk => by have := (h.own.lt k hk).1; have := h.gw; omega),
    (World.cell?_of_block (a := ⟨g, 5, none⟩) hb).trans h.e5, (World.frozen?_of_block (a := ⟨g, 5, none⟩) hb).trans h.f5, (World.frozen?_of_block (a := ⟨g, 2, none⟩) hb).trans h.f2, h.gw⟩

theorem conv (v : Value) (l : List UInt8) (B : Nat) (W : World) (ho : W.ownsRow B 5 1 v l.length (Lib.byteCells l)) : (convert 29 9 v).run Tryd.prog W = .ok (.string (mkS l)) W := by
  rcases ho.2 with ⟨rfl, h0⟩ | ⟨g', cap, cur, rfl, -, -, -, -, -, -⟩
  · obtain rfl : l = [] := List.eq_nil_of_length_eq_zero h0
    rw [run_convert_bytes_string (P := Tryd.prog) W 29 9 5 none 0 0 Tryd.underlying29 Tryd.underlying5 Tryd.underlying9]
    rfl
  · exact run_convert_bytes_back (P := Tryd.prog) W 29 9 5 ⟨g', 0, none⟩ cap l Tryd.underlying29 Tryd.underlying5 Tryd.underlying9 (fun j hj => ho.cells (g := g') rfl j _ (by simp [Lib.byteCells, hj]))

/-- How far the reader is: ahead of all, in the text, behind all. -/
def Ph (text : List UInt8) (T : ByteArray) (n : Nat) (o : Int) (out : List UInt8) : Prop :=
  (n = 0 ∧ o = 0 ∧ out = []) ∨ (∃ pre suf, text = pre ++ suf ∧ n = 1 + pre.length ∧ 1 ≤ o ∧ o ≤ 1 + pre.length ∧ out ++ unesc suf = unesc text ∧ out.length ≤ pre.length) ∨ n = T.size
end Go.Proofs.YtcohlcijgfdanaaDoor.lt
