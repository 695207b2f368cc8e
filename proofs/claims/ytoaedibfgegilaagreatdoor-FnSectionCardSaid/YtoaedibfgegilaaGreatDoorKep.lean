/-
  Worlds that differ by new blocks and by writes to some blocks.
-/
import Derived.WalkKit
import Derived.Below
import Derived.OwnWalk
import Derived.Laws.AppendOwn
import Derived.Lib.Hide
import Derived.Lib.Buffer
import Derived.Deep.OwnRows
import Derived.Deep.Draws
namespace Go.Proofs.YtoaedibfgegilaaGreatDoor
set_option linter.unusedVariables false
set_option linter.unusedSimpArgs false
open Go.RowKit

/-- New blocks, and writes to the blocks of L alone. -/
structure Kept (L : List Nat) (w w' : World) : Prop where
  os : w'.os = w.os
  tape : w'.tape = w.tape
  output : w'.output = w.output
  size : w.heap.size ≤ w'.heap.size
  block : ∀ k, k < w.heap.size → k ∉ L → w'.heap[k]? = w.heap[k]?

theorem Kept.refl (L : List Nat) (w : World) : Kept L w w := ⟨rfl, rfl, rfl, Nat.le_refl _, fun _ _ _ => rfl⟩
theorem Kept.trans {L : List Nat} {a b c : World} (h : Kept L a b) (k : Kept L b c) : Kept L a c :=
  ⟨k.os.trans h.os, k.tape.trans h.tape, k.output.trans h.output, Nat.le_trans h.size k.size, fun i hi hn => (k.block i (Nat.lt_of_lt_of_le hi h.size) hn).trans (h.block i hi hn)⟩
theorem Kept.mono {L L' : List Nat} {a b : World} (h : Kept L a b) (hl : ∀ x ∈ L, x ∈ L') : Kept L' a b := ⟨h.os, h.tape, h.output, h.size, fun i hi hn => h.block i hi (fun e => hn (hl i e))⟩
/-- What is written in new blocks counts for nothing. -/
theorem Kept.cut {L L' : List Nat} {a b : World} (h : Kept L a b) (hl : ∀ x ∈ L, x ∈ L' ∨ a.heap.size ≤ x) : Kept L' a b :=
  ⟨h.os, h.tape, h.output, h.size, fun i hi hn => h.block i hi (fun e => by rcases hl i e with h | h; exact hn h; omega)⟩
theorem Kept.alloc {L : List Nat} {a b : World} (h : Kept L a b) (o : Obj) : Kept L a (b.alloc o) :=
  h.trans ⟨rfl, rfl, rfl, by simp, fun _ hk _ => heap_alloc_old b o hk⟩
theorem Kept.setCell {L : List Nat} {a b : World} (h : Kept L a b) {p : Addr} (hp : p.block ∈ L) (v : Value) : Kept L a (b.setCell p v) :=
  h.trans ⟨rfl, rfl, rfl, by simp, fun k _ hn => Go.Deep.blk_setCell_other _ _ _ _ (fun e => hn (by rw [e]; exact hp))⟩
theorem Kept.drewN {L : List Nat} {a b : World} (h : Kept L a b) (n : Nat) : Kept L a (b.drewN n) := ⟨h.os, h.tape, h.output, h.size, h.block⟩
theorem Kept.drew {L : List Nat} {a b : World} (h : Kept L a b) : Kept L a b.drew := ⟨h.os, h.tape, h.output, h.size, h.block⟩
theorem Kept.of_grown {L : List Nat} {a b : World} {r : Nat} (h : a.grownBy b (some r)) (hr : r ∈ L) : Kept L a b := ⟨h.os, h.tape, h.output, h.size, fun k hk hn => h.block k hk (fun e => hn (by rw [Option.some.inj e]; exact hr))⟩
theorem Kept.of_below {a b : World} (h : Below a.heap.size a b) (L : List Nat) : Kept L a b := ⟨h.os, h.tape, h.output, h.size, fun k hk _ => h.block k hk⟩
theorem Kept.below {L : List Nat} {a b : World} {B : Nat} (h : Kept L a b) (hB : B ≤ a.heap.size) (hL : ∀ x ∈ L, B ≤ x) : Below B a b :=
  ⟨h.os, h.tape, h.output, h.size, fun k hk => h.block k (by omega) (fun e => by have := hL k e; omega)⟩
theorem Kept.cell {L : List Nat} {a b : World} (h : Kept L a b) {p : Addr} {v : Value} (hc : a.cell? p = some v) (hp : p.block ∉ L) : b.cell? p = some v :=
  (World.cell?_of_block (h.block _ (World.block_lt_of_cell? _ _ hc) hp)).trans hc
theorem Kept.row {L : List Nat} {a b : World} {k n : Nat} {t : TypeId} {f : Nat → Value} (h : Kept L a b) (hr : a.rowIs k t n f) (hp : k ∉ L) : b.rowIs k t n f := hr.of_block (h.block k hr.lt hp)
theorem Kept.setRow {L : List Nat} {a b : World} (h : Kept L a b) {g : Nat} (hg : g ∈ L) (c : Array Value) : Kept L a (b.setRow g c) := by
  refine h.trans ?_
  exact ⟨rfl, rfl, rfl, by simp [World.setRow], fun k _ hn => by simp [World.setRow, Array.getElem?_modify, show g ≠ k from fun e => hn (e ▸ hg)]⟩

theorem cellsOf {w : World} {b : Nat} {c : Array Value} {t : TypeId} (h : w.heap[b]? = some (.cells c t (0, 0))) (o : Nat) : w.cell? ⟨b, o, none⟩ = c[o]? := Lib.cell_of_heap h o
theorem frozenOf {w : World} {b : Nat} {c : Array Value} {t : TypeId} (h : w.heap[b]? = some (.cells c t (0, 0))) (o : Nat) : w.frozen? ⟨b, o, none⟩ = false := Lib.frozen_of_heap h o
theorem drewN_drewN (w : World) (a b : Nat) : (w.drewN a).drewN b = w.drewN (a + b) := by simp [World.drewN, Nat.add_assoc]

theorem heap_set {w : World} {b : Nat} {c : Array Value} {t : TypeId} (h : w.heap[b]? = some (.cells c t (0, 0))) (o : Nat) (v : Value) : (w.setCell ⟨b, o, none⟩ v).heap[b]? = some (.cells (c.setIfInBounds o v) t (0, 0)) := by
  simp [World.setCell, Array.getElem?_modify, h]

theorem addr_add (b o j : Nat) : (⟨b, o, none⟩ : Addr).add j = ⟨b, o + j, none⟩ := Lib.addr_add b o j

/-- Below block B, but for the blocks of L, nothing is turned. -/
structure Bel (B : Nat) (L : List Nat) (w w' : World) : Prop where
  os : w'.os = w.os
  tape : w'.tape = w.tape
  output : w'.output = w.output
  size : w.heap.size ≤ w'.heap.size
  block : ∀ k, k < B → k ∉ L → w'.heap[k]? = w.heap[k]?
theorem Bel.refl (B : Nat) (L : List Nat) (w : World) : Bel B L w w := ⟨rfl, rfl, rfl, Nat.le_refl _, fun _ _ _ => rfl⟩
theorem Bel.trans {B : Nat} {L : List Nat} {a b c : World} (h : Bel B L a b) (k : Bel B L b c) : Bel B L a c :=
  ⟨k.os.trans h.os, k.tape.trans h.tape, k.output.trans h.output, Nat.le_trans h.size k.size, fun i hi hn => (k.block i hi hn).trans (h.block i hi hn)⟩
theorem Bel.mono {B B' : Nat} {L L' : List Nat} {a b : World} (h : Bel B L a b) (hB : B' ≤ B) (hl : ∀ x ∈ L, x ∈ L') : Bel B' L' a b := ⟨h.os, h.tape, h.output, h.size, fun i hi hn => h.block i (Nat.lt_of_lt_of_le hi hB) (fun e => hn (hl i e))⟩
theorem Bel.of_kept {B : Nat} {L : List Nat} {a b : World} (h : Kept L a b) (hB : B ≤ a.heap.size) : Bel B L a b := ⟨h.os, h.tape, h.output, h.size, fun k hk hn => h.block k (by omega) hn⟩
theorem Bel.of_below {B : Nat} {a b : World} (h : Below B a b) (L : List Nat) : Bel B L a b := ⟨h.os, h.tape, h.output, h.size, fun k hk _ => h.block k hk⟩
theorem Bel.drewN {B : Nat} {L : List Nat} {a b : World} (h : Bel B L a b) (n : Nat) : Bel B L a (b.drewN n) := ⟨h.os, h.tape, h.output, h.size, h.block⟩
theorem Bel.drew {B : Nat} {L : List Nat} {a b : World} (h : Bel B L a b) : Bel B L a b.drew := ⟨h.os, h.tape, h.output, h.size, h.block⟩
theorem Bel.alloc {B : Nat} {L : List Nat} {a b : World} (h : Bel B L a b) (hB : B ≤ b.heap.size) (o : Obj) : Bel B L a (b.alloc o) :=
  h.trans (.of_kept ((Kept.refl _ _).alloc o) hB)
theorem Bel.cell {B : Nat} {L : List Nat} {a b : World} (h : Bel B L a b) {p : Addr} {v : Value} (hc : a.cell? p = some v) (hB : p.block < B) (hp : p.block ∉ L) : b.cell? p = some v :=
  (World.cell?_of_block (h.block _ hB hp)).trans hc
theorem Bel.row {B : Nat} {L : List Nat} {a b : World} {k n : Nat} {t : TypeId} {f : Nat → Value} (h : Bel B L a b) (hr : a.rowIs k t n f) (hB : k < B) (hp : k ∉ L) : b.rowIs k t n f := hr.of_block (h.block k hB hp)
/-- New blocks lie from B on. -/
theorem Bel.kept {B : Nat} {L L' : List Nat} {a b : World} (h : Bel B L a b) (hB : a.heap.size ≤ B) (hl : ∀ x ∈ L, x ∈ L' ∨ a.heap.size ≤ x) : Kept L' a b :=
  ⟨h.os, h.tape, h.output, h.size, fun k hk hn => h.block k (by omega) (fun e => by rcases hl k e with h | h; exact hn h; omega)⟩

theorem add_block (a : Addr) (j : Nat) : (a.add j).block = a.block := by unfold Addr.add; split <;> rfl
theorem grown_bel {w w' : World} {o : Option Nat} {B : Nat} (h : w.grownBy w' o) (hB : B ≤ w.heap.size) (hn : ∀ g, o = some g → B ≤ g) : Bel B [] w w' :=
  ⟨h.os, h.tape, h.output, h.size, fun k hk _ => h.block k (by omega) (fun e => by have := hn k e.symm; omega)⟩
theorem own_block {w : World} {B e s n : Nat} {v : Value} {xs : List Value} (h : w.ownsRow B e s v n xs) : ∀ g, v.ownBlock = some g → B ≤ g ∧ g < w.heap.size := by
  intro g hg
  rcases h.2 with ⟨rfl, _⟩ | ⟨g', cap, cur, rfl, hB, hc, r⟩
  · cases hg
  · have : g' = g := Option.some.inj hg
    subst this
    exact ⟨hB, (Array.getElem?_eq_some_iff.1 hc).1⟩
theorem Bel.below' {B B' : Nat} {a b : World} (h : Bel B [] a b) (hB : B' ≤ B) : Below B' a b := ⟨h.os, h.tape, h.output, h.size, fun k hk => h.block k (by omega) (by simp)⟩
theorem own_mono {w : World} {B B' e s n : Nat} {v : Value} {xs : List Value} (h : w.ownsRow B e s v n xs) (hB : B' ≤ B) : w.ownsRow B' e s v n xs := by
  obtain ⟨h1, h2⟩ := h
  refine ⟨h1, ?_⟩
  rcases h2 with h2 | ⟨g, cap, cur, e0, hg, r⟩
  · exact .inl h2
  · exact .inr ⟨g, cap, cur, e0, Nat.le_trans hB hg, r⟩


theorem own_kept {L : List Nat} {w w' : World} {B e s n : Nat} {v : Value} {xs : List Value} (h : w.ownsRow B e s v n xs) (k : Kept L w w') (hn : ∀ g, v.ownBlock = some g → g ∉ L) : w'.ownsRow B e s v n xs := by
  obtain ⟨h1, h2⟩ := h
  refine ⟨h1, ?_⟩
  rcases h2 with h2 | ⟨g, cap, cur, e0, hB, hc, r⟩
  · exact .inl h2
  · exact .inr ⟨g, cap, cur, e0, hB, (k.block g (Array.getElem?_eq_some_iff.1 hc).1 (hn g (by rw [e0]; rfl))).trans hc, r⟩
theorem own_slice {w : World} {B e s n : Nat} {v : Value} {xs : List Value} (h : w.ownsRow B e s v n xs) : ∃ a C, v = .slice a n C := by
  rcases h.2 with ⟨e1, e2⟩ | ⟨g, cap, cur, e0, _⟩
  · exact ⟨none, 0, by rw [e1, e2]⟩
  · exact ⟨_, _, e0⟩
end Go.Proofs.YtoaedibfgegilaaGreatDoor
