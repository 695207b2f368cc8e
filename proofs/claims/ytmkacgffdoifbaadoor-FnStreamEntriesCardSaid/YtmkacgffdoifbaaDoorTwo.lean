/-
  Two rows of numbers that grow side by side.
-/
import Derived.Test.YtmkacgffdoifbaaDoorSte
import Derived.Deep.AppendLies
namespace Go.Proofs.YtmkacgffdoifbaaDoor.se
open Go.RowKit Go.MapKept Go.ChangeMaps
set_option linter.unusedVariables false
set_option linter.unusedSimpArgs false

structure Two (W wr : World) (B : Nat) (l5 l6 : List Int) (v5 v6 : Value) : Prop where
  own5 : wr.ownsRow B 3 1 v5 l5.length (iv l5)
  own6 : wr.ownsRow B 3 1 v6 l6.length (iv l6)
  apart : ∀ g, v5.ownBlock = some g → v6.ownBlock ≠ some g
  bel : Bel B [] W wr
  size : B ≤ wr.heap.size
theorem Two.swap {W wr : World} {B : Nat} {l5 l6 : List Int} {v5 v6 : Value} (h : Two W wr B l5 l6 v5 v6) : Two W wr B l6 l5 v6 v5 := ⟨h.own6, h.own5, fun g h1 h2 => h.apart g h2 h1, h.bel, h.size⟩
theorem Two.kept {W wr V : World} {B : Nat} {l5 l6 : List Int} {v5 v6 : Value} (h : Two W wr B l5 l6 v5 v6) (k : Kept [] wr V) : Two W V B l5 l6 v5 v6 :=
  ⟨own_kept h.own5 k (by simp), own_kept h.own6 k (by simp), h.apart, h.bel.trans (Bel.of_kept k h.size), Nat.le_trans h.size k.size⟩
theorem Two.app {W wr : World} {B : Nat} {l5 l6 : List Int} {v5 v6 : Value} (h : Two W wr B l5 l6 v5 v6) (x : Int) (hl : l5.length ≤ 1000000) (k : Nat) (hk : k = wr.heap.size) :
    ∃ a C N D, (Builtin.append_ #[24, 24] 24 #[v5, .slice (some ⟨k, 0, none⟩) 1 1]).run Tryd.prog (wr.alloc (.cells #[.int .i64 x] 3)) = .ok (.slice a N C) D ∧ Two W D B (l5 ++ [x]) l6 (.slice a N C) v6 ∧ (∀ g, g < wr.heap.size → v5.ownBlock ≠ some g → D.heap[g]? = wr.heap[g]?) := by
  subst hk
  obtain ⟨i, hi, hz, hs, hby⟩ := info_parts info3f
  have kA : Kept [] wr (wr.alloc (.cells #[.int .i64 x] 3)) := (Kept.refl _ _).alloc _
  have hown' := own_kept h.own5 kA (by simp)
  have hown6 := own_kept h.own6 kA (by simp)
  obtain ⟨g, cap, D, hr, ho, hg, hl2, hgs⟩ := run_append_lies (P := Tryd.prog) (w := wr.alloc (.cells #[.int .i64 x] 3)) 24 24 B 3 i _ 1 8 Tryd.underlying24 hi hz hs hby rfl (by decide) v5 _ _ hown' ⟨wr.heap.size, 0, none⟩ 1 1 [.int .i64 x] (by simp)
    (fun j u hj => by
      rw [addr_add, Nat.zero_add, cellsOf (heap_alloc_new wr _)]
      simpa using hj) (fun u hu => by
      simp at hu
      rw [hu]
      rfl) (by omega) (by unfold maxLen; omega) (by omega) (by have := h.size; simp; omega) _ rfl
  have hB := h.size
  have hb5 := own_block h.own5
  have hb6 := own_block h.own6
  have hold : ∀ g, g < wr.heap.size → v5.ownBlock ≠ some g → D.heap[g]? = wr.heap[g]? := fun g hg1 hg2 =>
    (hg.block g (by simp; omega) (fun e => hg2 e.symm)).trans (heap_alloc_old wr _ hg1)
  have h6 : ∀ g', v6.ownBlock = some g' → D.heap[g']? = (wr.alloc (.cells #[.int .i64 x] 3)).heap[g']? := fun g' hg' =>
    hg.block g' (by have := (hb6 g' hg').2; simp; omega) (fun e => h.apart g' e.symm hg')
  refine ⟨some ⟨g, 0, none⟩, cap, _, D, hr, ⟨?_, ?_, ?_, ?_, ?_⟩, hold⟩
  · rw [List.length_append, iv_append]
    exact ho
  · refine ⟨hown6.1, ?_⟩
    rcases hown6.2 with h1 | ⟨g', cap', cur, e0, hB', hc, r⟩
    · exact .inl h1
    · exact .inr ⟨g', cap', cur, e0, hB', (h6 g' (by rw [e0]; rfl)).trans hc, r⟩
  · intro g' hg' h6'
    have e : g' = g := by
      have : some g = some g' := hg'
      exact (Option.some.inj this).symm
    subst e
    rcases hl2 with h1 | h1
    · exact h.apart g' h1 h6'
    · have := (hb6 g' h6').2
      simp at h1
      omega
  · refine h.bel.trans ((Bel.of_kept kA hB).trans (grown_bel hg (by simp; omega) fun g hg => (hb5 g hg).1))
  · have := hg.size
    simp at this
    omega
/-- A block of another kind is none of the row's. -/
theorem own_not {w : World} {B e s n : Nat} {v : Value} {xs : List Value} {g : Nat} {c : Array Value} {t : TypeId} (h : w.ownsRow B e s v n xs) (hb : w.heap[g]? = some (.cells c t (0, 0))) (ht : t ≠ e) : v.ownBlock ≠ some g := by
  intro he
  rcases h.2 with ⟨rfl, _⟩ | ⟨g', cap, cur, rfl, hB, hc, r⟩
  · cases he
  · have : g' = g := Option.some.inj he
    subst this
    rw [hc] at hb
    simp at hb
    exact ht hb.2.symm
end Go.Proofs.YtmkacgffdoifbaaDoor.se
