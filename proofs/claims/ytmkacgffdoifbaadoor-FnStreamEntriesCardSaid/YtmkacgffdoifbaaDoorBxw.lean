/-
  The world that impl.StreamEntries makes ahead of its work: the boxes, the table, the set, the context.
-/
import Derived.Test.YtmkacgffdoifbaaDoorSrw
import Derived.Test.YtmkacgffdoifbaaDoorClo
namespace Go.Proofs.YtmkacgffdoifbaaDoor.se
open Go.RowKit Go.MapKept Go.ChangeMaps
set_option linter.unusedVariables false
set_option linter.unusedSimpArgs false

def boxW (w : World) (w0 w1 w2 : Nat) (da : Option Addr) (dn dC : Nat) : World :=
  ((((((((w.alloc (.cells #[.int .i64 (w0 : Int), .int .i64 (w1 : Int), .int .i64 (w2 : Int)] 23)).alloc (.cells #[.slice da dn dC] 27)).alloc (.cells #[.int .i64 0] 2)).alloc (.map #[] 0)).alloc
    (.cells #[.map (some (w.heap.size + 1 + 1 + 1)), .pointer none, .int .i64 0, .pointer none, .map none, .pointer none, .slice none 0 0, .pointer none, .map none, .map none, .map none, .map none, .map none, .map none, .int .i64 0, .pointer none, .int .i64 0] 51)).alloc
    (.map #[] 0)).alloc (.cells #[.map (some (w.heap.size + 1 + 1 + 1 + 1 + 1)), .map none] 54)).alloc
    (.cells #[.pointer (some ⟨w.heap.size + 1 + 1 + 1 + 1, 0, none⟩), .pointer (some ⟨w.heap.size + 1 + 1 + 1 + 1 + 1 + 1, 0, none⟩), .pointer none, .pointer none, .bool false, .bool false] 58)).alloc
    (.cells #[.pointer (some ⟨w.heap.size + 1 + 1 + 1 + 1 + 1 + 1 + 1, 0, none⟩)] 36)

theorem new_at (w : World) (o : Obj) (k : Nat) (h : k = w.heap.size) : (w.alloc o).heap[k]? = some o := by
  subst h
  exact heap_alloc_new w o
theorem old_at (w : World) (o : Obj) (k : Nat) (h : k < w.heap.size) : (w.alloc o).heap[k]? = w.heap[k]? := heap_alloc_old w o h
theorem cell_new (w : World) (c : Array Value) (t : TypeId) (k o : Nat) (h : k = w.heap.size) : (w.alloc (.cells c t)).cell? ⟨k, o, none⟩ = c[o]? := cellsOf (new_at w (.cells c t) k h) o
theorem cell_old (w : World) (o : Obj) (a : Addr) (h : a.block < w.heap.size) : (w.alloc o).cell? a = w.cell? a := World.cell?_of_block (heap_alloc_old w o h)
structure Boxed (w V : World) (w0 w1 w2 : Nat) (da : Option Addr) (dn dC : Nat) : Prop where
  kept : Kept [] w V
  size : V.heap.size = w.heap.size + 9
  b0 : V.heap[w.heap.size]? = some (.cells #[.int .i64 (w0 : Int), .int .i64 (w1 : Int), .int .i64 (w2 : Int)] 23 (0, 0))
  b1 : V.heap[w.heap.size + 1]? = some (.cells #[.slice da dn dC] 27 (0, 0))
  b2 : V.heap[w.heap.size + 1 + 1]? = some (.cells #[.int .i64 0] 2 (0, 0))
  b3 : V.heap[w.heap.size + 1 + 1 + 1]? = some (.map #[] 0)
  b4 : V.cell? ⟨w.heap.size + 1 + 1 + 1 + 1, 0, none⟩ = some (.map (some (w.heap.size + 1 + 1 + 1)))
  b5 : V.heap[w.heap.size + 1 + 1 + 1 + 1 + 1]? = some (.map #[] 0)
  b6 : V.cell? ⟨w.heap.size + 1 + 1 + 1 + 1 + 1 + 1, 0, none⟩ = some (.map (some (w.heap.size + 1 + 1 + 1 + 1 + 1)))
  b7 : V.cell? ⟨w.heap.size + 1 + 1 + 1 + 1 + 1 + 1 + 1, 0, none⟩ = some (.pointer (some ⟨w.heap.size + 1 + 1 + 1 + 1, 0, none⟩))
  b7' : V.cell? ⟨w.heap.size + 1 + 1 + 1 + 1 + 1 + 1 + 1, 1, none⟩ = some (.pointer (some ⟨w.heap.size + 1 + 1 + 1 + 1 + 1 + 1, 0, none⟩))
  b8 : V.cell? ⟨w.heap.size + 1 + 1 + 1 + 1 + 1 + 1 + 1 + 1, 0, none⟩ = some (.pointer (some ⟨w.heap.size + 1 + 1 + 1 + 1 + 1 + 1 + 1, 0, none⟩))

theorem boxed (w : World) (w0 w1 w2 : Nat) (da : Option Addr) (dn dC : Nat) : Boxed w (boxW w w0 w1 w2 da dn dC) w0 w1 w2 da dn dC where
  kept := by unfold boxW; exact (((((((((Kept.refl _ _).alloc _).alloc _).alloc _).alloc _).alloc _).alloc _).alloc _).alloc _).alloc _
  size := by simp [boxW]
  b0 := by unfold boxW; repeat' first | (refine new_at _ _ _ ?_; simp; done) | refine (old_at _ _ _ (by simp <;> omega)).trans ?_
  b1 := by unfold boxW; repeat' first | (refine new_at _ _ _ ?_; simp; done) | refine (old_at _ _ _ (by simp <;> omega)).trans ?_
  b2 := by unfold boxW; repeat' first | (refine new_at _ _ _ ?_; simp; done) | refine (old_at _ _ _ (by simp <;> omega)).trans ?_
  b3 := by unfold boxW; repeat' first | (refine new_at _ _ _ ?_; simp; done) | refine (old_at _ _ _ (by simp <;> omega)).trans ?_
  b4 := by unfold boxW; repeat' first | (refine cell_new _ _ _ _ _ ?_; simp; done) | refine (cell_old _ _ _ (by simp <;> omega)).trans ?_
  b5 := by unfold boxW; repeat' first | (refine new_at _ _ _ ?_; simp; done) | refine (old_at _ _ _ (by simp <;> omega)).trans ?_
  b6 := by unfold boxW; repeat' first | (refine cell_new _ _ _ _ _ ?_; simp; done) | refine (cell_old _ _ _ (by simp <;> omega)).trans ?_
  b7 := by unfold boxW; repeat' first | (refine cell_new _ _ _ _ _ ?_; simp; done) | refine (cell_old _ _ _ (by simp <;> omega)).trans ?_
  b7' := by unfold boxW; repeat' first | (refine cell_new _ _ _ _ _ ?_; simp; done) | refine (cell_old _ _ _ (by simp <;> omega)).trans ?_
  b8 := by unfold boxW; repeat' first | (refine cell_new _ _ _ _ _ ?_; simp; done) | refine (cell_old _ _ _ (by simp <;> omega)).trans ?_

def nums (f : Nat → Ent) (n : Nat) : List Int := (List.range n).map fun i => (f i).num
theorem nums_length (f : Nat → Ent) (n : Nat) : (nums f n).length = n := by simp [nums]
theorem nums_succ (f : Nat → Ent) (n : Nat) : nums f (n + 1) = nums f n ++ [(f n).num] := by simp [nums, List.range_succ]
/-- 'append([]int{}, objects...)'. -/
theorem append_ints (w : World) (k B : Nat) (v : Value) (l : List Int) (h : w.ownsRow B 3 1 v l.length (iv l)) (hN : l.length ≤ 1000000) (hk : w.heap[k]? = some (.cells #[] 3 (0, 0))) (ty : TypeId) :
    ∃ (a : Option Addr) (n C : Nat) (w' : World), (Builtin.append_ #[24, 24] ty #[.slice (some ⟨k, 0, none⟩) 0 0, v]).run Tryd.prog w = .ok (.slice a n C) w' ∧ w'.ownsRow k 3 1 (.slice a n C) l.length (iv l) ∧ Kept [k] w w' := by
  obtain ⟨i, hi, hz, hs, hb⟩ := info_parts info3f
  have hown : w.ownsRow k 3 1 (.slice (some ⟨k, 0, none⟩) 0 0) 0 [] := ⟨rfl, .inr ⟨k, 0, #[], rfl, Nat.le_refl _, hk, Nat.le_refl _, by unfold maxLen; omega, rfl, rfl⟩⟩
  have hks : k < w.heap.size := (Array.getElem?_eq_some_iff.1 hk).1
  have hcells := fun g hg j u hj => h.cells (g := g) hg j u hj
  rcases h.2 with ⟨rfl, hl⟩ | ⟨g, cap, cur, rfl, hB, hc, hn, hm, r⟩
  · have hl0 : l = [] := List.length_eq_zero_iff.1 hl
    subst hl0
    exact ⟨_, _, _, w, run_append_owned_none (P := Tryd.prog) (w := w) k 24 ty 3 i 1 Tryd.underlying24 hi _ 0 [] hown, hown, Kept.refl _ _⟩
  · obtain ⟨v', w', hr, ho, hg, hnil⟩ := run_append_own (P := Tryd.prog) (w := w) k 24 ty 3 i (.int .i64 0) 1 8 Tryd.underlying24 hi hz hs hb rfl (by decide) _ 0 [] hown ⟨g, 0, none⟩ l.length cap (iv l) (by simp [iv])
      (fun j u hj => hcells g rfl j u hj) (fun u hu => by
        simp [iv] at hu
        obtain ⟨i, _, rfl⟩ := hu
        rfl) (by unfold maxLen; omega) (by omega) (Nat.le_of_lt hks)
    rw [Nat.zero_add, List.nil_append] at ho
    obtain ⟨a, C', rfl⟩ := own_slice ho
    exact ⟨a, _, C', w', hr, ho, Kept.of_grown hg (by simp)⟩
theorem nums_of_own {w : World} {B : Nat} {v : Value} {f : Nat → Ent} {n : Nat} (h : w.ownsRow B 3 1 v (nums f n).length (iv (nums f n))) : IntsV w v n fun i => (f i).num := by
  have h1 := ints_of_own h
  rw [nums_length] at h1
  rcases h1 with h1 | ⟨b, o, C, h1, h2, h3, h4⟩
  · exact .inl h1
  · refine .inr ⟨b, o, C, h1, h2, h3, fun i hi => ?_⟩
    rw [h4 i hi]
    simp [nums, List.getD_eq_getElem?_getD, hi]
end Go.Proofs.YtmkacgffdoifbaaDoor.se
