/-
  spec.List: integers as one object.
-/
import Derived.Test.YtcandemhaddkjaaDoorThg
namespace Go.Proofs.YtcandemhaddkjaaDoor.xs
open Go.RowKit
set_option linter.unusedVariables false
set_option linter.unusedSimpArgs false

def ints (n : Nat) (z : Nat → Int) : List (Array Value) := (List.range n).map fun i => intO (z i)
theorem ints_length (n : Nat) (z : Nat → Int) : (ints n z).length = n := by simp [ints]
theorem ints_succ (n : Nat) (z : Nat → Int) : ints (n + 1) z = ints n z ++ [intO (z n)] := by simp [ints, List.range_succ]
theorem ints_seven {n : Nat} {z : Nat → Int} : ∀ o ∈ ints n z, Seven o := by
  intro o ho
  simp [ints] at ho
  obtain ⟨i, _, rfl⟩ := ho
  exact intO_seven _

/-- The state behind some rounds. -/
structure LSt (w : World) (s0 : Nat) (os : List (Array Value)) (part : Value) (wr : World) : Prop where
  box : wr.heap[s0 + 1]? = some (.cells (listO part) 33 (0, 0))
  res : wr.heap[s0]? = some (.cells zeroO 33 (0, 0))
  own : wr.ownsRow (s0 + 2) 33 7 part os.length (flat os)
  below : Below s0 w wr
  size : s0 + 2 ≤ wr.heap.size

/-- What a round does: the object, the row of one, the append, the store. -/
theorem LSt.round {w wr : World} {s0 : Nat} {os : List (Array Value)} {part : Value} (h : LSt w s0 os part wr) (hk : os.length ≤ 100000) (x : Int) (D : World) (hD : D = ((wr.alloc (.cells (intO x) 33)).alloc (.cells (intO x) 33)).drew) :
    ∃ part' w', (Builtin.append_ #[31, 31] 31 #[part, .slice (some ⟨wr.heap.size + 1, 0, none⟩) 1 1]).run Tryd.prog D = .ok part' w' ∧ w'.heap[s0 + 1]? = some (.cells (listO part) 33 (0, 0)) ∧ LSt w s0 (os ++ [intO x]) part' (w'.setCell ⟨s0 + 1, 6, none⟩ part') := by
  have hs := h.size
  have kD : Kept [] wr D := by rw [hD]; exact (((Kept.refl _ _).alloc _).alloc _).drew
  have hsD : D.heap.size = wr.heap.size + 2 := by rw [hD]; simp
  have hownD : D.ownsRow (s0 + 2) 33 7 part os.length (flat os) := by rw [hD]; exact ((h.own.alloc _).alloc _).drew
  obtain ⟨part', w', h1, h2, h3⟩ := app33 D (s0 + 2) part os hownD ⟨wr.heap.size + 1, 0, none⟩ 1 (intO x) (intO_seven x) (fun j u hj => by
    rw [addr_add, Nat.zero_add, hD]
    have := cellsOf (w := ((wr.alloc (.cells (intO x) 33)).alloc (.cells (intO x) 33)).drew) (b := wr.heap.size + 1) (c := intO x) (t := 33) (by have := heap_alloc_new (wr.alloc (.cells (intO x) 33)) (.cells (intO x) 33); rw [show (wr.alloc (.cells (intO x) 33)).heap.size = wr.heap.size + 1 by simp] at this; exact this) j
    rw [this]
    simpa using hj) (by omega) (by omega) 31
  have hgr := fun g hg => (own_block hownD g hg).1
  have hb := grown_bel h3 (B := s0 + 2) (by omega) hgr
  have hbox : w'.heap[s0 + 1]? = some (.cells (listO part) 33 (0, 0)) := (hb.block _ (by omega) (by simp)).trans ((kD.block _ (by omega) (by simp)).trans h.box)
  have hres : w'.heap[s0]? = some (.cells zeroO 33 (0, 0)) := (hb.block _ (by omega) (by simp)).trans ((kD.block _ (by omega) (by simp)).trans h.res)
  refine ⟨part', w', h1, hbox, ⟨?_, ?_, ?_, ?_, ?_⟩⟩
  · rw [heap_set hbox]
    rfl
  · rw [Go.Deep.blk_setCell_other _ _ _ _ (by simp)]
    exact hres
  · refine own_kept h2 ((Kept.refl [s0 + 1] _).setCell (by simp) _) (fun g hg => ?_)
    have := (own_block h2 g hg).1
    simp
    omega
  · exact (h.below.trans (kD.below (by omega) (by simp))).trans ((hb.below' (by omega)).setCell (by simp) _)
  · have := hb.size
    simp
    omega

def ListE (w : World) (n : Nat) (z : Nat → Int) (e : Ending) (w' : World) : Prop := ∃ part, e = .returned (.agg (listO part)) ∧ Rows w' part (ints n z) ∧ (∀ g, part.ownBlock = some g → w.heap.size ≤ g) ∧ Below w.heap.size w w'

set_option maxHeartbeats 4000000 in
set_option maxRecDepth 100000 in
theorem list13 (v : Value) (n : Nat) (z : Nat → Int) (w : World) (hD : IntsV w v n z) (hn0 : 0 < n) (hn : n ≤ 100000) : Calls Tryd.prog 13 #[v] w fun e w' => ListE w n z e w' := by
  obtain ⟨a, C, rfl, hnC, hCm, hcells⟩ : ∃ a C, v = .slice (some a) n C ∧ n ≤ C ∧ C ≤ maxLen ∧ ∀ i, i < n → w.cell? (a.add i) = some (.int .i64 (z i)) := by
    rcases hD with ⟨rfl, rfl⟩ | ⟨a, C, rfl, h⟩
    · omega
    · exact ⟨_, _, rfl, h⟩
  have HC := Lib.hid hcells
  clear hD hcells
  obtain ⟨s0, hs0⟩ : ∃ s0, w.heap.size = s0 := ⟨_, rfl⟩
  have HS0 := Lib.hid hs0
  have hst : LSt w w.heap.size [] (.slice none 0 0) ((w.alloc (.cells zeroO 33)).alloc (.cells (listO (.slice none 0 0)) 33)) := by
    refine ⟨?_, ?_, ⟨rfl, .inl ⟨rfl, rfl⟩⟩, ((Below.refl _ _).alloc (Nat.le_refl _) _).alloc (by simp) _, by simp⟩
    · have := heap_alloc_new (w.alloc (.cells zeroO 33)) (.cells (listO (.slice none 0 0)) 33)
      simpa using this
    · exact (heap_alloc_old (w.alloc (.cells zeroO 33)) _ (by simp)).trans (heap_alloc_new w _)
  have HST := Lib.hid hst
  clear hst
  unfold zeroO listO at HST
  clear hs0
  go_enter Tryd.func13, Tryd.ntmps13
  go_wp2_with fail
  go_loopw [9] (fun i wr => ∃ k : Nat, i = .int .i64 (k : Int) ∧ k ≤ n ∧ ∃ part, Hid (LSt w w.heap.size (ints k z) part wr)) (fun i _ => n - (intOf i).toNat)
  case atStart => exact ⟨0, rfl, by omega, _, HST⟩
  case round =>
    obtain ⟨k, rfl, hk, part, HL⟩ := hrel
    by_cases hlt : k < n
    · have c0 : wr.cell? (a.add k) = some (.int .i64 (z k)) := (Kept.of_below HL.out.below []).cell (HC.out k hlt) (by simp)
      obtain ⟨x, hx⟩ : ∃ x, z k = x := ⟨_, rfl⟩
      rw [hx] at c0
      have c1 : wr.cell? ⟨w.heap.size + 1, 6, none⟩ = some part := cellsOf HL.out.box 6
      obtain ⟨part', w', hrun, hbox, hnx⟩ := HL.out.round (by rw [ints_length]; omega) x _ rfl
      rw [← hx, ← ints_succ] at hnx
      have c2 : w'.cell? ⟨w.heap.size + 1, 6, none⟩ = some part := cellsOf hbox 6
      have f2 : w'.frozen? ⟨w.heap.size + 1, 6, none⟩ = false := frozenOf hbox 6
      obtain ⟨pa, pc, rfl⟩ := own_slice hnx.own
      have HN := Lib.hid hnx
      have HI := Lib.hid fun W => int14 x W
      have c3 : (wr.alloc (.cells (intO x) 33)).cell? ⟨w.heap.size + 1, 6, none⟩ = some part := ((Kept.refl [] wr).alloc _).cell c1 (by simp)
      have c4 : ((wr.alloc (.cells (intO x) 33)).alloc (.cells (intO x) 33)).cell? ⟨w.heap.size + 1, 6, none⟩ = some part := (((Kept.refl [] wr).alloc _).alloc _).cell c1 (by simp)
      unfold intO at hrun HI c3 c4
      clear hnx hbox hx
      go_wp2_with fail
      go_region_law (first | (refine step_append_run 31 rfl (.tmp 14) (.tmp 17) rfl part (.slice (some ⟨wr.heap.size + 1, 0, none⟩) 1 1) (by simp [Act.eval, Act.put]) (by simp [Act.eval, Act.put]) _ _ hrun ?_) | (go_simp; (go_at_call 14); refine (HI.out _).mono ?_; rintro e w2 ⟨rfl, rfl⟩))
      all_goals
        go_wp2_with fail
        go_roundw
        case rel => exact ⟨k + 1, by go_num, by omega, _, HN⟩
        case measure => simp [intOf]; omega
    · obtain rfl : k = n := by omega
      obtain ⟨pa, pc, rfl⟩ := own_slice HL.out.own
      have c0 : wr.cell? ⟨w.heap.size + 1, 0, none⟩ = some (.int .i64 7) := cellsOf HL.out.box 0
      have c1 : wr.cell? ⟨w.heap.size + 1, 1, none⟩ = some (.int .i64 0) := cellsOf HL.out.box 1
      have c2 : wr.cell? ⟨w.heap.size + 1, 2, none⟩ = some (.int .i64 0) := cellsOf HL.out.box 2
      have c3 : wr.cell? ⟨w.heap.size + 1, 3, none⟩ = some (.float .f64 0) := cellsOf HL.out.box 3
      have c4 : wr.cell? ⟨w.heap.size + 1, 4, none⟩ = some (.string ⟨#[]⟩) := cellsOf HL.out.box 4
      have c5 : wr.cell? ⟨w.heap.size + 1, 5, none⟩ = some (.slice none 0 0) := cellsOf HL.out.box 5
      have c6 : wr.cell? ⟨w.heap.size + 1, 6, none⟩ = some (.slice pa (ints k z).length pc) := cellsOf HL.out.box 6
      have d0 : wr.cell? ⟨w.heap.size, 0, none⟩ = some (.int .i64 0) := cellsOf HL.out.res 0
      have d1 : wr.cell? ⟨w.heap.size, 1, none⟩ = some (.int .i64 0) := cellsOf HL.out.res 1
      have d2 : wr.cell? ⟨w.heap.size, 2, none⟩ = some (.int .i64 0) := cellsOf HL.out.res 2
      have d3 : wr.cell? ⟨w.heap.size, 3, none⟩ = some (.float .f64 0) := cellsOf HL.out.res 3
      have d4 : wr.cell? ⟨w.heap.size, 4, none⟩ = some (.string ⟨#[]⟩) := cellsOf HL.out.res 4
      have d5 : wr.cell? ⟨w.heap.size, 5, none⟩ = some (.slice none 0 0) := cellsOf HL.out.res 5
      have d6 : wr.cell? ⟨w.heap.size, 6, none⟩ = some (.slice none 0 0) := cellsOf HL.out.res 6
      have f : ∀ o, wr.frozen? ⟨w.heap.size, o, none⟩ = false := fun o => frozenOf HL.out.res o
      have f0 := f 0
      have f1 := f 1
      have f2 := f 2
      have f3 := f 3
      have f4 := f 4
      have f5 := f 5
      have f6 := f 6
      clear f
      go_wp2_with fail
      have hK : ∀ W, Kept [w.heap.size] wr W → Rows W (.slice pa (ints k z).length pc) (ints k z) ∧ (∀ g, (Value.slice pa (ints k z).length pc).ownBlock = some g → w.heap.size ≤ g) ∧ Below w.heap.size w W := fun W hW => by
        refine ⟨Rows.of_own (B := w.heap.size + 2) (own_kept HL.out.own hW (fun g hg => ?_)) ints_seven (by rw [ints_length]; exact hn0), (fun g hg => by have := (own_block HL.out.own g hg).1; omega), HL.out.below.trans (hW.below (by have := HL.out.size; omega) (by simp))⟩
        have := (own_block HL.out.own g hg).1
        simp
        omega
      refine bodyPost_ret (v := .agg (listO (.slice pa (ints k z).length pc))) ?_ rfl ⟨_, rfl, hK _ (((((((Kept.refl _ _).setCell (by simp) _).setCell (by simp) _).setCell (by simp) _).setCell (by simp) _).setCell (by simp) _).setCell (by simp) _ |>.setCell (by simp) _)⟩
      have hres : Tryd.f13.results = #[.cell 2 33] := by kernel_rfl
      unfold listO
      simp only [results, hres]
      go_simp
end Go.Proofs.YtcandemhaddkjaaDoor.xs
