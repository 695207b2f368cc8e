/-
  Contracts of a strings.Builder's writing methods at this dump (a builder that the call itself has made).
-/
import Derived.Test.YtcohlcijgfdanaaDoorRows
import Derived.Test.YtcohlcijgfdanaaDoorShelf
import Derived.Lib.FrozenHead2
import Derived.Lib.OthersKept
import Derived.Lib.Strings
import Derived.Lib.Slices
import Derived.Lib.Walk
import Derived.Lib.Builder
import Derived.Lib.AppendStr
import Derived.Lib.UnsafeStr
import Derived.WalkKit
import Derived.BigCall
import Derived.Laws.Externs
import Derived.Lib.Hide
namespace Go.Proofs.YtcohlcijgfdanaaDoor
open Go.RowKit

theorem infoByte : (Tryd.prog.info? 5).map (fun i => (i.zero, i.size, i.bytes)) = some (some (.int .u8 0), 1, 1) := by kernel_rfl
theorem sizeB : (Tryd.prog.info? 57).map (·.size) = some 2 := by kernel_rfl
theorem liesB : liesAt Tryd.prog Tryd.prog.depth 57 (2 / Tryd.prog.cellsOf 57) 0 57 1 = true := by kernel_rfl

set_option maxHeartbeats 1000000 in
set_option maxRecDepth 100000 in
theorem ccUsed (b : Nat) (w : World) (h0 : w.cell? ⟨b, 0, none⟩ = some (.pointer (some ⟨b, 0, none⟩))) :
    Calls Tryd.prog 82 #[.pointer (some ⟨b, 0, none⟩)] w fun e w' => e = .returned (.tuple #[]) ∧ w' = w := by
  obtain ⟨j, hj, _⟩ := Option.map_eq_some_iff.1 sizeB
  go_enter Tryd.func82, Tryd.ntmps82
  go_wp2
  rw [Lib.run_neq_ptr_same w _ Tryd.underlying55 hj]
  go_wp2
  go_end0
  exact ⟨rfl, rfl⟩

set_option maxHeartbeats 1000000 in
set_option maxRecDepth 100000 in
theorem ccFresh (b : Nat) (w : World) (h0 : w.cell? ⟨b, 0, none⟩ = some (.pointer none)) (hsh : w.shape? b = some (57, 2)) (hfz : w.frozen? ⟨b, 0, none⟩ = false) :
    Calls Tryd.prog 82 #[.pointer (some ⟨b, 0, none⟩)] w fun e w' => e = .returned (.tuple #[]) ∧ w' = w.setCell ⟨b, 0, none⟩ (.pointer (some ⟨b, 0, none⟩)) := by
  obtain ⟨j, hj, hjs⟩ := Option.map_eq_some_iff.1 sizeB
  go_enter Tryd.func82, Tryd.ntmps82
  go_wp2
  rw [Lib.run_to_unsafe w ⟨b, 0, none⟩ Tryd.underlying55 Tryd.underlying119 hj (by rw [hjs]; decide) hsh (Nat.zero_lt_succ 1)]
  simp only [Result.andThen]
  rw [Oper.upon_value]
  go_wp2
  rw [run_callFunc_extern Tryd.func101 (by kernel_rfl) (by kernel_rfl) (by kernel_rfl) (e := Extern.AbiNoEscape.same) (by kernel_rfl)]
  rw [Lib.run_noEscape]
  simp only [Result.andThen]
  rw [Oper.upon_value]
  go_wp2
  rw [Lib.run_from_unsafe w ⟨b, 0, none⟩ Tryd.underlying119 Tryd.underlying55 hj hsh liesB]
  simp only [Result.andThen]
  rw [Oper.upon_value]
  go_wp2
  go_end0
  exact ⟨rfl, rfl⟩

theorem copyCheck (B b : Nat) (bs : List Value) (w : World) (h : Lib.IsBuilderF 57 5 B b bs w) :
    Calls Tryd.prog 82 #[.pointer (some ⟨b, 0, none⟩)] w fun e w' => e = .returned (.tuple #[]) ∧ Lib.BuilderAtF 57 5 B b (.pointer (some ⟨b, 0, none⟩)) bs w' ∧ Below B w w' ∧ (∀ k, k < w.heap.size → k ≠ b → w'.heap[k]? = w.heap[k]?) ∧ w'.cell? ⟨b, 1, none⟩ = w.cell? ⟨b, 1, none⟩ := by
  rcases h with h | h
  · refine (ccFresh b w h.cell0 h.shape h.frozen0).mono ?_
    rintro e w' ⟨rfl, rfl⟩
    exact ⟨rfl, h.used _, (Below.refl B w).setCell (p := ⟨b, 0, none⟩) h.1 _, fun k _ hk => by simp [World.setCell, Array.getElem?_modify, Ne.symm hk], World.cell?_setCell_other w _ _ _ (by simp)⟩
  · refine (ccUsed b w h.cell0).mono ?_
    rintro e w' ⟨rfl, rfl⟩
    exact ⟨rfl, h, Below.refl B _, fun _ _ _ => rfl, rfl⟩

/-- The builder's row is an old block. -/
theorem isB_row {B b : Nat} {bs : List Value} {w : World} (h : Lib.IsBuilderF 57 5 B b bs w) : ∀ v, w.cell? ⟨b, 1, none⟩ = some v → ∀ k, w.heap.size ≤ k → v.ownBlock ≠ some k := by
  have key : ∀ p, Lib.BuilderAtF 57 5 B b p bs w → ∀ v, w.cell? ⟨b, 1, none⟩ = some v → ∀ k, w.heap.size ≤ k → v.ownBlock ≠ some k := by
    rintro p ⟨hB, v, hv, hown, hne⟩ v' hv' k hk e
    have c1 : w.cell? ⟨b, 1, none⟩ = some v := by rw [Lib.cell_of_heap hv]; rfl
    obtain rfl := Option.some.inj (c1.symm.trans hv')
    have := (hown.lt k e).2
    omega
  exact h.elim (key _) (key _)

/-- A builder stays one where no old block turns. -/
theorem isB_on {B b : Nat} {bs : List Value} {w w' : World} (h : Lib.IsBuilderF 57 5 B b bs w) (hb : Below w.heap.size w w') : Lib.IsBuilderF 57 5 B b bs w' := by
  have key : ∀ p, Lib.BuilderAtF 57 5 B b p bs w → Lib.BuilderAtF 57 5 B b p bs w' := by
    rintro p ⟨hB, v, hv, hown, hne⟩
    refine ⟨hB, v, ?_, hown.kept (row := none) ⟨hb.os, hb.tape, hb.output, hb.size, fun k hk _ => hb.block k hk⟩ ?_, hne⟩
    · rw [hb.block b (Array.getElem?_eq_some_iff.1 hv).1]; exact hv
    · cases v.ownBlock <;> simp
  exact h.imp (key _) (key _)

set_option maxHeartbeats 2000000 in
set_option maxRecDepth 100000 in
theorem writeByte (B b : Nat) (bs : List Value) (c : Int) (w : World) (h : Lib.IsBuilderF 57 5 B b bs w) (hlen : bs.length + 1 ≤ 140737488355328) (hBw : B ≤ w.heap.size) :
    Calls Tryd.prog 54 #[.pointer (some ⟨b, 0, none⟩), .int .u8 c] w fun e w' => e = .returned .nilIface ∧ Lib.IsBuilderF 57 5 B b (bs ++ [.int .u8 c]) w' ∧ Below B w w' := by
  obtain ⟨i0, hi, hz0, hz1, hz2⟩ := info_parts infoByte
  go_enter Tryd.func54, Tryd.ntmps54
  go_wp2_with (go_at_call 82; refine (copyCheck B b bs _ h).mono ?_; rintro e w1 ⟨rfl, h1, hb1, hk1, hc1⟩; refine Hid.out ?_)
  refine Lib.hid ?_
  have HC1 := Lib.hid hc1
  have HK1 := Lib.hid hk1
  clear hc1 hk1
  obtain ⟨hB, v, hbk, hown, hne⟩ := h1
  obtain ⟨ao0, cap0, rfl⟩ : ∃ ao cap, v = .slice ao bs.length cap := by
    rcases hown.2 with ⟨hv, h0⟩ | ⟨g, cap, cur, fz, hv, _⟩
    · exact ⟨none, 0, by rw [hv, h0]⟩
    · exact ⟨_, _, hv⟩
  have c0 : w1.cell? ⟨b, 0, none⟩ = some (.pointer (some ⟨b, 0, none⟩)) := by rw [Lib.cell_of_heap hbk]; rfl
  have c1 : w1.cell? ⟨b, 1, none⟩ = some (.slice ao0 bs.length cap0) := by rw [Lib.cell_of_heap hbk]; rfl
  go_wp2_with (at_builtin; refine wpList_append_ownF _ rfl _ _ 29 rfl B 5 i0 (.int .u8 0) 1 1 Tryd.underlying29 hi hz0 hz1 hz2 rfl (by decide) _ _ _ rfl (hown.alloc _) ⟨w1.heap.size, 0, none⟩ 1 1 [.int .u8 c] rfl rfl (by intro j u hj; match j, hj with | 0, hj => simp at hj; subst hj; simp [Addr.add]) (by intro u hu; simp at hu; subst hu; rfl) (by unfold maxLen; omega) (by omega) (by have := hb1.size; simp; omega) ?_; intro v' w2 hown' hgrow _; refine Hid.out ?_)
  refine Lib.hid ?_
  have hlt : b < w1.heap.size := by
    rcases Nat.lt_or_ge b w1.heap.size with h' | h'
    · exact h'
    · simp [Array.getElem?_eq_none h'] at hbk
  have hb2 : w2.heap[b]? = some (.cells #[.pointer (some ⟨b, 0, none⟩), .slice ao0 bs.length cap0] 57 (0, 0)) := by
    rw [hgrow.block b (by simp; omega) (fun e => hne e.symm), Lib.alloc_old w1 _ b hlt]
    exact hbk
  have d0 : w2.cell? ⟨b, 0, none⟩ = some (.pointer (some ⟨b, 0, none⟩)) := by rw [Lib.cell_of_heap hb2]; rfl
  have d1 : w2.cell? ⟨b, 1, none⟩ = some (.slice ao0 bs.length cap0) := by rw [Lib.cell_of_heap hb2]; rfl
  have f1 : w2.frozen? ⟨b, 1, none⟩ = false := Lib.frozen_of_heap hb2 1
  obtain ⟨g, cap, rfl⟩ : ∃ g cap, v' = .slice (some ⟨g, 0, none⟩) (bs.length + 1) cap := by
    rcases hown'.2 with ⟨_, h0⟩ | ⟨g, cap, cur, fz, hv, _⟩
    · omega
    · exact ⟨g, cap, hv⟩
  go_wp2
  go_ret
  refine ⟨rfl, Or.inr ?_, ?_⟩
  · exact Lib.BuilderAtF.put (T := 57) (e := 5) hB hb2 (bs' := bs ++ [.int .u8 c]) (by simpa using hown') (by decide)
  · exact ((hb1.alloc (by have := hb1.size; omega) _).grown hgrow (by have := hb1.size; simp; omega) (fun k hk => (hown.lt k hk).1)).setCell (p := ⟨b, 1, none⟩) hB _

set_option maxHeartbeats 2000000 in
set_option maxRecDepth 100000 in
theorem writeString (B b : Nat) (l : List UInt8) (s : ByteArray) (w : World) (h : Lib.IsBuilderF 57 5 B b (Lib.byteCells l) w) (hlen : l.length + s.size ≤ 140737488355328) (hBw : B ≤ w.heap.size) :
    Calls Tryd.prog 53 #[.pointer (some ⟨b, 0, none⟩), .string s] w fun e w' => e = .returned (.tuple #[.int .i64 s.size, .nilIface]) ∧ Lib.IsBuilderF 57 5 B b (Lib.byteCells (l ++ s.data.toList)) w' ∧ Below B w w' ∧ (∀ k, k < w.heap.size → k ≠ b → (∀ v, w.cell? ⟨b, 1, none⟩ = some v → v.ownBlock ≠ some k) → w'.heap[k]? = w.heap[k]?) := by
  rw [Lib.byteCells_append, ← Lib.strCells_eq]
  have hlen : (Lib.byteCells l).length + s.size ≤ 140737488355328 := by rw [Lib.byteCells_length]; exact hlen
  generalize Lib.byteCells l = bs at h hlen
  obtain ⟨i0, hi, hz0, hz1, hz2⟩ := info_parts infoByte
  go_enter Tryd.func53, Tryd.ntmps53
  go_wp2_with (go_at_call 82; refine (copyCheck B b bs _ h).mono ?_; rintro e w1 ⟨rfl, h1, hb1, hk1, hc1⟩; refine Hid.out ?_)
  refine Lib.hid ?_
  have HC1 := Lib.hid hc1
  have HK1 := Lib.hid hk1
  clear hc1 hk1
  obtain ⟨hB, v, hbk, hown, hne⟩ := h1
  obtain ⟨ao0, cap0, rfl⟩ : ∃ ao cap, v = .slice ao bs.length cap := by
    rcases hown.2 with ⟨hv, h0⟩ | ⟨g, cap, cur, fz, hv, _⟩
    · exact ⟨none, 0, by rw [hv, h0]⟩
    · exact ⟨_, _, hv⟩
  have c0 : w1.cell? ⟨b, 0, none⟩ = some (.pointer (some ⟨b, 0, none⟩)) := by rw [Lib.cell_of_heap hbk]; rfl
  have c1 : w1.cell? ⟨b, 1, none⟩ = some (.slice ao0 bs.length cap0) := by rw [Lib.cell_of_heap hbk]; rfl
  go_wp2_with (at_builtin; refine Lib.wpList_append_own_stringF _ rfl _ _ 29 9 rfl B 5 i0 Tryd.underlying29 Tryd.underlying9 hi hz0 hz1 hz2 _ _ _ rfl hown s rfl (by unfold maxLen; omega) (by omega) (by have := hb1.size; omega) ?_; intro v' w2 hown' hgrow _; refine Hid.out ?_)
  refine Lib.hid ?_
  have hlt : b < w1.heap.size := by
    rcases Nat.lt_or_ge b w1.heap.size with h' | h'
    · exact h'
    · simp [Array.getElem?_eq_none h'] at hbk
  have hb2 : w2.heap[b]? = some (.cells #[.pointer (some ⟨b, 0, none⟩), .slice ao0 bs.length cap0] 57 (0, 0)) := by
    rw [hgrow.block b hlt (fun e => hne e.symm)]
    exact hbk
  have d0 : w2.cell? ⟨b, 0, none⟩ = some (.pointer (some ⟨b, 0, none⟩)) := by rw [Lib.cell_of_heap hb2]; rfl
  have d1 : w2.cell? ⟨b, 1, none⟩ = some (.slice ao0 bs.length cap0) := by rw [Lib.cell_of_heap hb2]; rfl
  have f1 : w2.frozen? ⟨b, 1, none⟩ = false := Lib.frozen_of_heap hb2 1
  obtain ⟨ao, n', cap, rfl⟩ : ∃ ao n' cap, v' = .slice ao n' cap := by
    rcases hown'.2 with ⟨hv, _⟩ | ⟨g, cap, cur, fz, hv, _⟩
    · exact ⟨_, _, _, hv⟩
    · exact ⟨_, _, _, hv⟩
  go_wp2
  go_ret2
  refine ⟨rfl, Or.inr ?_, ?_, ?_⟩
  · exact Lib.BuilderAtF.put (T := 57) (e := 5) hB hb2 (bs' := bs ++ Lib.strCells s) (by simpa [Lib.strCells_length] using hown') (by decide)
  · exact (hb1.grown hgrow (by have := hb1.size; omega) (fun k hk => (hown.lt k hk).1)).setCell (p := ⟨b, 1, none⟩) hB _
  · intro k hk hkb hkv
    have h1 := hkv _ (by rw [← HC1.out]; exact c1)
    rw [show (w2.setCell ⟨b, 1, none⟩ (.slice ao n' cap)).heap[k]? = w2.heap[k]? by simp [World.setCell, Array.getElem?_modify, Ne.symm hkb], hgrow.block k (Nat.lt_of_lt_of_le hk hb1.size) (fun e => h1 e.symm)]
    exact HK1.out k hk hkb

set_option maxHeartbeats 2000000 in
set_option maxRecDepth 100000 in
/-- Write, of one byte that lies in another old block. -/
theorem write1 (B b : Nat) (bs : List Value) (g0 c0 : Nat) (c : Int) (w : World) (h : Lib.IsBuilderF 57 5 B b bs w) (hp : w.cell? ⟨g0, 0, none⟩ = some (.int .u8 c)) (hg : g0 ≠ b) (hlen : bs.length + 1 ≤ 140737488355328) (hBw : B ≤ w.heap.size) :
    Calls Tryd.prog 60 #[.pointer (some ⟨b, 0, none⟩), .slice (some ⟨g0, 0, none⟩) 1 c0] w fun e w' => (∃ v, e = .returned v) ∧ Lib.IsBuilderF 57 5 B b (bs ++ [.int .u8 c]) w' ∧ Below B w w' := by
  obtain ⟨i0, hi, hz0, hz1, hz2⟩ := info_parts infoByte
  have hg0 : g0 < w.heap.size := World.block_lt_of_cell? _ _ hp
  go_enter Tryd.func60, Tryd.ntmps60
  go_wp2_with (go_at_call 82; refine (copyCheck B b bs _ h).mono ?_; rintro e w1 ⟨rfl, h1, hb1, hk1, hc1⟩; refine Hid.out ?_)
  refine Lib.hid ?_
  have HC1 := Lib.hid hc1
  have HK1 := Lib.hid hk1
  clear hc1 hk1
  obtain ⟨hB, v, hbk, hown, hne⟩ := h1
  obtain ⟨ao0, cap0, rfl⟩ : ∃ ao cap, v = .slice ao bs.length cap := by
    rcases hown.2 with ⟨hv, h0⟩ | ⟨g, cap, cur, fz, hv, _⟩
    · exact ⟨none, 0, by rw [hv, h0]⟩
    · exact ⟨_, _, hv⟩
  have hp1 : w1.cell? ⟨g0, 0, none⟩ = some (.int .u8 c) := (World.cell?_of_block (a := ⟨g0, 0, none⟩) (HK1.out g0 hg0 hg)).trans hp
  have c0 : w1.cell? ⟨b, 0, none⟩ = some (.pointer (some ⟨b, 0, none⟩)) := by rw [Lib.cell_of_heap hbk]; rfl
  have c1 : w1.cell? ⟨b, 1, none⟩ = some (.slice ao0 bs.length cap0) := by rw [Lib.cell_of_heap hbk]; rfl
  go_wp2_with (at_builtin; refine wpList_append_ownF _ rfl _ _ 29 rfl B 5 i0 (.int .u8 0) 1 1 Tryd.underlying29 hi hz0 hz1 hz2 rfl (by decide) _ _ _ rfl hown ⟨g0, 0, none⟩ 1 _ [.int .u8 c] rfl rfl (by intro j u hj; match j, hj with | 0, hj => simp at hj; subst hj; simpa [Addr.add] using hp1) (by intro u hu; simp at hu; subst hu; rfl) (by unfold maxLen; omega) (by omega) (by have := hb1.size; omega) ?_; intro v' w2 hown' hgrow _; refine Hid.out ?_)
  refine Lib.hid ?_
  have hlt : b < w1.heap.size := by
    rcases Nat.lt_or_ge b w1.heap.size with h' | h'
    · exact h'
    · simp [Array.getElem?_eq_none h'] at hbk
  have hb2 : w2.heap[b]? = some (.cells #[.pointer (some ⟨b, 0, none⟩), .slice ao0 bs.length cap0] 57 (0, 0)) := by
    rw [hgrow.block b hlt (fun e => hne e.symm)]
    exact hbk
  have d0 : w2.cell? ⟨b, 0, none⟩ = some (.pointer (some ⟨b, 0, none⟩)) := by rw [Lib.cell_of_heap hb2]; rfl
  have d1 : w2.cell? ⟨b, 1, none⟩ = some (.slice ao0 bs.length cap0) := by rw [Lib.cell_of_heap hb2]; rfl
  have f1 : w2.frozen? ⟨b, 1, none⟩ = false := Lib.frozen_of_heap hb2 1
  obtain ⟨g, cap, rfl⟩ : ∃ g cap, v' = .slice (some ⟨g, 0, none⟩) (bs.length + 1) cap := by
    rcases hown'.2 with ⟨_, h0⟩ | ⟨g, cap, cur, fz, hv, _⟩
    · omega
    · exact ⟨g, cap, hv⟩
  go_wp2
  go_ret2
  refine ⟨⟨_, rfl⟩, Or.inr ?_, ?_⟩
  · exact Lib.BuilderAtF.put (T := 57) (e := 5) hB hb2 (bs' := bs ++ [.int .u8 c]) (by simpa using hown') (by decide)
  · exact (hb1.grown hgrow (by have := hb1.size; omega) (fun k hk => (hown.lt k hk).1)).setCell (p := ⟨b, 1, none⟩) hB _
end Go.Proofs.YtcohlcijgfdanaaDoor
