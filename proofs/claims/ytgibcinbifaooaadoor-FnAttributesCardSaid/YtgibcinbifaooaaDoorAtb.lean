/-
  A strings.Builder that the call itself has made: WriteRune of ASCII.
-/
import Derived.Test.YtgibcinbifaooaaDoorAt2
import Derived.Test.YtgibcinbifaooaaDoorShelf
import Derived.Lib.FrozenHead2
import Derived.Lib.OthersKept
import Derived.Lib.Strings
import Derived.Lib.Slices
import Derived.Lib.Walk
import Derived.Lib.Builder
import Derived.Lib.AppendStr
import Derived.Lib.UnsafeStr
import Derived.Laws.Externs
namespace Go.Proofs.YtgibcinbifaooaaDoor.att
open Go.RowKit

theorem infoByte : (Tryd.prog.info? 5).map (fun i => (i.zero, i.size, i.bytes)) = some (some (.int .u8 0), 1, 1) := by kernel_rfl
theorem sizeB : (Tryd.prog.info? 53).map (·.size) = some 2 := by kernel_rfl
theorem liesB : liesAt Tryd.prog Tryd.prog.depth 53 (2 / Tryd.prog.cellsOf 53) 0 53 1 = true := by kernel_rfl

set_option maxHeartbeats 1000000 in
set_option maxRecDepth 100000 in
theorem ccUsed (b : Nat) (w : World) (h0 : w.cell? ⟨b, 0, none⟩ = some (.pointer (some ⟨b, 0, none⟩))) :
    Calls Tryd.prog 35 #[.pointer (some ⟨b, 0, none⟩)] w fun e w' => e = .returned (.tuple #[]) ∧ w' = w := by
  obtain ⟨j, hj, _⟩ := Option.map_eq_some_iff.1 sizeB
  go_enter Tryd.func35, Tryd.ntmps35
  go_wp2
  rw [Lib.run_neq_ptr_same w _ Tryd.underlying50 hj]
  go_wp2
  go_end0
  exact ⟨rfl, rfl⟩

set_option maxHeartbeats 1000000 in
set_option maxRecDepth 100000 in
theorem ccFresh (b : Nat) (w : World) (h0 : w.cell? ⟨b, 0, none⟩ = some (.pointer none)) (hsh : w.shape? b = some (53, 2)) (hfz : w.frozen? ⟨b, 0, none⟩ = false) :
    Calls Tryd.prog 35 #[.pointer (some ⟨b, 0, none⟩)] w fun e w' => e = .returned (.tuple #[]) ∧ w' = w.setCell ⟨b, 0, none⟩ (.pointer (some ⟨b, 0, none⟩)) := by
  obtain ⟨j, hj, hjs⟩ := Option.map_eq_some_iff.1 sizeB
  go_enter Tryd.func35, Tryd.ntmps35
  go_wp2
  rw [Lib.run_to_unsafe w ⟨b, 0, none⟩ Tryd.underlying50 Tryd.underlying80 hj (by rw [hjs]; decide) hsh (Nat.zero_lt_succ 1)]
  simp only [Result.andThen]
  rw [Oper.upon_value]
  go_wp2
  rw [run_callFunc_extern Tryd.func49 (by kernel_rfl) (by kernel_rfl) (by kernel_rfl) (e := Extern.AbiNoEscape.same) (by kernel_rfl)]
  rw [Lib.run_noEscape]
  simp only [Result.andThen]
  rw [Oper.upon_value]
  go_wp2
  rw [Lib.run_from_unsafe w ⟨b, 0, none⟩ Tryd.underlying80 Tryd.underlying50 hj hsh liesB]
  simp only [Result.andThen]
  rw [Oper.upon_value]
  go_wp2
  go_end0
  exact ⟨rfl, rfl⟩

theorem copyCheck (B b : Nat) (bs : List Value) (w : World) (h : Lib.IsBuilderF 53 5 B b bs w) :
    Calls Tryd.prog 35 #[.pointer (some ⟨b, 0, none⟩)] w fun e w' => e = .returned (.tuple #[]) ∧ Lib.BuilderAtF 53 5 B b (.pointer (some ⟨b, 0, none⟩)) bs w' ∧ Below B w w' ∧ (∀ k, k < w.heap.size → k ≠ b → w'.heap[k]? = w.heap[k]?) := by
  rcases h with h | h
  · refine (ccFresh b w h.cell0 h.shape h.frozen0).mono ?_
    rintro e w' ⟨rfl, rfl⟩
    exact ⟨rfl, h.used _, (Below.refl B w).setCell (p := ⟨b, 0, none⟩) h.1 _, fun k _ hk => by simp [World.setCell, Array.getElem?_modify, Ne.symm hk]⟩
  · refine (ccUsed b w h.cell0).mono ?_
    rintro e w' ⟨rfl, rfl⟩
    exact ⟨rfl, h, Below.refl B _, fun _ _ _ => rfl⟩

set_option maxHeartbeats 1000000 in
/-- utf8.AppendRune of ASCII. -/
theorem appendRune36 (B : Nat) (v : Value) (bs : List Value) (c : Int) (h0 : 0 ≤ c) (h1 : c ≤ 127) (w : World) (hown : w.ownsRowF B 5 1 v bs.length bs) (hlen : bs.length + 1 ≤ 140737488355328) (hBw : B ≤ w.heap.size) :
    Calls Tryd.prog 36 #[v, .int .i32 c] w fun e w' => ∃ v', e = .returned v' ∧ w'.ownsRowF B 5 1 v' (bs.length + 1) (bs ++ [.int .u8 c]) ∧ Below B w w' ∧ ∀ k, k < w.heap.size → some k ≠ v.ownBlock → w'.heap[k]? = w.heap[k]? := by
  obtain ⟨i0, hi, hz0, hz1, hz2⟩ := info_parts infoByte
  go_enter Tryd.func36, Tryd.ntmps36
  go_wp2_with (at_builtin; refine wpList_append_ownF _ rfl _ _ 51 rfl B 5 i0 (.int .u8 0) 1 1 Tryd.underlying51 hi hz0 hz1 hz2 rfl (by decide) _ _ _ rfl (hown.alloc _) ⟨w.heap.size, 0, none⟩ 1 1 [.int .u8 c] rfl rfl (by intro j u hj; match j, hj with | 0, hj => simp at hj; subst hj; simp [Addr.add]) (by intro u hu; simp at hu; subst hu; rfl) (by unfold maxLen; omega) (by omega) (by simp; omega) ?_; intro v' w2 hown' hgrow _; refine Hid.out ?_)
  refine Lib.hid ?_
  have hb2 := ((Below.refl B w).alloc hBw (.cells #[.int .u8 c] 5)).grown hgrow (by simp; omega) (fun k hk => (hown.lt k hk).1)
  have HO := Lib.hid hown'
  have HB := Lib.hid hb2
  have HK : Hid (∀ k, k < w.heap.size → some k ≠ v.ownBlock → w2.heap[k]? = w.heap[k]?) := Lib.hid fun k hk hne => by
    rw [hgrow.block k (by simp; omega) hne, Lib.alloc_old w _ k hk]
  clear hown' hb2 hgrow
  go_wp2_with fail
  go_ret
  exact ⟨v', rfl, HO.out, HB.out, HK.out⟩

set_option maxHeartbeats 2000000 in
set_option maxRecDepth 100000 in
theorem writeRune (B b : Nat) (bs : List Value) (c : Int) (h0 : 0 ≤ c) (h1 : c ≤ 127) (w : World) (h : Lib.IsBuilderF 53 5 B b bs w) (hlen : bs.length + 1 ≤ 140737488355328) (hBw : B ≤ w.heap.size) :
    Calls Tryd.prog 23 #[.pointer (some ⟨b, 0, none⟩), .int .i32 c] w fun e w' => e = .returned (.tuple #[.int .i64 1, .nilIface]) ∧ Lib.IsBuilderF 53 5 B b (bs ++ [.int .u8 c]) w' ∧ Below B w w' ∧ ∀ (k : Nat) (s : ByteArray) (p : Nat), w.heap[k]? = some (.stringIter s p) → w'.heap[k]? = some (.stringIter s p) := by
  go_enter Tryd.func23, Tryd.ntmps23
  go_wp2_with (go_at_call 35; refine (copyCheck B b bs _ h).mono ?_; rintro e w1 ⟨rfl, h1, hb1, hk1⟩; refine Hid.out ?_)
  refine Lib.hid ?_
  have HK1 := Lib.hid hk1
  clear hk1
  have hBw1 : B ≤ w1.heap.size := Nat.le_trans hBw hb1.size
  have HB1 := Lib.hid hb1
  clear hb1
  obtain ⟨hB, v, hbk, hown, hne⟩ := h1
  obtain ⟨ao0, cap0, rfl⟩ : ∃ ao cap, v = .slice ao bs.length cap := by
    rcases hown.2 with ⟨hv, h0⟩ | ⟨g, cap, cur, fz, hv, _⟩
    · exact ⟨none, 0, by rw [hv, h0]⟩
    · exact ⟨_, _, hv⟩
  have c0 : w1.cell? ⟨b, 0, none⟩ = some (.pointer (some ⟨b, 0, none⟩)) := by rw [Lib.cell_of_heap hbk]; rfl
  have c1 : w1.cell? ⟨b, 1, none⟩ = some (.slice ao0 bs.length cap0) := by rw [Lib.cell_of_heap hbk]; rfl
  have hc36 := Lib.hid (appendRune36 B _ bs c h0 ‹c ≤ 127› w1 hown hlen hBw1)
  have HOWN := Lib.hid hown
  have hlt : b < w1.heap.size := by
    rcases Nat.lt_or_ge b w1.heap.size with h' | h'
    · exact h'
    · simp [Array.getElem?_eq_none h'] at hbk
  have HBK := Lib.hid hbk
  clear hown hbk
  go_wp2_with (go_at_call 36; refine hc36.out.mono ?_; rintro e w2 ⟨v', rfl, hown', hb2, hk2⟩; refine Hid.out ?_)
  refine Lib.hid ?_
  have hb2' : w2.heap[b]? = some (.cells #[.pointer (some ⟨b, 0, none⟩), .slice ao0 bs.length cap0] 53 (0, 0)) := by
    rw [hk2 b hlt (fun e => hne e.symm)]
    exact HBK.out
  have d0 : w2.cell? ⟨b, 0, none⟩ = some (.pointer (some ⟨b, 0, none⟩)) := by rw [Lib.cell_of_heap hb2']; rfl
  have d1 : w2.cell? ⟨b, 1, none⟩ = some (.slice ao0 bs.length cap0) := by rw [Lib.cell_of_heap hb2']; rfl
  have f1 : w2.frozen? ⟨b, 1, none⟩ = false := Lib.frozen_of_heap hb2' 1
  obtain ⟨g, cap, rfl⟩ : ∃ g cap, v' = .slice (some ⟨g, 0, none⟩) (bs.length + 1) cap := by
    rcases hown'.2 with ⟨_, h0⟩ | ⟨g, cap, cur, fz, hv, _⟩
    · omega
    · exact ⟨g, cap, hv⟩
  have HO' := Lib.hid hown'
  have HB2 := Lib.hid hb2
  have HK2 := Lib.hid hk2
  have HBK2 := Lib.hid hb2'
  clear hown' hb2 hk2 hb2'
  go_wp2_with fail
  refine bodyPost_ret (v := .tuple #[.int .i64 1, .nilIface]) (by simp [results, Tryd.results23, go_sem]; omega) rfl ⟨rfl, Or.inr ?_, ?_, ?_⟩
  · exact Lib.BuilderAtF.put (T := 53) (e := 5) hB HBK2.out (bs' := bs ++ [.int .u8 c]) (by simpa using HO'.out) (by decide)
  · exact (HB1.out.trans HB2.out).setCell (p := ⟨b, 1, none⟩) hB _
  · intro k s p hk
    have hkb : k ≠ b := by
      intro e
      rcases h with h | h
      · obtain ⟨_, v0, hb0, _⟩ := h
        rw [← e, hk] at hb0
        cases hb0
      · obtain ⟨_, v0, hb0, _⟩ := h
        rw [← e, hk] at hb0
        cases hb0
    have hk0 : k < w.heap.size := (Array.getElem?_eq_some_iff.1 hk).1
    have hk1 := (HK1.out k hk0 hkb).trans hk
    have hne2 : some k ≠ (Value.slice ao0 bs.length cap0).ownBlock := by
      intro e
      rcases HOWN.out.2 with ⟨hv, _⟩ | ⟨g0, cap1, cur, fz, hv, _, hg0, _⟩
      · rw [hv] at e; cases e
      · rw [hv] at e
        obtain rfl : k = g0 := by simpa [Value.ownBlock] using e
        rw [hk1] at hg0
        cases hg0
    rw [show (w2.setCell ⟨b, 1, none⟩ (.slice (some ⟨g, 0, none⟩) (bs.length + 1) cap)).heap[k]? = w2.heap[k]? by simp [World.setCell, Array.getElem?_modify, Ne.symm hkb], HK2.out k (Nat.lt_of_lt_of_le hk0 HB1.out.size) hne2]
    exact hk1
end Go.Proofs.YtgibcinbifaooaaDoor.att
