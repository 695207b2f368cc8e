/-
  laws.FnSection: how its arguments open, and the walk in the shell's form.
-/
import Derived.Test.YtoaedibfgegilaaGreatDoorSll
import Derived.Test.YtoaedibfgegilaaGreatDoorRows
import Derived.OpenShut
import Derived.ShutString
import Derived.LaidMore
import Derived.ChangeSlices
import Derived.Deep.Slices
import Derived.Laws.IdiomArrays
import Derived.Lib.LaidU8T
import Derived.Stop.LaidErr
namespace Go.Proofs.YtoaedibfgegilaaGreatDoor.up
set_option linter.unusedVariables false
set_option linter.unusedSimpArgs false
open Go.RowKit

theorem fields32 : ∃ fs, Tryz.prog.underlying 32 = some (.struct fs) ∧ (fs.toList.map fun f => (f.type, f.offset)) = [(3, 0), (4, 1), (4, 2), (2, 3), (3, 4), (4, 5), (4, 6), (3, 7), (3, 8)] := ⟨_, Tryz.underlying32, by kernel_rfl⟩

theorem list9 {α : Type} {cs : List α} (h : cs.length = 9) : ∃ c0 c1 c2 c3 c4 c5 c6 c7 c8, cs = [c0, c1, c2, c3, c4, c5, c6, c7, c8] := by
  match cs, h with
  | [c0, c1, c2, c3, c4, c5, c6, c7, c8], _ => exact ⟨c0, c1, c2, c3, c4, c5, c6, c7, c8, rfl⟩
open Go.ChangeShapes Go.WideShapes in
/-- Nine cells that read as an entry. -/
theorem entry_cells {H : Type} {enc : TypeId × Value → H} {W : World} {base : Nat} {spare : Nat → Bool} {held : Bool} {fuel : Nat} {cs : List Value} {x : DataW H × List MemPlace} (h : DataW.trod enc Tryz.prog W base spare held fuel 32 cs = some x) : ∃ e : st.Ent, cs = (st.entC e).toList := by
  obtain ⟨fs, hu, hfs⟩ := fields32
  obtain ⟨xs, n, _, rfl, hl, hlen, hf⟩ := DataW.trod_struct hu h
  have hc32 : Tryz.prog.cellsOf 32 = 9 := by kernel_rfl
  have hc3 : Tryz.prog.cellsOf 3 = 1 := by kernel_rfl
  have hc2 : Tryz.prog.cellsOf 2 = 1 := by kernel_rfl
  have hc4 : Tryz.prog.cellsOf 4 = 1 := by kernel_rfl
  rw [hc32] at hl
  have hsz : fs.size = 9 := by
    have := congrArg List.length hfs
    simpa using this
  have key : ∀ i t, ([(3, 0), (4, 1), (4, 2), (2, 3), (3, 4), (4, 5), (4, 6), (3, 7), (3, 8)] : List (TypeId × Nat))[i]? = some (t, i) → Tryz.prog.cellsOf t = 1 → ∃ y, DataW.trod enc Tryz.prog W base spare held n t ((cs.drop i).take 1) = some y := by
    intro i t hi ht
    rw [← hfs] at hi
    simp only [List.getElem?_map, Array.getElem?_toList] at hi
    obtain ⟨f, hfi, he⟩ := Option.map_eq_some_iff.1 hi
    obtain ⟨e1, e2⟩ := Prod.mk.inj he
    have h1 := hf i f hfi
    rw [e1, e2, ht] at h1
    have hil : i < xs.length := by
      have := (Array.getElem?_eq_some_iff.1 hfi).1
      omega
    exact ⟨xs[i], by rw [h1, List.getElem?_eq_getElem hil]⟩
  obtain ⟨c0, c1, c2, c3, c4, c5, c6, c7, c8, rfl⟩ := list9 hl
  obtain ⟨y0, h0⟩ := key 0 3 rfl hc3
  obtain ⟨y1, h1⟩ := key 1 4 rfl hc4
  obtain ⟨y2, h2⟩ := key 2 4 rfl hc4
  obtain ⟨y3, h3⟩ := key 3 2 rfl hc2
  obtain ⟨y4, h4⟩ := key 4 3 rfl hc3
  obtain ⟨y5, h5⟩ := key 5 4 rfl hc4
  obtain ⟨y6, h6⟩ := key 6 4 rfl hc4
  obtain ⟨y7, h7⟩ := key 7 3 rfl hc3
  obtain ⟨y8, h8⟩ := key 8 3 rfl hc3
  obtain ⟨n0, e0, _⟩ := DataW.trod_int Tryz.underlying3 h0
  obtain ⟨n1, e1, _⟩ := DataW.trod_bool Tryz.underlying4 h1
  obtain ⟨n2, e2, _⟩ := DataW.trod_bool Tryz.underlying4 h2
  obtain ⟨n3, e3, _⟩ := DataW.trod_int Tryz.underlying2 h3
  obtain ⟨n4, e4, _⟩ := DataW.trod_int Tryz.underlying3 h4
  obtain ⟨n5, e5, _⟩ := DataW.trod_bool Tryz.underlying4 h5
  obtain ⟨n6, e6, _⟩ := DataW.trod_bool Tryz.underlying4 h6
  obtain ⟨n7, e7, _⟩ := DataW.trod_int Tryz.underlying3 h7
  obtain ⟨n8, e8, _⟩ := DataW.trod_int Tryz.underlying3 h8
  simp at e0 e1 e2 e3 e4 e5 e6 e7 e8
  subst e0 e1 e2 e3 e4 e5 e6 e7 e8
  exact ⟨⟨n0, n1, n2, n3, n4, n5, n6, n7, n8⟩, rfl⟩

set_option maxRecDepth 100000 in
open Go.ChangeShapes Go.WideShapes in
/-- An argument []Entry reads as entries. -/
theorem open_ents22 {H : Type} {enc : TypeId × Value → H} {W : World} {b0 : Nat} {v : Value} {d : DataW H} {ps : List MemPlace} (hval : Value.okWide Tryz.prog W .any b0 22 v) (hd : DataW.Trod enc Tryz.prog W 0 (fun _ => true) true 22 v d ps) : ∃ (N : Nat) (f : Nat → st.Ent), st.EntsV W v N f := by
  obtain ⟨a0, len0, cap0, rfl⟩ := okWide_slice Tryz.underlying22 hval
  obtain ⟨fuel, hf⟩ := hd
  rcases Go.Deep.open_slice Tryz.underlying22 hf with ⟨h, _⟩ | ⟨a, len, cap, m, n, D, Pl, h, _, hl, hm, hmm, _, hx⟩
  · simp [Value.cells] at h
    obtain ⟨rfl, rfl, rfl⟩ := h
    exact ⟨0, fun _ => default, .inl ⟨rfl, _, _, rfl⟩⟩
  · simp [Value.cells] at h
    obtain ⟨rfl, rfl, rfl⟩ := h
    rw [if_pos rfl] at hmm
    subst hmm
    have hc32 : Tryz.prog.cellsOf 32 = 9 := by kernel_rfl
    rw [hc32] at hx
    have h1 : ∀ i, i < len0 → ∃ e : st.Ent, ∀ j u, (st.entC e)[j]? = some u → W.cell? ((a.add (i * 9)).add j) = some u := fun i hi => by
      obtain ⟨cs', h2, h3⟩ := hx i (by omega)
      obtain ⟨e, rfl⟩ := entry_cells h3
      obtain ⟨_, _, h4⟩ := World.cells?_some h2
      refine ⟨e, fun j u hj => ?_⟩
      have hj9 : j < 9 := (Array.getElem?_eq_some_iff.1 hj).1
      rw [h4 j hj9, Array.getElem?_toList]
      exact hj
    rcases Nat.eq_zero_or_pos len0 with h0 | h0
    · subst h0
      exact ⟨0, fun _ => default, .inl ⟨rfl, _, _, rfl⟩⟩
    · obtain ⟨e, he⟩ := h1 0 h0
      have h5 := he 0 _ rfl
      have hsp : a.spot = none := by
        simp only [Nat.zero_mul, Addr.add, if_true] at h5
        unfold World.cell? at h5
        split at h5
        · cases hs : a.spot with
          | none => rfl
          | some s => simp [hs] at h5
        · cases h5
      obtain ⟨bk, of, sp⟩ := a
      simp only at hsp
      subst hsp
      refine ⟨len0, fun i => if h : i < len0 then (h1 i h).choose else default, .inr ⟨bk, of, _, rfl, hl, hm, fun i hi j u hj => ?_⟩⟩
      simp only [hi, dif_pos] at hj
      have := (h1 i hi).choose_spec j u hj
      rwa [addr_add, addr_add] at this

set_option maxRecDepth 100000 in
open Go.ChangeShapes Go.WideShapes in
/-- An argument []int reads as numbers. -/
theorem open_ints23 {H : Type} {enc : TypeId × Value → H} {W : World} {b0 : Nat} {v : Value} {d : DataW H} {ps : List MemPlace} (hval : Value.okWide Tryz.prog W .any b0 23 v) (hd : DataW.Trod enc Tryz.prog W 0 (fun _ => true) true 23 v d ps) : ∃ (N : Nat) (z : Nat → Int), st.IntsV W v N z := by
  obtain ⟨a0, len0, cap0, rfl⟩ := okWide_slice Tryz.underlying23 hval
  obtain ⟨fuel, hf⟩ := hd
  rcases open_ints Tryz.underlying23 Tryz.underlying3 (by kernel_rfl) hf with ⟨h, _⟩ | ⟨a, len, cap, zs, h, _, hl, hm, hlen, _, hc, hw⟩
  · simp [Value.cells] at h
    obtain ⟨rfl, rfl, rfl⟩ := h
    exact ⟨0, fun _ => 0, .inl ⟨rfl, _, _, rfl⟩⟩
  · simp [Value.cells] at h
    obtain ⟨rfl, rfl, rfl⟩ := h
    rw [if_pos rfl] at hlen
    rcases Nat.eq_zero_or_pos len0 with h0 | h0
    · subst h0
      exact ⟨0, fun _ => 0, .inl ⟨rfl, _, _, rfl⟩⟩
    · have h5 := hc 0 (by omega)
      have hsp : a.spot = none := by
        simp only [Addr.add, if_true] at h5
        unfold World.cell? at h5
        split at h5
        · cases hs : a.spot with
          | none => rfl
          | some s => simp [hs] at h5
        · cases h5
      obtain ⟨bk, of, sp⟩ := a
      simp only at hsp
      subst hsp
      refine ⟨len0, fun i => zs.getD i 0, .inr ⟨bk, of, _, rfl, hl, hm, fun i hi => ?_⟩⟩
      have := hc i (by omega)
      rwa [addr_add] at this
end Go.Proofs.YtoaedibfgegilaaGreatDoor.up
namespace Go.Proofs.YtoaedibfgegilaaGreatDoor
open Go.RowKit
def fnSectionTab (w : World) : Prop := st.Tab w
theorem fnSection_tab {W : World} (h : laidMetH Tryz.prog Rows.fnSectionRow.laid W) : fnSectionTab W := by
  have h : laidMet Tryz.prog Rows.fnSectionRow.laid W := h
  have h := h.tail.tail
  have e : (Rows.laid_internal_strconv_uint64pow10 : DataW Unit) = Lib.tabData .u64 Lib.pow10Tab := by kernel_rfl
  rw [e] at h
  exact Lib.tabIs_of_head (g := 4) (t := 153) (n := 20) st.gPow (by kernel_rfl) (by kernel_rfl) Tryz.underlying124 (by kernel_rfl) (by kernel_rfl) h
theorem fnSection_walk (v : Value) (n : Nat) (f : Nat → st.Ent) (sv : Value) (N : Nat) (zs : Nat → Int) (en : Int) (w : World) (hT : fnSectionTab w) (hD : st.EntsV w v n f) (hI : st.IntsV w sv N zs) (_ : (Lit.int .i64 en).wf = true) :
    Calls Tryz.prog 3 #[v, sv, .int .i64 en] w fun e w' => e = .returned (.bool true) ∧ Below w.heap.size w w' := st.law3 v n f sv N zs en w hD hI hT
end Go.Proofs.YtoaedibfgegilaaGreatDoor
