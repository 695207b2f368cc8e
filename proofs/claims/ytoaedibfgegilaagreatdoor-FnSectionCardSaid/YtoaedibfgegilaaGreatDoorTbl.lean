/-
  The table: what is in it, what an entry adds.
-/
import Derived.Test.YtoaedibfgegilaaGreatDoorSda
namespace Go.Proofs.YtoaedibfgegilaaGreatDoor.st
open Go.RowKit Go.MapKept Go.ChangeMaps
set_option linter.unusedVariables false
set_option linter.unusedSimpArgs false

/-- The cells of a table's entry. -/
def xC (fr : Bool) (q r : Nat) : Array Value := #[.bool fr, .pointer (some ⟨q, 0, none⟩), .pointer (some ⟨r, 0, none⟩), .int .i64 0, .int .i64 0, .nilIface, .bool false, .pointer none, .pointer none, .bool false, .bool false]
/-- Blocks that the scanner writes: its buffer, its own struct, the reader's. -/
def Busy : Obj → Prop
  | .cells _ t _ => t = 5 ∨ t = 84 ∨ t = 86
  | _ => False
/-- What the scanner leaves as it was. -/
structure KeepT (w w' : World) : Prop where
  os : w'.os = w.os
  tape : w'.tape = w.tape
  output : w'.output = w.output
  size : w.heap.size ≤ w'.heap.size
  block : ∀ (k : Nat) (o : Obj), w.heap[k]? = some o → ¬ Busy o → w'.heap[k]? = some o
theorem KeepT.refl (w : World) : KeepT w w := ⟨rfl, rfl, rfl, Nat.le_refl _, fun _ _ h _ => h⟩
theorem KeepT.trans {a b c : World} (h : KeepT a b) (k : KeepT b c) : KeepT a c := ⟨k.os.trans h.os, k.tape.trans h.tape, k.output.trans h.output, Nat.le_trans h.size k.size, fun i o hi hn => k.block i o (h.block i o hi hn) hn⟩
theorem KeepT.of_kept {a b : World} (h : Kept [] a b) : KeepT a b := ⟨h.os, h.tape, h.output, h.size, fun k o hk _ => (h.block k (Array.getElem?_eq_some_iff.1 hk).1 (by simp)).trans hk⟩
/-- Writes to busy blocks alone. -/
theorem KeepT.of_busy {L : List Nat} {a b : World} (h : Kept L a b) (hL : ∀ x ∈ L, ∀ o, a.heap[x]? = some o → Busy o) : KeepT a b :=
  ⟨h.os, h.tape, h.output, h.size, fun k o hk hn => (h.block k (Array.getElem?_eq_some_iff.1 hk).1 (fun hm => hn (hL k hm o hk))).trans hk⟩

def EntAt (w : World) (b : Nat) (e : Ent) : Prop := ∃ q r, w.heap[b]? = some (.cells (xC e.free q r) 72 (0, 0)) ∧ w.heap[q]? = some (.cells #[.int .i64 e.off] 2 (0, 0)) ∧ w.heap[r]? = some (.cells #[.int .i64 e.gen] 3 (0, 0))
theorem EntAt.keep {w w' : World} {b : Nat} {e : Ent} (h : EntAt w b e) (k : KeepT w w') : EntAt w' b e := by
  obtain ⟨q, r, hb, hq, hr⟩ := h
  exact ⟨q, r, k.block _ _ hb (by simp [Busy]), k.block _ _ hq (by simp [Busy]), k.block _ _ hr (by simp [Busy])⟩
theorem EntAt.map {w : World} {b m : Nat} {e : Ent} {es : Array MapEntry} {c : Nat} (h : EntAt w b e) (hm : w.heap[m]? = some (.map es c)) (o : Obj) : EntAt (setBlock w m o) b e := by
  obtain ⟨q, r, hb, hq, hr⟩ := h
  have k := map_kept hm o
  have n : ∀ (x : Nat) (c : Array Value) (t : TypeId) (z : Nat × Nat), w.heap[x]? = some (.cells c t z) → x ∉ [m] := fun x c t z hx e => by
    rw [List.mem_singleton.1 e, hm] at hx
    cases hx
  exact ⟨q, r, (k.block _ (Array.getElem?_eq_some_iff.1 hb).1 (n _ _ _ _ hb)).trans hb, (k.block _ (Array.getElem?_eq_some_iff.1 hq).1 (n _ _ _ _ hq)).trans hq, (k.block _ (Array.getElem?_eq_some_iff.1 hr).1 (n _ _ _ _ hr)).trans hr⟩

/-- The table's entries. -/
def tabE (f : Nat → Ent) (b : Nat → Nat) (k : Nat) : Array MapEntry := ((List.range k).map fun i => { key := .int .i64 (f i).num, val := .pointer (some ⟨b i, 0, none⟩), born := i }).toArray
theorem tabE_congr {f : Nat → Ent} {b b' : Nat → Nat} {k : Nat} (h : ∀ i, i < k → b i = b' i) : tabE f b k = tabE f b' k := by
  unfold tabE
  congr 1
  apply List.map_congr_left
  intro i hi
  rw [h i (List.mem_range.1 hi)]
theorem tabE_succ (f : Nat → Ent) (b : Nat → Nat) (k : Nat) : tabE f b (k + 1) = (tabE f b k).push { key := .int .i64 (f k).num, val := .pointer (some ⟨b k, 0, none⟩), born := k } := by
  simp [tabE, List.range_succ]
theorem tabE_mem {f : Nat → Ent} {b : Nat → Nat} {k : Nat} {x : MapEntry} (h : x ∈ (tabE f b k).toList) : ∃ i, i < k ∧ x = { key := .int .i64 (f i).num, val := .pointer (some ⟨b i, 0, none⟩), born := i } := by
  simp [tabE] at h
  obtain ⟨i, hi, rfl⟩ := h
  exact ⟨i, hi, rfl⟩
structure TabM (w : World) (m : Nat) (f : Nat → Ent) (k : Nat) : Prop where
  ex : ∃ b : Nat → Nat, w.heap[m]? = some (.map (tabE f b k) k) ∧ ∀ i, i < k → EntAt w (b i) (f i)
theorem TabM.keep {w w' : World} {m : Nat} {f : Nat → Ent} {n : Nat} (h : TabM w m f n) (k : KeepT w w') : TabM w' m f n := by
  obtain ⟨b, hb, he⟩ := h.ex
  exact ⟨b, k.block m _ hb (by simp [Busy]), fun i hi => (he i hi).keep k⟩
/-- A new entry laid. -/
theorem TabM.put {w : World} {m : Nat} {f : Nat → Ent} {k : Nat} (h : TabM w m f k) {b : Nat} (hb : EntAt w b (f k)) (hr : ∀ i, i < k → (f i).num < (f k).num) :
    ∃ w', (Instr.mapUpdate 38 (.map (some m)) (.int .i64 (f k).num) (.pointer (some ⟨b, 0, none⟩))).run Tryz.prog w = .ok () w' ∧ TabM w' m f (k + 1) ∧ Kept [m] w w' := by
  obtain ⟨bb, hm, he⟩ := h.ex
  have hml : m < w.heap.size := (Array.getElem?_eq_some_iff.1 hm).1
  have hr2 := map_put (P := Tryz.prog) (mty := 38) Tryz.underlying38 Tryz.underlying3 hm (fun x hx => by
    obtain ⟨i, _, rfl⟩ := tabE_mem hx
    exact rfl) (key := .int .i64 (f k).num) rfl (fun x hx e => by
    obtain ⟨i, hi, rfl⟩ := tabE_mem hx
    have h1 := hr i hi
    have h2 : (f i).num = (f k).num := by simpa using e
    omega) (.pointer (some ⟨b, 0, none⟩))
  have hk := map_kept hm (.map ((tabE f bb k).push { key := .int .i64 (f k).num, val := .pointer (some ⟨b, 0, none⟩), born := k }) (k + 1))
  have hnew : ∀ o : Obj, (setBlock w m o).heap[m]? = some o := fun o => by simp [setBlock, hml]
  refine ⟨_, hr2, ⟨fun i => if i < k then bb i else b, ?_, fun i hi => ?_⟩, hk⟩
  · rw [hnew, tabE_succ, tabE_congr (b := fun i => if i < k then bb i else b) (b' := bb) (fun i hi => by simp [hi])]
    simp
  · rcases Nat.lt_or_ge i k with h | h
    · simp only [h, if_true]
      exact (he i h).map hm _
    · obtain rfl : i = k := by omega
      simp only [Nat.lt_irrefl, if_false]
      exact hb.map hm _

theorem zero67 (w : World) : (zeroValue 67).run Tryz.prog w = .ok (.pointer none) w := by kernel_rfl
theorem exists34 (xt m : Nat) (f : Nat → Ent) (k : Nat) (n : Int) (w : World) (hx : w.cell? ⟨xt, 0, none⟩ = some (.map (some m))) (h : TabM w m f k) (hr : ∀ i, i < k → (f i).num < n) : Calls Tryz.prog 34 #[.pointer (some ⟨xt, 0, none⟩), .int .i64 n] w fun e w' => e = .returned (.bool false) ∧ w' = w := by
  obtain ⟨bb, hm, he⟩ := h.ex
  have hl := map_no (P := Tryz.prog) (mty := 38) (c := true) Tryz.underlying38 Tryz.underlying3 hm (fun x hx => by
    obtain ⟨i, _, rfl⟩ := tabE_mem hx
    exact rfl) (key := .int .i64 n) rfl (fun x hx e => by
    obtain ⟨i, hi, rfl⟩ := tabE_mem hx
    have h1 := hr i hi
    have h2 : (f i).num = n := by simpa using e
    omega) zero67
  simp only [if_true] at hl
  clear h hr hm he
  go_enter Tryz.func34, Tryz.ntmps34
  go_wp2_with fail
  go_ret
  exact ⟨rfl, rfl⟩
end Go.Proofs.YtoaedibfgegilaaGreatDoor.st
