/-
  The table: what is in it, what a row adds.
-/
import Derived.Test.YtmkacgffdoifbaaDoorCre
import Derived.Test.YtmkacgffdoifbaaDoorRpl
namespace Go.Proofs.YtmkacgffdoifbaaDoor.se
open Go.RowKit Go.MapKept Go.ChangeMaps
set_option linter.unusedVariables false
set_option linter.unusedSimpArgs false

theorem cell_block {w : World} {a : Addr} {v : Value} (h : w.cell? a = some v) : ∃ c t z, w.heap[a.block]? = some (.cells c t z) := by
  unfold World.cell? at h
  split at h
  · exact ⟨_, _, _, by assumption⟩
  · cases h
theorem cell_not_map {w : World} {a : Addr} {v : Value} {m : Nat} {es : Array MapEntry} {c : Nat} (h : w.cell? a = some v) (hm : w.heap[m]? = some (.map es c)) : a.block ≠ m := fun e => by
  obtain ⟨_, _, _, h1⟩ := cell_block h
  rw [e, hm] at h1
  cases h1

/-- What the reader makes of an entry's row. -/
def CreA (w : World) (s : Nat) (S : List Int) (e : Ent) (en : Ending) (w' : World) : Prop :=
  ∃ q r, en = .returned (.agg (xC e.free e.comp q r)) ∧ w'.cell? ⟨q, 0, none⟩ = some (.int .i64 (aOf e)) ∧ w'.cell? ⟨r, 0, none⟩ = some (.int .i64 (bOf e)) ∧ Kept [s] w w' ∧ SetM w' s (if e.comp then S ++ [e.str] else S)
theorem create24 (e : Ent) {w0 w1 w2 : Nat} (hF : Fits e w0 w1 w2) (h1 : w1 ≤ 6) (n : Int) (s : Nat) (S : List Int) (w : World) (hS : SetM w s S) :
    Calls Tryd.prog 24 #[.int .i64 (kindOf e : Int), .int .i64 n, .int .i64 (aOf e), .int .i64 (bOf e), .int .i64 0, .map (some s), .int .i64 0] w fun en w' => CreA w s S e en w' := by
  have hlt : aOf e < 4611686018427387904 := by
    have h2 := hF.a1
    have h3 : (256 : Nat) ^ w1 ≤ 256 ^ 6 := Nat.pow_le_pow_right (by omega) h1
    have h4 : (256 : Nat) ^ 6 = 281474976710656 := by decide
    rw [← cast256] at h2
    omega
  have h0 := hF.a0
  have hone := hF.one
  obtain ⟨num, fr, cm, off, gen, hf, hg, str, idx⟩ := e
  cases cm
  · cases fr
    · refine (create24_1 n off gen s w ⟨h0, hlt⟩).mono ?_
      rintro en w' ⟨x, rfl, ⟨q, r, rfl, hq, hr⟩, hb⟩
      exact ⟨q, r, rfl, hq, hr, Kept.of_below hb _, hS.kept (Kept.of_below hb []) (by simp)⟩
    · refine (create24_0 n off gen s w).mono ?_
      rintro en w' ⟨x, rfl, ⟨q, r, rfl, hq, hr⟩, hb⟩
      exact ⟨q, r, rfl, hq, hr, Kept.of_below hb _, hS.kept (Kept.of_below hb []) (by simp)⟩
  · cases fr
    · refine (create24_2 n str idx s S w hS).mono ?_
      rintro en w' ⟨x, rfl, ⟨q, r, rfl, hq, hr⟩, hk, hS'⟩
      exact ⟨q, r, rfl, hq, hr, hk, hS'⟩
    · exact absurd ⟨rfl, rfl⟩ hone

/-- The table's entries. -/
def tabE (f : Nat → Ent) (b : Nat → Nat) (k : Nat) : Array MapEntry := ((List.range k).map fun i => { key := .int .i64 (f i).num, val := .pointer (some ⟨b i, 0, none⟩), born := i }).toArray
theorem tabE_congr {f : Nat → Ent} {b b' : Nat → Nat} {k : Nat} (h : ∀ i, i < k → b i = b' i) : tabE f b k = tabE f b' k := by
  unfold tabE
  congr 1
  apply List.map_congr_left
  intro i hi
  rw [h i (List.mem_range.1 hi)]
theorem tabE_succ (f : Nat → Ent) (b : Nat → Nat) (k : Nat) : tabE f b (k + 1) = (tabE f b k).push { key := .int .i64 (f k).num, val := .pointer (some ⟨b k, 0, none⟩), born := k } := by
  simp [tabE, List.range_succ]
theorem tabE_mem {f : Nat → Ent} {b : Nat → Nat} {k : Nat} {x : MapEntry} (h : x ∈ (tabE f b k).toList) : ∃ i, i < k ∧ x = { key := .int .i64 (f i).num, val := .pointer (some ⟨b i, 0, none⟩), born := i } := by
  simp [tabE] at h
  obtain ⟨i, hi, rfl⟩ := h
  exact ⟨i, hi, rfl⟩
def EntAt (w : World) (b : Nat) (e : Ent) : Prop := ∃ q r, w.heap[b]? = some (.cells (xC e.free e.comp q r) 78 (0, 0)) ∧ w.cell? ⟨q, 0, none⟩ = some (.int .i64 (aOf e)) ∧ w.cell? ⟨r, 0, none⟩ = some (.int .i64 (bOf e))
/-- Blocks that are no rows of cells. -/
def NoCells (w : World) (L : List Nat) : Prop := ∀ x ∈ L, ∀ c t z, w.heap[x]? ≠ some (.cells c t z)
theorem EntAt.kept {L : List Nat} {w w' : World} {b : Nat} {e : Ent} (h : EntAt w b e) (k : Kept L w w') (hL : NoCells w L) : EntAt w' b e := by
  obtain ⟨q, r, hb, hq, hr⟩ := h
  refine ⟨q, r, (k.block b (Array.getElem?_eq_some_iff.1 hb).1 (fun h => hL b h _ _ _ hb)).trans hb, k.cell hq (fun h => ?_), k.cell hr (fun h => ?_)⟩
  · obtain ⟨_, _, _, h1⟩ := cell_block hq
    exact hL _ h _ _ _ h1
  · obtain ⟨_, _, _, h1⟩ := cell_block hr
    exact hL _ h _ _ _ h1
theorem Kept.cell' {L : List Nat} {w w' : World} {a : Addr} {v : Value} (k : Kept L w w') (h : w.cell? a = some v) (hL : NoCells w L) : w'.cell? a = some v := k.cell h (fun hm => by
  obtain ⟨_, _, _, h1⟩ := cell_block h
  exact hL _ hm _ _ _ h1)
structure TabM (w : World) (m : Nat) (f : Nat → Ent) (k : Nat) : Prop where
  ex : ∃ b : Nat → Nat, w.heap[m]? = some (.map (tabE f b k) k) ∧ ∀ i, i < k → EntAt w (b i) (f i)
theorem TabM.kept {L : List Nat} {w w' : World} {m : Nat} {f : Nat → Ent} {n : Nat} (h : TabM w m f n) (k : Kept L w w') (hL : NoCells w L) (hm : m ∉ L) : TabM w' m f n := by
  obtain ⟨b, hb, he⟩ := h.ex
  exact ⟨b, (k.block m (Array.getElem?_eq_some_iff.1 hb).1 hm).trans hb, fun i hi => (he i hi).kept k hL⟩
theorem noCells_map {w : World} {m : Nat} {es : Array MapEntry} {c : Nat} (h : w.heap[m]? = some (.map es c)) : NoCells w [m] := fun x hx a t z e => by
  rw [List.mem_singleton.1 hx, h] at e
  cases e
/-- A new entry laid. -/
theorem TabM.put {w : World} {m : Nat} {f : Nat → Ent} {k : Nat} (h : TabM w m f k) {b : Nat} (hb : EntAt w b (f k)) (hr : ∀ i, i < k → (f i).num < (f k).num) :
    ∃ w', (Instr.mapUpdate 38 (.map (some m)) (.int .i64 (f k).num) (.pointer (some ⟨b, 0, none⟩))).run Tryd.prog w = .ok () w' ∧ TabM w' m f (k + 1) ∧ Kept [m] w w' ∧ ∃ es c, w'.heap[m]? = some (.map es c) := by
  obtain ⟨bb, hm, he⟩ := h.ex
  have hml : m < w.heap.size := (Array.getElem?_eq_some_iff.1 hm).1
  have hr2 := map_put (P := Tryd.prog) (mty := 38) Tryd.underlying38 Tryd.underlying3 hm (fun x hx => by
    obtain ⟨i, _, rfl⟩ := tabE_mem hx
    exact rfl) (key := .int .i64 (f k).num) rfl (fun x hx e => by
    obtain ⟨i, hi, rfl⟩ := tabE_mem hx
    have h1 := hr i hi
    have h2 : (f i).num = (f k).num := by simpa using e
    omega) (.pointer (some ⟨b, 0, none⟩))
  have hk := map_kept hm (.map ((tabE f bb k).push { key := .int .i64 (f k).num, val := .pointer (some ⟨b, 0, none⟩), born := k }) (k + 1))
  have hnew : ∀ o : Obj, (setBlock w m o).heap[m]? = some o := fun o => by simp [setBlock, hml]
  refine ⟨_, hr2, ⟨fun i => if i < k then bb i else b, ?_, fun i hi => ?_⟩, hk, _, _, hnew _⟩
  · rw [hnew, tabE_succ, tabE_congr (b := fun i => if i < k then bb i else b) (b' := bb) (fun i hi => by simp [hi])]
    simp
  · rcases Nat.lt_or_ge i k with h | h
    · simp only [h, if_true]
      exact (he i h).kept hk (noCells_map hm)
    · obtain rfl : i = k := by omega
      simp only [Nat.lt_irrefl, if_false]
      exact hb.kept hk (noCells_map hm)

theorem zero74 (w : World) : (zeroValue 74).run Tryd.prog w = .ok (.pointer none) w := by kernel_rfl
theorem exists23 (xt m : Nat) (f : Nat → Ent) (k : Nat) (n : Int) (w : World) (hx : w.cell? ⟨xt, 0, none⟩ = some (.map (some m))) (h : TabM w m f k) (hr : ∀ i, i < k → (f i).num < n) : Calls Tryd.prog 23 #[.pointer (some ⟨xt, 0, none⟩), .int .i64 n] w fun e w' => e = .returned (.bool false) ∧ w' = w := by
  obtain ⟨bb, hm, he⟩ := h.ex
  have hl := map_no (P := Tryd.prog) (mty := 38) (c := true) Tryd.underlying38 Tryd.underlying3 hm (fun x hx => by
    obtain ⟨i, _, rfl⟩ := tabE_mem hx
    exact rfl) (key := .int .i64 n) rfl (fun x hx e => by
    obtain ⟨i, hi, rfl⟩ := tabE_mem hx
    have h1 := hr i hi
    have h2 : (f i).num = n := by simpa using e
    omega) zero74
  simp only [if_true] at hl
  clear h hr hm he
  go_enter Tryd.func23, Tryd.ntmps23
  go_wp2_with fail
  go_ret
  exact ⟨rfl, rfl⟩
end Go.Proofs.YtmkacgffdoifbaaDoor.se
