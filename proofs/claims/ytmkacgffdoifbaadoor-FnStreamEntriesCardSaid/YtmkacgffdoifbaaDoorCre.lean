/-
  createXRefTableEntryFromXRefStream, the table, the set of object streams.
-/
import Derived.Test.YtmkacgffdoifbaaDoorSea
namespace Go.Proofs.YtmkacgffdoifbaaDoor.se
open Go.RowKit Go.MapKept Go.ChangeMaps
set_option linter.unusedVariables false
set_option linter.unusedSimpArgs false

/-- The cells of a table's entry. -/
def xC (fr cm : Bool) (q r : Nat) : Array Value :=
  if cm then #[.bool fr, .pointer none, .pointer none, .int .i64 0, .int .i64 0, .nilIface, .bool true, .pointer (some ⟨q, 0, none⟩), .pointer (some ⟨r, 0, none⟩), .bool false, .bool false]
  else #[.bool fr, .pointer (some ⟨q, 0, none⟩), .pointer (some ⟨r, 0, none⟩), .int .i64 0, .int .i64 0, .nilIface, .bool false, .pointer none, .pointer none, .bool false, .bool false]
/-- An entry that tells these numbers. -/
def XIs (w : World) (x : Array Value) (fr cm : Bool) (a b : Int) : Prop :=
  ∃ q r, x = xC fr cm q r ∧ w.cell? ⟨q, 0, none⟩ = some (.int .i64 a) ∧ w.cell? ⟨r, 0, none⟩ = some (.int .i64 b)

/-- The set of object streams. -/
structure SetM (w : World) (s : Nat) (S : List Int) : Prop where
  ex : ∃ es clock, w.heap[s]? = some (.map es clock) ∧ (∀ x ∈ es.toList, ∃ n, x.key = .int .i64 n ∧ n ∈ S) ∧ (∀ n ∈ S, ∃ x ∈ es.toList, x.key = .int .i64 n) ∧ (es.toList.Pairwise fun x y => x.key ≠ y.key) ∧ (es.toList.map (·.born)).Nodup ∧ (∀ x ∈ es.toList, x.born < clock)
theorem SetM.kept {L : List Nat} {w w' : World} {s : Nat} {S : List Int} (h : SetM w s S) (k : Kept L w w') (hs : s ∉ L) : SetM w' s S := by
  obtain ⟨es, clock, hb, h1⟩ := h.ex
  exact ⟨es, clock, (k.block s (Array.getElem?_eq_some_iff.1 hb).1 hs).trans hb, h1⟩
theorem modify_key {es : Array MapEntry} {j : Nat} {e : MapEntry} (hj : es[j]? = some e) (val : Value) : ∀ P : Value → Nat → Prop, (∀ x ∈ es.toList, P x.key x.born) → ∀ x ∈ (es.modify j fun e' => { e' with key := e.key, val := val }).toList, P x.key x.born := by
  intro P h x hx
  rw [List.mem_iff_getElem?] at hx
  obtain ⟨i, hi⟩ := hx
  rw [Array.getElem?_toList, Array.getElem?_modify] at hi
  by_cases hij : j = i
  · subst hij
    rw [if_pos rfl, hj] at hi
    simp at hi
    subst hi
    exact h e (by rw [List.mem_iff_getElem?]; exact ⟨j, by simpa using hj⟩)
  · rw [if_neg hij] at hi
    exact h x (by rw [List.mem_iff_getElem?]; exact ⟨i, by simpa using hi⟩)
theorem modify_maps {es : Array MapEntry} {j : Nat} {e : MapEntry} (hj : es[j]? = some e) (val : Value) : (es.modify j fun e' => { e' with key := e.key, val := val }).toList.map (fun x => (x.key, x.born)) = es.toList.map (fun x => (x.key, x.born)) := by
  apply List.ext_getElem?
  intro i
  simp only [List.getElem?_map, Array.getElem?_toList, Array.getElem?_modify]
  by_cases hij : j = i
  · subst hij
    rw [if_pos rfl, hj]
    rfl
  · rw [if_neg hij]
/-- A number told to the set. -/
theorem SetM.put {w : World} {s : Nat} {S : List Int} (h : SetM w s S) (a : Int) : ∃ w', (Instr.mapUpdate 48 (.map (some s)) (.int .i64 a) (.bool true)).run Tryd.prog w = .ok () w' ∧ SetM w' s (S ++ [a]) ∧ Kept [s] w w' := by
  obtain ⟨es, clock, hb, h1, h2, h3, h4, h5⟩ := h.ex
  have hsl : s < w.heap.size := (Array.getElem?_eq_some_iff.1 hb).1
  have hks : ∀ x ∈ es.toList, IsKey (.int .i64) x.key := fun x hx => by
    obtain ⟨n, hn, _⟩ := h1 x hx
    rw [hn]
    exact rfl
  have hnew : ∀ o : Obj, (setBlock w s o).heap[s]? = some o := fun o => by simp [setBlock, hsl]
  by_cases hin : ∃ x ∈ es.toList, x.key = .int .i64 a
  · obtain ⟨j, e, hj, hk, hr⟩ := map_set (P := Tryd.prog) (mty := 48) Tryd.underlying48 Tryd.underlying3 hb hks (key := .int .i64 a) rfl hin (.bool true)
    have hm := modify_maps hj (.bool true)
    have hm' := modify_key hj (.bool true)
    rw [hk] at hm hm'
    generalize (es.modify j fun e' => { e' with key := Value.int .i64 a, val := Value.bool true }) = es' at hr hm hm'
    have hkey : es'.toList.map (·.key) = es.toList.map (·.key) := by
      have := congrArg (List.map Prod.fst) hm
      simpa [List.map_map, Function.comp_def] using this
    have hborn : es'.toList.map (·.born) = es.toList.map (·.born) := by
      have := congrArg (List.map Prod.snd) hm
      simpa [List.map_map, Function.comp_def] using this
    have ha : a ∈ S := by
      obtain ⟨x, hx, hxk⟩ := hin
      obtain ⟨n, hn, hnS⟩ := h1 x hx
      rw [hxk] at hn
      have : a = n := by simpa using hn
      rw [this]
      exact hnS
    refine ⟨_, hr, ⟨es', clock, hnew _, ?_, ?_, ?_, ?_, ?_⟩, map_kept hb _⟩
    · intro x hx
      obtain ⟨n, hn, hS⟩ := hm' (fun k _ => ∃ n, k = .int .i64 n ∧ n ∈ S) h1 x hx
      exact ⟨n, hn, by simp [hS]⟩
    · intro n hn
      have hnS : n ∈ S := by
        rcases List.mem_append.1 hn with h | h
        · exact h
        · rw [List.mem_singleton.1 h]
          exact ha
      obtain ⟨x, hx, hxk⟩ := h2 n hnS
      have : (Value.int .i64 n) ∈ es'.toList.map (·.key) := by
        rw [hkey, List.mem_map]
        exact ⟨x, hx, hxk⟩
      obtain ⟨y, hy, hyk⟩ := List.mem_map.1 this
      exact ⟨y, hy, hyk⟩
    · have := (List.pairwise_map (f := fun x : MapEntry => x.key) (R := fun x y => x ≠ y) (l := es.toList)).2 h3
      rw [← hkey] at this
      exact List.pairwise_map.1 this
    · rw [hborn]
      exact h4
    · exact hm' (fun _ b => b < clock) h5
  · have hn : ∀ x ∈ es.toList, x.key ≠ .int .i64 a := fun x hx e => hin ⟨x, hx, e⟩
    have hr := map_put (P := Tryd.prog) (mty := 48) Tryd.underlying48 Tryd.underlying3 hb hks (key := .int .i64 a) rfl hn (.bool true)
    refine ⟨_, hr, ⟨_, _, hnew _, ?_, ?_, ?_, ?_, ?_⟩, map_kept hb _⟩
    · intro x hx
      simp at hx
      rcases hx with hx | rfl
      · obtain ⟨n, hn, hS⟩ := h1 x (by simpa using hx)
        exact ⟨n, hn, by simp [hS]⟩
      · exact ⟨a, rfl, by simp⟩
    · intro n hn
      rcases List.mem_append.1 hn with h | h
      · obtain ⟨x, hx, hxk⟩ := h2 n h
        exact ⟨x, by simp; left; simpa using hx, hxk⟩
      · rw [List.mem_singleton.1 h]
        exact ⟨_, by simp; right; rfl, rfl⟩
    · rw [Array.toList_push, List.pairwise_append]
      refine ⟨h3, by simp, fun x hx y hy => ?_⟩
      rw [List.mem_singleton.1 hy]
      exact hn x hx
    · rw [Array.toList_push, List.map_append, List.nodup_append]
      refine ⟨h4, by simp, fun x hx y hy => ?_⟩
      simp at hy
      obtain ⟨z, hz, rfl⟩ := List.mem_map.1 hx
      have := h5 z hz
      omega
    · intro x hx
      simp at hx
      rcases hx with hx | rfl
      · have := h5 x (by simpa using hx)
        omega
      · simp

/-- What the reader makes of a row's three numbers. -/
def CreE (w : World) (fr cm : Bool) (a b : Int) (e : Ending) (w' : World) : Prop := ∃ x, e = .returned (.agg x) ∧ XIs w' x fr cm a b ∧ Below w.heap.size w w'
def CreS (w : World) (s : Nat) (S : List Int) (a b : Int) (e : Ending) (w' : World) : Prop := ∃ x, e = .returned (.agg x) ∧ XIs w' x false true a b ∧ Kept [s] w w' ∧ SetM w' s (S ++ [a])

theorem fin_alloc {w : World} {c : Array Value} {t : TypeId} {k o : Nat} {v : Value} (h : w.heap[k]? = some (.cells c t (0, 0))) (hv : c[o]? = some v) : w.cell? ⟨k, o, none⟩ = some v := by rw [cellsOf h]; exact hv

set_option maxHeartbeats 2000000 in
set_option maxRecDepth 100000 in
theorem create24_0 (n a b : Int) (s : Nat) (w : World) : Calls Tryd.prog 24 #[.int .i64 0, .int .i64 n, .int .i64 a, .int .i64 b, .int .i64 0, .map (some s), .int .i64 0] w fun e w' => CreE w true false a b e w' := by
  go_enter Tryd.func24, Tryd.ntmps24
  go_wp2_with fail
  refine bodyPost_ret (v := .agg (xC true false w.heap.size (w.heap.size + 1 + 1 + 1))) ?_ rfl ⟨_, rfl, ⟨_, _, rfl, by simp [go_sem], by simp [go_sem]⟩, ((((Below.refl _ _).alloc (Nat.le_refl _) _).alloc (by simp) _).alloc (by simp; omega) _).alloc (by simp; omega) _⟩
  have hres : Tryd.f24.results = #[.cell 14 78] := by kernel_rfl
  unfold xC
  simp only [results, hres]
  go_simp

set_option maxHeartbeats 2000000 in
set_option maxRecDepth 100000 in
theorem create24_1 (n a b : Int) (s : Nat) (w : World) (ha : 0 ≤ a ∧ a < 4611686018427387904) : Calls Tryd.prog 24 #[.int .i64 1, .int .i64 n, .int .i64 a, .int .i64 b, .int .i64 0, .map (some s), .int .i64 0] w fun e w' => CreE w false false a b e w' := by
  have e1 : IntKind.i64.wrap a = a := IntWalk.i64_in _ (by omega)
  clear ha
  go_enter Tryd.func24, Tryd.ntmps24
  go_wp2_with fail
  refine bodyPost_ret (v := .agg (xC false false w.heap.size (w.heap.size + 1 + 1 + 1))) ?_ rfl ⟨_, rfl, ⟨_, _, rfl, by simp [go_sem], by simp [go_sem]⟩, ((((Below.refl _ _).alloc (Nat.le_refl _) _).alloc (by simp) _).alloc (by simp; omega) _).alloc (by simp; omega) _⟩
  have hres : Tryd.f24.results = #[.cell 14 78] := by kernel_rfl
  unfold xC
  simp only [results, hres]
  go_simp

set_option maxHeartbeats 4000000 in
set_option maxRecDepth 100000 in
theorem create24_2 (n a b : Int) (s : Nat) (S : List Int) (w : World) (hS : SetM w s S) : Calls Tryd.prog 24 #[.int .i64 2, .int .i64 n, .int .i64 a, .int .i64 b, .int .i64 0, .map (some s), .int .i64 0] w fun e w' => CreS w s S a b e w' := by
  have hsl : s < w.heap.size := by
    obtain ⟨es, clock, hb, _⟩ := hS.ex
    exact (Array.getElem?_eq_some_iff.1 hb).1
  obtain ⟨W, hW⟩ : ∃ W, ((((w.alloc (.cells #[.int .i64 a] 2)).alloc (.cells #[Value.bool false, Value.pointer none, Value.pointer none, Value.int .i64 0, Value.int .i64 0, Value.nilIface, Value.bool false, Value.pointer none, Value.pointer none, Value.bool false, Value.bool false] 78)).alloc (.cells #[Value.bool false, Value.pointer none, Value.pointer none, Value.int .i64 0, Value.int .i64 0, Value.nilIface, Value.bool true, Value.pointer (some ⟨w.heap.size + 1 + 1 + 1, 0, none⟩), Value.pointer (some ⟨w.heap.size + 1 + 1 + 1 + 1, 0, none⟩), Value.bool false, Value.bool false] 78)).alloc (.cells #[.int .i64 a] 3)).alloc (.cells #[.int .i64 b] 3) = W := ⟨_, rfl⟩
  have k0 : Kept [] w W := by rw [← hW]; exact (((((Kept.refl _ _).alloc _).alloc _).alloc _).alloc _).alloc _
  obtain ⟨w', hr, hS', hk⟩ := (hS.kept k0 (by simp)).put a
  have hx : w'.heap[w.heap.size + 1 + 1]? = some (.cells #[Value.bool false, Value.pointer none, Value.pointer none, Value.int .i64 0, Value.int .i64 0, Value.nilIface, Value.bool true, Value.pointer (some ⟨w.heap.size + 1 + 1 + 1, 0, none⟩), Value.pointer (some ⟨w.heap.size + 1 + 1 + 1 + 1, 0, none⟩), Value.bool false, Value.bool false] 78 (0, 0)) := by
    rw [hk.block _ (by rw [← hW]; simp) (by simp; omega), ← hW]
    exact ((((Kept.refl [] _).alloc _).alloc _).block (w.heap.size + 1 + 1) (by simp) (by simp)).trans (by have := heap_alloc_new ((w.alloc (.cells #[.int .i64 a] 2)).alloc (.cells #[Value.bool false, Value.pointer none, Value.pointer none, Value.int .i64 0, Value.int .i64 0, Value.nilIface, Value.bool false, Value.pointer none, Value.pointer none, Value.bool false, Value.bool false] 78)) (.cells #[Value.bool false, Value.pointer none, Value.pointer none, Value.int .i64 0, Value.int .i64 0, Value.nilIface, Value.bool true, Value.pointer (some ⟨w.heap.size + 1 + 1 + 1, 0, none⟩), Value.pointer (some ⟨w.heap.size + 1 + 1 + 1 + 1, 0, none⟩), Value.bool false, Value.bool false] 78); simpa using this)
  have hz : w'.heap[w.heap.size + 1]? = some (.cells #[Value.bool false, Value.pointer none, Value.pointer none, Value.int .i64 0, Value.int .i64 0, Value.nilIface, Value.bool false, Value.pointer none, Value.pointer none, Value.bool false, Value.bool false] 78 (0, 0)) := by
    rw [hk.block _ (by rw [← hW]; simp) (by simp; omega), ← hW]
    exact (((((Kept.refl [] _).alloc _).alloc _).alloc _).block (w.heap.size + 1) (by simp) (by simp)).trans (by have := heap_alloc_new (w.alloc (.cells #[.int .i64 a] 2)) (.cells #[Value.bool false, Value.pointer none, Value.pointer none, Value.int .i64 0, Value.int .i64 0, Value.nilIface, Value.bool false, Value.pointer none, Value.pointer none, Value.bool false, Value.bool false] 78); simpa using this)
  have hq : w'.cell? ⟨w.heap.size + 1 + 1 + 1, 0, none⟩ = some (.int .i64 a) := hk.cell (by rw [← hW]; simp [go_sem]) (by simp; omega)
  have hp : w'.cell? ⟨w.heap.size + 1 + 1 + 1 + 1, 0, none⟩ = some (.int .i64 b) := hk.cell (by rw [← hW]; simp [go_sem]) (by simp; omega)
  have c0 : w'.cell? ⟨w.heap.size + 1 + 1, 0, none⟩ = some (Value.bool false) := cellsOf hx 0
  have c1 : w'.cell? ⟨w.heap.size + 1 + 1, 1, none⟩ = some (Value.pointer none) := cellsOf hx 1
  have c2 : w'.cell? ⟨w.heap.size + 1 + 1, 2, none⟩ = some (Value.pointer none) := cellsOf hx 2
  have c3 : w'.cell? ⟨w.heap.size + 1 + 1, 3, none⟩ = some (Value.int .i64 0) := cellsOf hx 3
  have c4 : w'.cell? ⟨w.heap.size + 1 + 1, 4, none⟩ = some (Value.int .i64 0) := cellsOf hx 4
  have c5 : w'.cell? ⟨w.heap.size + 1 + 1, 5, none⟩ = some (Value.nilIface) := cellsOf hx 5
  have c6 : w'.cell? ⟨w.heap.size + 1 + 1, 6, none⟩ = some (Value.bool true) := cellsOf hx 6
  have c7 : w'.cell? ⟨w.heap.size + 1 + 1, 7, none⟩ = some (Value.pointer (some ⟨w.heap.size + 1 + 1 + 1, 0, none⟩)) := cellsOf hx 7
  have c8 : w'.cell? ⟨w.heap.size + 1 + 1, 8, none⟩ = some (Value.pointer (some ⟨w.heap.size + 1 + 1 + 1 + 1, 0, none⟩)) := cellsOf hx 8
  have c9 : w'.cell? ⟨w.heap.size + 1 + 1, 9, none⟩ = some (Value.bool false) := cellsOf hx 9
  have c10 : w'.cell? ⟨w.heap.size + 1 + 1, 10, none⟩ = some (Value.bool false) := cellsOf hx 10
  have d0 : w'.cell? ⟨w.heap.size + 1, 0, none⟩ = some (Value.bool false) := cellsOf hz 0
  have d1 : w'.cell? ⟨w.heap.size + 1, 1, none⟩ = some (Value.pointer none) := cellsOf hz 1
  have d2 : w'.cell? ⟨w.heap.size + 1, 2, none⟩ = some (Value.pointer none) := cellsOf hz 2
  have d3 : w'.cell? ⟨w.heap.size + 1, 3, none⟩ = some (Value.int .i64 0) := cellsOf hz 3
  have d4 : w'.cell? ⟨w.heap.size + 1, 4, none⟩ = some (Value.int .i64 0) := cellsOf hz 4
  have d5 : w'.cell? ⟨w.heap.size + 1, 5, none⟩ = some (Value.nilIface) := cellsOf hz 5
  have d6 : w'.cell? ⟨w.heap.size + 1, 6, none⟩ = some (Value.bool false) := cellsOf hz 6
  have d7 : w'.cell? ⟨w.heap.size + 1, 7, none⟩ = some (Value.pointer none) := cellsOf hz 7
  have d8 : w'.cell? ⟨w.heap.size + 1, 8, none⟩ = some (Value.pointer none) := cellsOf hz 8
  have d9 : w'.cell? ⟨w.heap.size + 1, 9, none⟩ = some (Value.bool false) := cellsOf hz 9
  have d10 : w'.cell? ⟨w.heap.size + 1, 10, none⟩ = some (Value.bool false) := cellsOf hz 10
  have f0 : w'.frozen? ⟨w.heap.size + 1, 0, none⟩ = false := frozenOf hz 0
  have f1 : w'.frozen? ⟨w.heap.size + 1, 1, none⟩ = false := frozenOf hz 1
  have f2 : w'.frozen? ⟨w.heap.size + 1, 2, none⟩ = false := frozenOf hz 2
  have f3 : w'.frozen? ⟨w.heap.size + 1, 3, none⟩ = false := frozenOf hz 3
  have f4 : w'.frozen? ⟨w.heap.size + 1, 4, none⟩ = false := frozenOf hz 4
  have f5 : w'.frozen? ⟨w.heap.size + 1, 5, none⟩ = false := frozenOf hz 5
  have f6 : w'.frozen? ⟨w.heap.size + 1, 6, none⟩ = false := frozenOf hz 6
  have f7 : w'.frozen? ⟨w.heap.size + 1, 7, none⟩ = false := frozenOf hz 7
  have f8 : w'.frozen? ⟨w.heap.size + 1, 8, none⟩ = false := frozenOf hz 8
  have f9 : w'.frozen? ⟨w.heap.size + 1, 9, none⟩ = false := frozenOf hz 9
  have f10 : w'.frozen? ⟨w.heap.size + 1, 10, none⟩ = false := frozenOf hz 10
  have hwl : w.heap.size + 1 < w'.heap.size := World.block_lt_of_cell? _ _ d0
  have HF := Lib.hid (And.intro hS' (And.intro (k0.mono (by simp) |>.trans hk) (And.intro hq hp)))
  have HSL := Lib.hid hsl
  clear hS hS' hk k0 hx hz hq hp hsl
  subst hW
  go_enter Tryd.func24, Tryd.ntmps24
  go_wp2_with fail
  have hfin : ∀ V, Kept [w.heap.size + 1] w' V → CreS w s S a b (.returned (.agg (xC false true (w.heap.size + 1 + 1 + 1) (w.heap.size + 1 + 1 + 1 + 1)))) V := fun V k => by
    obtain ⟨h1, h2, h3, h4⟩ := HF.out
    have := HSL.out
    refine ⟨_, rfl, ⟨_, _, rfl, k.cell h3 (by simp; omega), k.cell h4 (by simp; omega)⟩, Kept.cut ((h2.mono (L' := [s, w.heap.size + 1]) (by simp)).trans (k.mono (by simp))) (by simp), h1.kept k (by simp; omega)⟩
  refine bodyPost_ret (v := .agg (xC false true (w.heap.size + 1 + 1 + 1) (w.heap.size + 1 + 1 + 1 + 1))) ?_ rfl (hfin _ ((((((((((((Kept.refl [w.heap.size + 1] w').setCell (by simp) _).setCell (by simp) _).setCell (by simp) _).setCell (by simp) _).setCell (by simp) _).setCell (by simp) _).setCell (by simp) _).setCell (by simp) _).setCell (by simp) _).setCell (by simp) _).setCell (by simp) _))
  have hres : Tryd.f24.results = #[.cell 14 78] := by kernel_rfl
  unfold xC
  simp only [results, hres]
  go_simp
end Go.Proofs.YtmkacgffdoifbaaDoor.se
