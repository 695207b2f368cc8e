/-
  Maps whose keys are strings or integers, entry by entry: what a store, a look-up and a step of a range do.
-/
import Derived.Test.YtoaedibfgegilaaGreatDoorKep
import Derived.Maps.RangeRun
import Derived.MapKept
namespace Go.Proofs.YtoaedibfgegilaaGreatDoor
set_option linter.unusedVariables false
set_option linter.unusedSimpArgs false
open Go.RowKit Go.MapKept Go.ChangeMaps

section
variable {P : Program} {w : World} {mty kt et : TypeId} {d : TypeDesc} {b : Nat} {es : Array MapEntry} {clock : Nat}

theorem map_kept {w : World} {b : Nat} {es : Array MapEntry} {clock : Nat} (hb : w.heap[b]? = some (.map es clock)) (o : Obj) : Kept [b] w (setBlock w b o) :=
  ⟨rfl, rfl, rfl, by simp [setBlock], fun k _ hn => heap_setBlock_other hb o (fun e => hn (by simp [e]))⟩
theorem map_size (w : World) (b : Nat) (o : Obj) : (setBlock w b o).heap.size = w.heap.size := by simp [setBlock]

/-- A key that is not there is laid behind the others. -/
theorem map_put (hm : P.underlying mty = some (.map kt et)) (hd : P.underlying kt = some d) (hb : w.heap[b]? = some (.map es clock)) (hks : ∀ x ∈ es.toList, IsKey d x.key) {key : Value} (hk : IsKey d key) (hnew : ∀ x ∈ es.toList, x.key ≠ key) (val : Value) :
    (Instr.mapUpdate mty (.map (some b)) key val).run P w = .ok () (setBlock w b (.map (es.push { key, val, born := clock }) (clock + 1))) := by
  rcases findNow_spec hk es.toList 0 hks with ⟨h1, h2⟩ | ⟨j, e, h1, h2, h3⟩
  · simp [Instr.mapUpdate, run_underlying hm, MapKept.run_getObj_map hb, run_checkKey hd hk, run_findKey hd h1, run_setObj_map _ hb, Result.andThen, setBlock]
  · exact absurd h3 (hnew e (List.mem_of_getElem? h2))

/-- A key that is there: its entry takes the new value. -/
theorem map_set (hm : P.underlying mty = some (.map kt et)) (hd : P.underlying kt = some d) (hb : w.heap[b]? = some (.map es clock)) (hks : ∀ x ∈ es.toList, IsKey d x.key) {key : Value} (hk : IsKey d key) (hold : ∃ x ∈ es.toList, x.key = key) (val : Value) :
    ∃ (j : Nat) (e : MapEntry), es[j]? = some e ∧ e.key = key ∧ (Instr.mapUpdate mty (.map (some b)) key val).run P w = .ok () (setBlock w b (.map (es.modify j fun e => { e with key := key, val := val }) clock)) := by
  rcases findNow_spec hk es.toList 0 hks with ⟨h1, h2⟩ | ⟨j, e, h1, h2, h3⟩
  · obtain ⟨x, hx, he⟩ := hold
    exact absurd he (h2 x hx)
  · have hj : es[j]? = some e := by simpa using h2
    exact ⟨j, e, hj, h3, by simp [Instr.mapUpdate, run_underlying hm, MapKept.run_getObj_map hb, run_checkKey hd hk, run_findKey hd h1, hj, h3, run_keyThatStays hk, run_setObj_map _ hb, Result.andThen, setBlock]⟩

theorem key_inj : ∀ {l : List MapEntry}, (l.Pairwise fun x y => x.key ≠ y.key) → ∀ {x y : MapEntry}, x ∈ l → y ∈ l → x.key = y.key → x = y
  | [], _, _, _, hx, _, _ => by simp at hx
  | a :: l, h, x, y, hx, hy, e => by
    rw [List.pairwise_cons] at h
    rcases List.mem_cons.1 hx with p | p <;> rcases List.mem_cons.1 hy with q | q
    · rw [p, q]
    · exact absurd (p ▸ e) (h.1 y q)
    · exact absurd (q ▸ e.symm) (h.1 x p)
    · exact key_inj h.2 p q e

/-- A look-up of a key that is there. -/
theorem map_get (hm : P.underlying mty = some (.map kt et)) (hd : P.underlying kt = some d) (hb : w.heap[b]? = some (.map es clock)) (hks : ∀ x ∈ es.toList, IsKey d x.key) (hn : es.toList.Pairwise fun x y => x.key ≠ y.key) {key : Value} (hk : IsKey d key) {x : MapEntry} (hx : x ∈ es.toList) (he : x.key = key) (c : Bool) :
    (Instr.lookup mty (.map (some b)) key c).run P w = .ok (if c then .tuple #[x.val, .bool true] else x.val) w := by
  rcases findNow_spec hk es.toList 0 hks with ⟨h1, h2⟩ | ⟨j, e, h1, h2, h3⟩
  · exact absurd he (h2 x hx)
  · have hex : e = x := key_inj hn (List.mem_of_getElem? h2) hx (h3.trans he.symm)
    subst hex
    cases c <;> simp [Instr.lookup, run_underlying hm, MapKept.run_getObj_map hb, run_checkKey hd hk, run_findKey hd h1, Result.andThen]

/-- A look-up of a key that is not there. -/
theorem map_no (hm : P.underlying mty = some (.map kt et)) (hd : P.underlying kt = some d) (hb : w.heap[b]? = some (.map es clock)) (hks : ∀ x ∈ es.toList, IsKey d x.key) {key : Value} (hk : IsKey d key) (hnew : ∀ x ∈ es.toList, x.key ≠ key) {z : Value} (hz : ∀ w : World, (zeroValue et).run P w = .ok z w) (c : Bool) :
    (Instr.lookup mty (.map (some b)) key c).run P w = .ok (if c then .tuple #[z, .bool false] else z) w := by
  rcases findNow_spec hk es.toList 0 hks with ⟨h1, h2⟩ | ⟨j, e, h1, h2, h3⟩
  · cases c <;> simp [Instr.lookup, run_underlying hm, MapKept.run_getObj_map hb, run_checkKey hd hk, run_findKey hd h1, hz, Result.andThen]
  · exact absurd h3 (hnew e (List.mem_of_getElem? h2))
end
end Go.Proofs.YtoaedibfgegilaaGreatDoor
