/-
  impl.dict: keys and objects as a dictionary of the package.
-/
import Derived.Test.YtcandemhaddkjaaDoorObj
import Derived.Test.YtcandemhaddkjaaDoorFnd
namespace Go.Proofs.YtcandemhaddkjaaDoor.xs
open Go.RowKit Go.MapKept Go.ChangeMaps
set_option linter.unusedVariables false
set_option linter.unusedSimpArgs false

/-- What an entry is. -/
inductive Thing where
  | int (n : Int)
  | name (s : ByteArray)
  | list (n : Nat) (z : Nat → Int)
/-- It as an object. -/
def Thing.obj (w : World) : Thing → Array Value → Prop
  | .int n, o => o = intO n
  | .name s, o => o = nameO s
  | .list n z, o => ∃ part, o = listO part ∧ Rows w part (ints n z) ∧ 0 < n ∧ n ≤ 100000
/-- It as a value of the package. -/
def Thing.val (w : World) : Thing → Value → Prop
  | .int n, v => v = .iface 73 (.int .i64 n)
  | .name s, v => v = .iface 77 (.string s)
  | .list n z, v => ∃ a, v = .iface 83 a ∧ ArrI w a n z ∧ 0 < n
theorem Thing.obj_kept {w w' : World} {t : Thing} {o : Array Value} (h : t.obj w o) (k : Kept [] w w') : t.obj w' o := by
  cases t with
  | int n => exact h
  | name s => exact h
  | list n z =>
    obtain ⟨p, h1, h2, h3⟩ := h
    exact ⟨p, h1, h2.kept k, h3⟩
theorem Thing.obj_seven {w : World} {t : Thing} {o : Array Value} (h : t.obj w o) : Seven o := by
  cases t with
  | int n =>
    obtain rfl := h
    exact intO_seven _
  | name s =>
    obtain rfl := h
    exact nameO_seven _
  | list n z =>
    obtain ⟨p, rfl, ⟨g, C, rfl, _⟩, _⟩ := h
    exact listO_seven _ _ _
theorem cell_cells {w : World} {a : Addr} {v : Value} (h : w.cell? a = some v) : ∃ c t f, w.heap[a.block]? = some (.cells c t f) := by
  unfold World.cell? at h
  cases hb : w.heap[a.block]? with
  | none => simp [hb] at h
  | some o => cases o <;> simp [hb] at h <;> exact ⟨_, _, _, rfl⟩
theorem Thing.val_kept {w w' : World} {t : Thing} {v : Value} (h : t.val w v) {L : List Nat} (k : Kept L w w') (hL : ∀ m ∈ L, (∃ es c, w.heap[m]? = some (.map es c)) ∨ w.heap.size ≤ m) : t.val w' v := by
  cases t with
  | int n => exact h
  | name s => exact h
  | list n z =>
    obtain ⟨a, h1, ⟨g, C, q1, q2, q3, q4, q5⟩, h3⟩ := h
    have hg : g ∉ L := fun hm => by
      rcases hL g hm with ⟨es, c, hb⟩ | hb
      · obtain ⟨c', t, f, hc⟩ := cell_cells (q5 0 h3)
        rw [hb] at hc
        cases hc
      · omega
    exact ⟨a, h1, ⟨g, C, q1, q2, q3, Nat.lt_of_lt_of_le q4 k.size, fun i hi => k.cell (q5 i hi) hg⟩, h3⟩

def ThE (w : World) (t : Thing) (e : Ending) (w' : World) : Prop := ∃ v, e = .returned (.tuple #[v, .bool true]) ∧ t.val w' v ∧ Below w.heap.size w w'
theorem thing19 (t : Thing) (o : Array Value) (w : World) (h : t.obj w o) : Calls Tryd.prog 19 #[.agg o] w fun e w' => ThE w t e w' := by
  cases t with
  | int n =>
    obtain rfl := h
    exact (int19 n w).mono fun e w' ⟨h1, h2⟩ => ⟨_, h1, rfl, h2⟩
  | name s =>
    obtain rfl := h
    exact (name19 s w).mono fun e w' ⟨h1, h2⟩ => ⟨_, h1, rfl, h2⟩
  | list n z =>
    obtain ⟨p, rfl, h2, h3, h4⟩ := h
    exact (list19 p n z w h2 h3 h4).mono fun e w' ⟨v, h1, q, b⟩ => ⟨_, h1, ⟨v, rfl, q, h3⟩, b⟩

/-- The dictionary behind k entries. -/
def DAt (w : World) (m : Nat) (en : List (ByteArray × Thing)) (k : Nat) : Prop :=
  ∃ es : Array MapEntry, w.heap[m]? = some (.map es k) ∧ es.size = k ∧ ∀ i, i < k → ∃ s t v, en[i]? = some (s, t) ∧ es[i]? = some ⟨.string s, v, i⟩ ∧ t.val w v
theorem DAt.kept {w w' : World} {m : Nat} {en : List (ByteArray × Thing)} {k : Nat} (h : DAt w m en k) (kk : Kept [] w w') : DAt w' m en k := by
  obtain ⟨es, h1, h2, h3⟩ := h
  refine ⟨es, (kk.block m (Array.getElem?_eq_some_iff.1 h1).1 (by simp)).trans h1, h2, fun i hi => ?_⟩
  obtain ⟨s, t, v, a, b, c⟩ := h3 i hi
  exact ⟨s, t, v, a, b, Thing.val_kept c kk (by simp)⟩

/-- Keys that differ, of plain characters. -/
structure Keys (en : List (ByteArray × Thing)) : Prop where
  plain : ∀ p ∈ en, p.1.size ≤ 100 ∧ Plain p.1
  apart : en.Pairwise fun p q => p.1 ≠ q.1

theorem pw_get {α : Type} {R : α → α → Prop} : ∀ {l : List α}, l.Pairwise R → ∀ {i j : Nat} {x y : α}, i < j → l[i]? = some x → l[j]? = some y → R x y
  | [], _, i, j, x, y, _, hi, _ => by simp at hi
  | a :: l, h, 0, j + 1, x, y, _, hi, hj => by
    obtain rfl : a = x := by simpa using hi
    exact (List.pairwise_cons.1 h).1 y (List.mem_of_getElem? (by simpa using hj))
  | a :: l, h, i + 1, j + 1, x, y, hlt, hi, hj => pw_get (List.pairwise_cons.1 h).2 (Nat.lt_of_succ_lt_succ hlt) (by simpa using hi) (by simpa using hj)

theorem DAt.put {w : World} {m : Nat} {en : List (ByteArray × Thing)} {k : Nat} (h : DAt w m en k) (hK : Keys en) {s : ByteArray} {t : Thing} (hs : en[k]? = some (s, t)) {v : Value} (hv : t.val w v) :
    ∃ w', (Instr.mapUpdate 49 (.map (some m)) (.string s) v).run Tryd.prog w = .ok () w' ∧ DAt w' m en (k + 1) ∧ Kept [m] w w' := by
  obtain ⟨es, h1, h2, h3⟩ := h
  have hat : ∀ x ∈ es.toList, ∃ i s t v, i < k ∧ en[i]? = some (s, t) ∧ x = ⟨.string s, v, i⟩ ∧ t.val w v := fun x hx => by
    obtain ⟨i, hi, rfl⟩ := List.mem_iff_getElem.1 hx
    obtain ⟨s, t, v, a, b, c⟩ := h3 i (by simpa [h2] using hi)
    refine ⟨i, s, t, v, by simpa [h2] using hi, a, ?_, c⟩
    have : es[i]? = some (es.toList[i]) := by simp
    rw [this] at b
    exact Option.some.inj b
  have hrun := map_put (P := Tryd.prog) (mty := 49) Tryd.underlying49 Tryd.underlying9 h1 (fun x hx => by
    obtain ⟨i, s, t, v, _, _, rfl, _⟩ := hat x hx
    exact trivial) (key := .string s) trivial (fun x hx e => by
    obtain ⟨i, s', t', v', hi, he, rfl, _⟩ := hat x hx
    simp at e
    exact pw_get hK.apart hi he hs e) v
  have kk := map_kept h1 (.map (es.push { key := .string s, val := v, born := k }) (k + 1))
  have hL : ∀ q ∈ [m], (∃ es c, w.heap[q]? = some (.map es c)) ∨ w.heap.size ≤ q := fun q hq => .inl ⟨es, k, by simp at hq; rw [hq]; exact h1⟩
  refine ⟨_, hrun, ⟨_, heap_setBlock_same h1 _, by simp [h2], fun i hi => ?_⟩, kk⟩
  by_cases e : i < k
  · obtain ⟨s', t', v', a, b, c⟩ := h3 i e
    exact ⟨s', t', v', a, by rw [Array.getElem?_push, if_neg (by omega)]; exact b, Thing.val_kept c kk hL⟩
  · obtain rfl : i = k := by omega
    exact ⟨s, t, v, hs, by rw [Array.getElem?_push, if_pos (by omega)], Thing.val_kept hv kk hL⟩
end Go.Proofs.YtcandemhaddkjaaDoor.xs
