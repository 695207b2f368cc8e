/-
  parseXRefTableSubSection: what a round reads.
-/
import Derived.Test.YtoaedibfgegilaaGreatDoorSce
namespace Go.Proofs.YtoaedibfgegilaaGreatDoor.st
open Go.RowKit
set_option linter.unusedVariables false
set_option linter.unusedSimpArgs false

theorem Scn.kept_map {B : Nat} {w w' : World} {sc rd : Nat} {T : ByteArray} {p r st en : Nat} {tok bufv : Value} {emp : Int} {cl : Bool} {m c : Nat} {es : Array MapEntry} (h : Scn B w sc rd T p r st en tok bufv emp cl) (hm : w.heap[m]? = some (.map es c)) (k : Kept [m] w w') : Scn B w' sc rd T p r st en tok bufv emp cl := by
  obtain ⟨pr, hr⟩ := h.rds
  have n : ∀ (x : Nat) (c : Array Value) (t : TypeId) (z : Nat × Nat), w.heap[x]? = some (.cells c t z) → x ∉ [m] := fun x c t z hx e => by
    rw [List.mem_singleton.1 e, hm] at hx
    cases hx
  refine ⟨(k.block sc (Array.getElem?_eq_some_iff.1 h.scs).1 (n _ _ _ _ h.scs)).trans h.scs, ⟨pr, (k.block rd (Array.getElem?_eq_some_iff.1 hr).1 (n _ _ _ _ hr)).trans hr⟩, h.bsc, h.brd, h.le, h.rT, h.tT, h.buf.kept k fun g hg => ?_⟩
  rcases h.buf with ⟨e, _⟩ | ⟨g', F, e, _, hrow, _⟩
  · rw [e] at hg
    cases hg
  · rw [e] at hg
    obtain rfl : g' = g := by simpa using hg
    obtain ⟨cs, hc⟩ := row_block hrow
    exact n _ _ _ _ hc
theorem At.lt {B : Nat} {w : World} {sc rd : Nat} {T : ByteArray} {p : Nat} (h : At B w sc rd T p) : B ≤ w.heap.size := by
  obtain ⟨r, st, en, tok, bufv, emp, cl, h⟩ := h
  exact h.lt.2.2
/-- Where the scanner stands, and the table's text ahead of it. -/
def Here (B : Nat) (w : World) (sc rd : Nat) (T : ByteArray) (f : Nat → Ent) (n z k j : Nat) : Prop := ∃ p q S, At B w sc rd T p ∧ PosAt T p q ∧ Rest T q (S ++ (trl ++ [10])) ∧ Sec f n z k j S
theorem Here.kept {B : Nat} {w w' : World} {sc rd : Nat} {T : ByteArray} {f : Nat → Ent} {n z k j : Nat} (h : Here B w sc rd T f n z k j) (kk : Kept [] w w') : Here B w' sc rd T f n z k j := by
  obtain ⟨p, q, S, h1, h2⟩ := h
  exact ⟨p, q, S, h1.kept kk, h2⟩
theorem Here.kept_map {B : Nat} {w w' : World} {sc rd : Nat} {T : ByteArray} {f : Nat → Ent} {n z k j m i : Nat} (h : Here B w sc rd T f n z k j) (ht : TabM w m f i) (kk : Kept [m] w w') : Here B w' sc rd T f n z k j := by
  obtain ⟨p, q, S, ⟨r, st, en, tok, bufv, emp, cl, h1⟩, h2⟩ := h
  obtain ⟨b, hm, _⟩ := ht.ex
  exact ⟨p, q, S, ⟨r, st, en, tok, bufv, emp, cl, h1.kept_map hm kk⟩, h2⟩
theorem Here.lt {B : Nat} {w : World} {sc rd : Nat} {T : ByteArray} {f : Nat → Ent} {n z k j : Nat} (h : Here B w sc rd T f n z k j) : B ≤ w.heap.size := by
  obtain ⟨p, q, S, h1, h2⟩ := h
  exact h1.lt

def Next31 (B : Nat) (w : World) (sc rd : Nat) (T : ByteArray) (f : Nat → Ent) (n z k j : Nat) (l : List UInt8) (e : Ending) (w' : World) : Prop :=
  e = .returned (.tuple #[.string (str l), .nilIface]) ∧ Fr B w w' ∧ Here B w' sc rd T f n z k j
theorem next31 {B : Nat} {w : World} {sc rd : Nat} {T : ByteArray} {f : Nat → Ent} {n z k j p q : Nat} {l : List UInt8} (h1 : At B w sc rd T p) (h2 : PosAt T p q) (e1 : EolAt T q (q + l.length)) (e2 : seg T q l.length = l) (e3 : 0 < l.length)
    {q' : Nat} {S' : List UInt8} (hn : NextAt T (q + l.length) q') (hr : Rest T q' (S' ++ (trl ++ [10]))) (hs : Sec f n z k j S') :
    Calls Tryz.prog 31 #[.pointer (some ⟨sc, 0, none⟩)] w fun e w' => Next31 B w sc rd T f n z k j l e w' := by
  refine (line31 B sc rd T p q (q + l.length) w h1 h2 e1 (by omega)).mono ?_
  rintro e w' ⟨rfl, hf, p', ha, hat⟩
  rw [Nat.add_sub_cancel_left, e2]
  exact ⟨rfl, hf, p', q', S', hat, ha.pos hn, hr, hs⟩
theorem next_ent {B : Nat} {w : World} {sc rd : Nat} {T : ByteArray} {f : Nat → Ent} {n z k j : Nat} (h : Here B w sc rd T f n z k j) (hk : k < j) (hO : ∀ i, i < n → Ok (f i)) :
    ∃ l, l.length ≤ 1000 ∧ Plain l ∧ fieldsOf l = [pad (f k).off 10, pad (f k).gen 5, [kindB (f k)]] ∧ Calls Tryz.prog 31 #[.pointer (some ⟨sc, 0, none⟩)] w fun e w' => Next31 B w sc rd T f n z (k + 1) j l e w' := by
  obtain ⟨p, q, S, h1, h2, h3, h4⟩ := h
  obtain ⟨l, e1, e2, e3, e4, e5, e6, q', S', e7, e8, e9⟩ := ent_here h4 hk hO h3
  exact ⟨l, e4, e5, e6, next31 h1 h2 e1 e2 e3 e7 e8 e9⟩
/-- Behind the last line nothing is asked. -/
def Last31 (B : Nat) (w : World) (e : Ending) (w' : World) : Prop := e = .returned (.tuple #[.string (str trl), .nilIface]) ∧ Fr B w w' ∧ B ≤ w'.heap.size
theorem next_end {B : Nat} {w : World} {sc rd : Nat} {T : ByteArray} {f : Nat → Ent} {n z k : Nat} (h : Here B w sc rd T f n z k k) (hn : n ≤ 500) (hO : ∀ i, i < n → Ok (f i)) :
    (k = n ∧ Calls Tryz.prog 31 #[.pointer (some ⟨sc, 0, none⟩)] w fun e w' => Last31 B w e w') ∨
    (k < n ∧ ∃ j l, l.length ≤ 1000 ∧ Plain l ∧ (∀ b ∈ l, b ≠ 116) ∧ k < j ∧ j ≤ n ∧ (∀ t, k ≤ t → t < j → (f t).num = (f k).num + ((t - k : Nat) : Int)) ∧ fieldsOf l = [Lib.itoa (f k).num, Lib.itoa ((j - k : Nat) : Int)] ∧ Calls Tryz.prog 31 #[.pointer (some ⟨sc, 0, none⟩)] w fun e w' => Next31 B w sc rd T f n z k j l e w') := by
  obtain ⟨p, q, S, h1, h2, h3, h4⟩ := h
  rcases end_here h4 hn hO h3 with ⟨hk, e1, e2⟩ | ⟨hk, j, l, e1, e2, e3, e4, e5, e6, a1, a2, a3, a4, q', S', e7, e8, e9⟩
  · left
    refine ⟨hk, (line31 B sc rd T p q (q + 7) w h1 h2 e1 (by omega)).mono ?_⟩
    rintro e w' ⟨rfl, hf, p', ha, hat⟩
    rw [Nat.add_sub_cancel_left, e2]
    exact ⟨rfl, hf, hat.lt⟩
  · right
    exact ⟨hk, j, l, e4, e5, e6, a1, a2, a3, a4, next31 h1 h2 e1 e2 e3 e7 e8 e9⟩

/-! The words of a line as a slice. -/
theorem row_cells {w : World} {base : Nat} {v : Value} {d : List (List UInt8)} (h : w.ownsRow base 9 1 v d.length (sv d)) (hd : d ≠ []) : ∃ g C, v = .slice (some ⟨g, 0, none⟩) d.length C ∧ ∀ i u, (sv d)[i]? = some u → w.cell? ⟨g, i, none⟩ = some u := by
  have hcl := fun g hg => h.cells (g := g) hg
  rcases h.2 with ⟨_, h0⟩ | ⟨g, C, cur, rfl, _⟩
  · exact absurd (List.length_eq_zero_iff.1 h0) hd
  · refine ⟨g, C, rfl, fun i u hu => ?_⟩
    have := hcl g rfl i u hu
    rwa [addr_add, Nat.zero_add] at this
theorem fields3 (l a b c : List UInt8) (w : World) (hl : l.length ≤ 1000) (hp : Plain l) (h : fieldsOf l = [a, b, c]) :
    Calls Tryz.prog 32 #[.string (str l)] w fun e w' => ∃ g C, e = .returned (.slice (some ⟨g, 0, none⟩) 3 C) ∧ w'.cell? ⟨g, 0, none⟩ = some (.string (str a)) ∧ w'.cell? ⟨g, 1, none⟩ = some (.string (str b)) ∧ w'.cell? ⟨g, 2, none⟩ = some (.string (str c)) ∧ Kept [] w w' := by
  refine (fields32 l w hl hp).mono ?_
  rintro e w' ⟨v, rfl, hr, hb⟩
  rw [h] at hr
  obtain ⟨g, C, rfl, hc⟩ := row_cells hr (by simp)
  exact ⟨g, C, rfl, hc 0 _ rfl, hc 1 _ rfl, hc 2 _ rfl, Kept.of_below hb []⟩
theorem fields2 (l a b : List UInt8) (w : World) (hl : l.length ≤ 1000) (hp : Plain l) (h : fieldsOf l = [a, b]) :
    Calls Tryz.prog 32 #[.string (str l)] w fun e w' => ∃ g C, e = .returned (.slice (some ⟨g, 0, none⟩) 2 C) ∧ w'.cell? ⟨g, 0, none⟩ = some (.string (str a)) ∧ w'.cell? ⟨g, 1, none⟩ = some (.string (str b)) ∧ Kept [] w w' := by
  refine (fields32 l w hl hp).mono ?_
  rintro e w' ⟨v, rfl, hr, hb⟩
  rw [h] at hr
  obtain ⟨g, C, rfl, hc⟩ := row_cells hr (by simp)
  exact ⟨g, C, rfl, hc 0 _ rfl, hc 1 _ rfl, Kept.of_below hb []⟩
theorem fields1 (w : World) :
    Calls Tryz.prog 32 #[.string (str trl)] w fun e w' => ∃ g C, e = .returned (.slice (some ⟨g, 0, none⟩) 1 C) ∧ Kept [] w w' := by
  refine (fields32 trl w (by decide) (fun b hb => .inr (by
    unfold trl at hb
    simp only [List.mem_cons, List.not_mem_nil, or_false] at hb
    unfold Wb
    rcases hb with rfl | rfl | rfl | rfl | rfl | rfl | rfl <;> decide))).mono ?_
  rintro e w' ⟨v, rfl, hr, hb⟩
  rw [show fieldsOf trl = [trl] from rfl] at hr
  obtain ⟨g, C, rfl, hc⟩ := row_cells hr (by simp)
  exact ⟨g, C, rfl, Kept.of_below hb []⟩
theorem atoi30 (n : Int) (h0 : 0 ≤ n) (h1 : n ≤ 9999999999) (V : World) : Calls Tryz.prog 30 #[.string (str (Lib.itoa n))] V fun e w' => e = .returned (.tuple #[.int .i64 n, .nilIface]) ∧ Kept [] V w' := by
  have hl := itoa_le h0 10 (by omega) (by simp; omega)
  refine (Tryz.strconv_Atoi (str (Lib.itoa n)) n (by rw [str_size]; omega) (by rw [str_list, atoi_val (itoa_dig h0) (itoa_ne h0), itoa_val h0]) V).mono ?_
  rintro e w' ⟨rfl, t, rfl⟩
  exact ⟨rfl, Kept.bytes _ _⟩
end Go.Proofs.YtoaedibfgegilaaGreatDoor.st
