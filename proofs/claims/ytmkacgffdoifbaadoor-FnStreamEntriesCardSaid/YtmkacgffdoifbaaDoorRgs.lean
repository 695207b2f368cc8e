/-
  A range over the set of streams.
-/
import Derived.Test.YtmkacgffdoifbaaDoorBxw
namespace Go.Proofs.YtmkacgffdoifbaaDoor.se
open Go.RowKit Go.MapKept Go.ChangeMaps
set_option linter.unusedVariables false
set_option linter.unusedSimpArgs false

theorem IntsV.kept_ptr {w w' : World} {v : Value} {n p : Nat} {z : Nat → Int} (h : IntsV w v n z) (hp : w.heap[p]? = some (.cells #[.pointer none] 59 (0, 0))) (k : Kept [p] w w') : IntsV w' v n z := by
  rcases h with h | ⟨b, o, C, h1, h2, h3, h4⟩
  · exact .inl h
  · refine .inr ⟨b, o, C, h1, h2, h3, fun i hi => k.cell (h4 i hi) ?_⟩
    simp
    intro e
    have h5 := h4 i hi
    rw [e, cellsOf hp] at h5
    rcases Nat.eq_zero_or_pos (o + i) with h6 | h6
    · rw [h6] at h5
      cases h5
    · rw [Array.getElem?_eq_none (by simp; omega)] at h5
      cases h5
theorem born_inj {l : List MapEntry} (h : (l.map (·.born)).Nodup) {x y : MapEntry} (hx : x ∈ l) (hy : y ∈ l) (e : x.born = y.born) : x = y := by
  induction l with
  | nil => simp at hx
  | cons a l ih =>
    rw [List.map_cons, List.nodup_cons] at h
    rcases List.mem_cons.1 hx with p | p <;> rcases List.mem_cons.1 hy with q | q
    · rw [p, q]
    · exact absurd (List.mem_map.2 ⟨y, q, by rw [← e, p]⟩) h.1
    · exact absurd (List.mem_map.2 ⟨x, p, by rw [e, q]⟩) h.1
    · exact ih h.2 p q
/-- The set, ranged over. -/
structure RSt (U wr : World) (s : Nat) (S : List Int) (es : Array MapEntry) (clock : Nat) (K : List Int) (v : Value) (seen : Array Nat) : Prop where
  it : wr.heap[U.heap.size]? = some (.mapIter (some s) clock seen clock)
  own : wr.ownsRow (U.heap.size + 1) 3 1 v K.length (iv K)
  kept : Kept [] U wr
  sub : ∀ x ∈ K, x ∈ S
  rest : ∀ x ∈ S, x ∈ K ∨ ∃ e ∈ (leftOf es seen).toList, e.key = .int .i64 x
  cnt : K.length + (leftOf es seen).size ≤ es.size
structure SetEs (U : World) (s : Nat) (S : List Int) (es : Array MapEntry) (clock : Nat) : Prop where
  blk : U.heap[s]? = some (.map es clock)
  sub : ∀ x ∈ es.toList, ∃ n, x.key = .int .i64 n ∧ n ∈ S
  sup : ∀ n ∈ S, ∃ x ∈ es.toList, x.key = .int .i64 n
  apart : es.toList.Pairwise fun x y => x.key ≠ y.key
  born : (es.toList.map (·.born)).Nodup
  old : ∀ x ∈ es.toList, x.born < clock
def keyN (x : MapEntry) : Int := match x.key with | .int _ n => n | _ => 0
theorem SetEs.size {U : World} {s : Nat} {S : List Int} {es : Array MapEntry} {clock : Nat} (h : SetEs U s S es clock) : es.size ≤ S.length := by
  have h1 := nodup_le (es.toList.map keyN) S (by
    have h2 : (es.toList.map keyN).Pairwise (· ≠ ·) := by
      rw [List.pairwise_map]
      refine List.Pairwise.imp_of_mem ?_ h.apart
      intro x y hx hy hne e
      obtain ⟨a, ha, _⟩ := h.sub x hx
      obtain ⟨b, hb, _⟩ := h.sub y hy
      simp only [keyN, ha, hb] at e
      exact hne (by rw [ha, hb, e])
    exact h2) (fun a ha => by
      obtain ⟨x, hx, rfl⟩ := List.mem_map.1 ha
      obtain ⟨b, hb, hS⟩ := h.sub x hx
      simp only [keyN, hb]
      exact hS)
  simpa using h1
theorem RSt.next {U wr : World} {s : Nat} {S : List Int} {es : Array MapEntry} {clock : Nat} {K : List Int} {v : Value} {seen : Array Nat} (h : RSt U wr s S es clock K v seen) (hU : SetEs U s S es clock) (ty : TypeId) :
    ((leftOf es seen).size = 0 ∧ (∀ x ∈ S, x ∈ K) ∧ (Instr.next (.pointer (some ⟨U.heap.size, 0, none⟩)) false ty).run Tryd.prog wr = .ok (.tuple #[.bool false]) wr) ∨
    ∃ j val seen' W, (Instr.next (.pointer (some ⟨U.heap.size, 0, none⟩)) false ty).run Tryd.prog wr = .ok (.tuple #[.bool true, .int .i64 j, val]) W ∧
      (Instr.entry (.pointer (some ⟨U.heap.size, 0, none⟩))).run Tryd.prog W = .ok (.tuple #[.int .i64 j, val]) W ∧ (leftOf es seen').size < (leftOf es seen).size ∧
      Kept [U.heap.size] wr W ∧ (∀ V v', Bel (U.heap.size + 1) [] W V → V.ownsRow (U.heap.size + 1) 3 1 v' (K ++ [j]).length (iv (K ++ [j])) → RSt U V s S es clock (K ++ [j]) v' seen') := by
  have hmr : wr.heap[s]? = some (.map es clock) := (h.kept.block s (Array.getElem?_eq_some_iff.1 hU.blk).1 (by simp)).trans hU.blk
  rcases run_next_at (P := Tryd.prog) wr ty U.heap.size s clock clock seen es clock h.it hmr hU.old (Nat.le_refl _) with ⟨h1, hrun⟩ | ⟨e, hel, w1, hw1, hrun⟩
  · left
    refine ⟨h1, fun x hx => ?_, hrun⟩
    rcases h.rest x hx with h2 | ⟨e, he, _⟩
    · exact h2
    · have : leftOf es seen = #[] := Array.eq_empty_of_size_eq_zero h1
      rw [this] at he
      simp at he
  · right
    have hmem := left_mem hel
    have hsh := left_shrinks es seen e hel
    obtain ⟨j, hj, hjS⟩ := hU.sub e hmem
    obtain ⟨W, hW⟩ : ∃ W, setBlock w1 U.heap.size (.mapIter (some s) clock (seen.push e.born) clock) = W := ⟨_, rfl⟩
    rw [hW] at hrun
    have k1 : Kept [] wr w1 := by
      rcases hw1 with rfl | rfl
      · exact Kept.refl _ _
      · exact (Kept.refl _ _).drew
    have hlt : U.heap.size < wr.heap.size := (Array.getElem?_eq_some_iff.1 h.it).1
    have hlt1 : U.heap.size < w1.heap.size := by have := k1.size; omega
    have kW : Kept [U.heap.size] w1 W := by
      rw [← hW]
      exact ⟨rfl, rfl, rfl, by simp [setBlock], fun k hk hn => by simp [setBlock]; rw [Array.getElem?_setIfInBounds_ne (fun e => hn (by simp [e]))]⟩
    have kk : Kept [U.heap.size] wr W := (k1.mono (by simp)).trans kW
    have hiW : W.heap[U.heap.size]? = some (.mapIter (some s) clock (seen.push e.born) clock) := by
      rw [← hW]
      simp [setBlock, hlt1]
    have kU : Kept [] U W := ((h.kept.mono (by simp)).trans kk).cut (by simp)
    have hmW : W.heap[s]? = some (.map es clock) := (kU.block s (Array.getElem?_eq_some_iff.1 hU.blk).1 (by simp)).trans hU.blk
    have hent := run_entry_at (P := Tryd.prog) W U.heap.size s clock seen es clock e hiW hmW hmem hU.born
    rw [hj] at hrun hent
    refine ⟨j, e.val, seen.push e.born, W, hrun, hent, hsh, kk, fun V v' hb ho => ⟨(hb.block _ (by omega) (by simp)).trans hiW, ho, ?_, ?_, ?_, ?_⟩⟩
    · exact ⟨hb.os.trans kU.os, hb.tape.trans kU.tape, hb.output.trans kU.output, Nat.le_trans kU.size hb.size, fun k hk hn => (hb.block k (by omega) (by simp)).trans (kU.block k hk hn)⟩
    · intro x hx
      rcases List.mem_append.1 hx with hx | hx
      · exact h.sub x hx
      · rw [List.mem_singleton.1 hx]
        exact hjS
    · intro x hx
      rcases h.rest x hx with h2 | ⟨y, hy, hyk⟩
      · exact .inl (by simp [h2])
      · rcases left_step es seen e y hy with h3 | h3
        · left
          have hye : y = e := by
            have hyes := left_mem hy
            exact born_inj hU.born hyes hmem h3
          rw [hye, hj] at hyk
          have : j = x := by simpa using hyk
          simp [this]
        · exact .inr ⟨y, h3, hyk⟩
    · have := h.cnt
      simp
      omega

theorem app3N (w0 : World) (base : Nat) (v : Value) (d : List Int) (e : Int) (k : Nat) (hk : k = w0.heap.size) (hown : w0.ownsRow base 3 1 v d.length (iv d)) (hn : d.length ≤ 1000000) (hb : base ≤ w0.heap.size) :
    ∃ a C N w', (Builtin.append_ #[24, 24] 24 #[v, .slice (some ⟨k, 0, none⟩) 1 1]).run Tryd.prog (w0.alloc (.cells #[.int .i64 e] 3)) = .ok (.slice a N C) w' ∧ w'.ownsRow base 3 1 (.slice a N C) (d ++ [e]).length (iv (d ++ [e])) ∧ Bel base [] w0 w' := by
  obtain ⟨a, C, w', h1, h2, h3⟩ := app3 w0 base v d e k hk hown hn hb
  exact ⟨a, C, _, w', h1, h2, h3⟩
theorem TabM.kept_blk {V V' : World} {m er : Nat} {f : Nat → Ent} {n : Nat} {u : Value} {t : TypeId} (h : TabM V m f n) (hr : V.heap[er]? = some (.cells #[u] t (0, 0))) (hu : ∀ x, u ≠ .int .i64 x) (ht : t ≠ 78) (k : Kept [er] V V') : TabM V' m f n := by
  obtain ⟨b, hb, he⟩ := h.ex
  have hm : m ≠ er := fun e => by
    rw [e, hr] at hb
    cases hb
  have hc := cellsOf hr 0
  refine ⟨b, (k.block m (Array.getElem?_eq_some_iff.1 hb).1 (by simpa using hm)).trans hb, fun i hi => ?_⟩
  obtain ⟨q, r, h1, h2, h3⟩ := he i hi
  have n1 : b i ≠ er := fun e => by
    rw [e, hr] at h1
    simp at h1
    exact ht h1.2
  have n2 : q ≠ er := fun e => by
    rw [e, hc] at h2
    exact hu _ (by simpa using h2)
  have n3 : r ≠ er := fun e => by
    rw [e, hc] at h3
    exact hu _ (by simpa using h3)
  exact ⟨q, r, (k.block _ (Array.getElem?_eq_some_iff.1 h1).1 (by simpa using n1)).trans h1, k.cell h2 (by simpa using n2), k.cell h3 (by simpa using n3)⟩
theorem streams_length (f : Nat → Ent) (n : Nat) : (streams f n).length ≤ n := by
  unfold streams
  exact Nat.le_trans (List.length_filterMap_le _ _) (by simp)
end Go.Proofs.YtmkacgffdoifbaaDoor.se
