/-
  io.ReadAll over a buffer: the state of its loop, and the laws of memory that it takes.
-/
import Derived.Test.YtmihbmjillcjaaaDoorBrd
import Derived.Lib.AppendZeros
import Derived.Laws.AppendOwn
import Derived.OwnWalk
namespace Go.Proofs.YtmihbmjillcjaaaDoor.up
set_option linter.unusedVariables false
set_option linter.unusedSimpArgs false
open Go.RowKit

theorem info5f : (Tryd.prog.info? 5).map (fun i => (i.zero, i.size, i.bytes)) = some (some (.int .u8 0), 1, 1) := by kernel_rfl
theorem info22f : (Tryd.prog.info? 22).map (fun i => (i.zero, i.size, i.bytes)) = some (some (.slice none 0 0), 1, 24) := by kernel_rfl
theorem make512 (w : World) : (Instr.makeSlice 22 (.int .i64 0) (.int .i64 512)).run Tryd.prog w = .ok (.slice (some ⟨w.heap.size, 0, none⟩) 0 512) (w.alloc (.cells (madeCells #[.int .u8 0] 512) 5)) := by kernel_rfl
theorem make4 (w : World) : (Instr.makeSlice 58 (.int .i64 0) (.int .i64 4)).run Tryd.prog w = .ok (.slice (some ⟨w.heap.size, 0, none⟩) 0 4) (w.alloc (.cells (madeCells #[.slice none 0 0] 4) 22)) := by kernel_rfl

/-- 'append([]byte(nil), make([]byte, n)...)'. -/
theorem wp_zeros (w : World) {ops : Array Oper} {rest : List Oper} {o : Oper} {a : Act} {Q : Exit → Act → World → Prop} (hgd : o.guard = none) (s x : Operand)
    (ho : o.op = .call { callee := .builtin .append, args := #[s, x], argTypes := #[22, 3] }) (hs : a.eval s = .slice none 0 0) (n : Nat) (hx : a.eval x = .int .i64 n) (h1 : 1 ≤ n) (h2 : n ≤ 1000000)
    (h : ∀ cap W, n ≤ cap → cap ≤ maxLen → (∃ F, W.rowIs w.heap.size 5 cap F) → Kept [] w W → wpList Tryd.prog ops Q rest (a.put o.dst (.slice (some ⟨w.heap.size, 0, none⟩) n cap)) W) : wpList Tryd.prog ops Q (o :: rest) a w := by
  obtain ⟨i0, hi, hz0, hz1, hz2⟩ := info_parts info5f
  have happ := Lib.run_append_nil_zeros (P := Tryd.prog) w 22 3 o.type 5 i0 (.int .u8 0) .i64 .i64 Tryd.underlying22 Tryd.underlying3 hi hz0 n (by omega) (by omega) (by omega) (by rw [hz2]; omega)
  refine Lib.wpList_append_run w hgd s x 22 3 ho _ _ hs hx _ _ happ ?_
  refine h _ _ (grownCap_ge w n 0 5) (grownCap_le_maxLen w n 0 5 (by unfold maxLen; omega)) ?_ ((Kept.refl _ _).drew.alloc _)
  have hc : (Builtin.zeroCells (Value.int .u8 0).cells n ++ Builtin.zeroCells (Value.int .u8 0).cells (grownCap w n 0 5 - n)).size = grownCap w n 0 5 := by
    have := grownCap_ge w n 0 5
    simp [size_zeroCells, Value.cells]
    omega
  refine ⟨fun i => (Builtin.zeroCells (Value.int .u8 0).cells n ++ Builtin.zeroCells (Value.int .u8 0).cells (grownCap w n 0 5 - n))[i]?.getD undef, _, heap_alloc_new w.drew _, hc, fun i hi => ?_⟩
  have hi' : i < (Builtin.zeroCells (Value.int .u8 0).cells n ++ Builtin.zeroCells (Value.int .u8 0).cells (grownCap w n 0 5 - n)).size := by rw [hc]; exact hi
  show _ = some ((Builtin.zeroCells (Value.int .u8 0).cells n ++ Builtin.zeroCells (Value.int .u8 0).cells (grownCap w n 0 5 - n))[i]?.getD undef)
  rw [Array.getElem?_eq_getElem hi', Option.getD_some]

/-- A chunk that has been read: the block, how many bytes, the capacity. -/
structure Chunk where
  q : Nat
  n : Nat
  c : Nat
def Chunk.v (x : Chunk) : Value := .slice (some ⟨x.q, 0, none⟩) x.n x.c
def tot (l : List Chunk) : Nat := (l.map (·.n)).sum
theorem tot_snoc (l : List Chunk) (x : Chunk) : tot (l ++ [x]) = tot l + x.n := by simp [tot]
theorem tot_take_succ (l : List Chunk) (j : Nat) (x : Chunk) (h : l[j]? = some x) : tot (l.take (j + 1)) = tot (l.take j) + x.n := by
  obtain ⟨hj, rfl⟩ := List.getElem?_eq_some_iff.1 h
  rw [List.take_succ_eq_append_getElem hj, tot_snoc]
theorem tot_take_le (l : List Chunk) (j : Nat) : tot (l.take j) ≤ tot l := by
  have h : tot (l.take j) + tot (l.drop j) = tot l := by
    unfold tot
    rw [← List.sum_append, ← List.map_append, List.take_append_drop]
  omega
/-- The chunks hold the first bytes of z, in blocks from s0 on, below U. -/
def Chk (w : World) (z : Nat → Int) (s0 U : Nat) (l : List Chunk) : Prop :=
  ∀ j x, l[j]? = some x → s0 ≤ x.q ∧ x.q < U ∧ ∃ F, w.rowIs x.q 5 x.c F ∧ x.n ≤ x.c ∧ ∀ i, i < x.n → F i = .int .u8 (z (tot (l.take j) + i))
theorem Chk.keep {w w' : World} {z : Nat → Int} {s0 U : Nat} {l : List Chunk} (h : Chk w z s0 U l) (k : ∀ q cur, s0 ≤ q → q < U → w.heap[q]? = some (.cells cur 5 (0, 0)) → w'.heap[q]? = w.heap[q]?) : Chk w' z s0 U l := by
  intro j x hx
  obtain ⟨h1, h2, F, hF, r⟩ := h j x hx
  obtain ⟨cur, hc, r2⟩ := id hF
  exact ⟨h1, h2, F, hF.of_block (k x.q cur h1 h2 hc), r⟩
theorem Chk.snoc {w : World} {z : Nat → Int} {s0 U U' : Nat} {l : List Chunk} (h : Chk w z s0 U l) (q n c : Nat) (hq : s0 ≤ q) (hU : U ≤ U') (hqU : q < U') (hn : n ≤ c) (F : Nat → Value) (hr : w.rowIs q 5 c F) (hF : ∀ i, i < n → F i = .int .u8 (z (tot l + i))) :
    Chk w z s0 U' (l ++ [⟨q, n, c⟩]) := by
  intro j x hx
  rcases Nat.lt_or_ge j l.length with hj | hj
  · rw [List.getElem?_append_left hj] at hx
    obtain ⟨h1, h2, h3⟩ := h j x hx
    rw [List.take_append_of_le_length (by omega)]
    exact ⟨h1, by omega, h3⟩
  · rw [List.getElem?_append_right hj] at hx
    have hj0 : j = l.length := by
      have := (List.getElem?_eq_some_iff.1 hx).1
      simp at this
      omega
    subst hj0
    simp at hx
    subst hx
    exact ⟨hq, hqU, F, hr, hn, by simpa using hF⟩

/-- The state of ReadAll's loop. -/
structure RA (w0 : World) (s0 b g N : Nat) (z : Nat → Int) (off q n c : Nat) (l : List Chunk) (v6 : Value) (wr : World) : Prop where
  buf : BufRd wr b g N z off
  row : ∃ F, wr.rowIs q 5 c F ∧ ∀ i, i < n → F i = .int .u8 (z (tot l + i))
  off_eq : off = tot l + n
  q0 : s0 ≤ q
  bs : b < s0
  gs : g < s0
  nc : n ≤ c
  c256 : 256 ≤ c
  cmax : c ≤ maxLen
  own : wr.ownsRow s0 22 1 v6 l.length (l.map Chunk.v)
  chk : Chk wr z s0 q l
  kept : Kept [b] w0 wr
  sz : w0.heap.size = s0
  len : l.length ≤ tot l

theorem own_block {w : World} {B e sz : Nat} {v : Value} {n : Nat} {xs : List Value} (h : w.ownsRow B e sz v n xs) : v.ownBlock = none ∨ ∃ g cur, v.ownBlock = some g ∧ B ≤ g ∧ w.heap[g]? = some (.cells cur e (0, 0)) := by
  rcases h.2 with ⟨rfl, _⟩ | ⟨g, cap, cur, rfl, hB, hc, _⟩
  · exact .inl rfl
  · exact .inr ⟨g, cur, rfl, hB, hc⟩
theorem own_slice {w : World} {B e : Nat} {v : Value} {n : Nat} {xs : List Value} (h : w.ownsRow B e 1 v n xs) : ∃ a c, v = .slice a n c ∧ n ≤ c ∧ c ≤ maxLen ∧ ∀ j u, xs[j]? = some u → ∃ g, a = some ⟨g, 0, none⟩ ∧ w.cell? ⟨g, j, none⟩ = some u := by
  have h2 := fun g hg => h.cells (g := g) hg
  rcases h.2 with ⟨rfl, rfl⟩ | ⟨g, cap, cur, rfl, hB, hc, hn, hm, _⟩
  · refine ⟨_, _, rfl, Nat.le_refl _, by unfold maxLen; omega, fun j u hj => ?_⟩
    have h0 : xs = [] := List.length_eq_zero_iff.1 (by simpa using h.1)
    subst h0
    simp at hj
  · refine ⟨_, _, rfl, hn, hm, fun j u hj => ⟨g, rfl, ?_⟩⟩
    have := h2 g rfl j u hj
    rwa [addr_add, Nat.zero_add] at this

theorem Kept.trans_cut {L L' : List Nat} {a b c : World} (h : Kept L a b) (k : Kept L' b c) (hl : ∀ x ∈ L', x ∈ L ∨ a.heap.size ≤ x) : Kept L a c :=
  ⟨k.os.trans h.os, k.tape.trans h.tape, k.output.trans h.output, Nat.le_trans h.size k.size, fun i hi hn => (k.block i (Nat.lt_of_lt_of_le hi h.size) (fun e => by rcases hl i e with h | h; exact hn h; omega)).trans (h.block i hi hn)⟩
/-- The state once bytes have been read. -/
theorem RA.read {w0 wr w1 : World} {s0 b g N : Nat} {z : Nat → Int} {off q n c k : Nat} {l : List Chunk} {v6 : Value} (h : RA w0 s0 b g N z off q n c l v6 wr) (hk : k ≤ c - n) (hb : BufRd w1 b g N z (off + k)) (F : Nat → Value) (hF : ∀ i, i < n → F i = .int .u8 (z (tot l + i)))
    (hr : w1.rowIs q 5 c (lay8 F n k z off)) (hkk : Kept [b, q] wr.drew w1) : RA w0 s0 b g N z (off + k) q (n + k) c l v6 w1 := by
  have hoff := h.off_eq
  have hnc := h.nc
  have hbs := h.bs
  refine ⟨hb, ⟨_, hr, fun i hi => ?_⟩, by omega, h.q0, h.bs, h.gs, by omega, h.c256, h.cmax, ?_, ?_, ?_, h.sz, h.len⟩
  · unfold lay8
    by_cases h1 : i < n
    · rw [if_pos h1, hF i h1]
    · rw [if_neg h1, if_pos hi, show off + (i - n) = tot l + i by omega]
  · obtain ⟨h1, h2⟩ := h.own
    refine ⟨h1, ?_⟩
    rcases h2 with h2 | ⟨gA, cap, cur, e, hB, hc, r⟩
    · exact .inl h2
    · refine .inr ⟨gA, cap, cur, e, hB, ?_, r⟩
      have hne : gA ≠ q := fun e => by
        subst e
        obtain ⟨F', ⟨cur', hc', _⟩, _⟩ := h.row
        rw [hc] at hc'
        cases hc'
      exact (hkk.block gA (Array.getElem?_eq_some_iff.1 hc).1 (by simp; omega)).trans hc
  · refine h.chk.keep fun q' cur h1 h2 hc => ?_
    exact hkk.block q' (Array.getElem?_eq_some_iff.1 hc).1 (by simp; omega)
  · have h1 := h.q0
    have h2 := h.sz
    exact h.kept.drew.trans_cut hkk (by simp; omega)

theorem kept_own {w w1 w2 : World} {B e : Nat} {v : Value} {n : Nat} {xs : List Value} (h : w.ownsRow B e 1 v n xs) (o : Obj) (hw : w1 = w.alloc o) (hg : w1.grownBy w2 v.ownBlock) : ∃ L, Kept L w w2 ∧ ∀ x ∈ L, B ≤ x ∧ ∃ cur, w.heap[x]? = some (.cells cur e (0, 0)) := by
  subst hw
  have k1 : Kept [] w (w.alloc o) := (Kept.refl _ _).alloc o
  rcases own_block h with hb | ⟨gA, cur, hb, hB, hc⟩
  · rw [hb] at hg
    exact ⟨[], k1.trans ⟨hg.os, hg.tape, hg.output, hg.size, fun k hk _ => hg.block k hk (by simp)⟩, by simp⟩
  · rw [hb] at hg
    exact ⟨[gA], (k1.mono (by simp)).trans (Kept.of_grown hg (by simp)), by simp; exact ⟨hB, _, hc⟩⟩

/-- The state behind a chunk that is full. -/
theorem RA.chunk {w0 w1 w2 w3 : World} {s0 b g N : Nat} {z : Nat → Int} {off q n c : Nat} {l : List Chunk} {v6 : Value} (h : RA w0 s0 b g N z off q n c l v6 w1) (hn : 1 ≤ n) (o : Obj) (v' : Value) (cap : Nat)
    (hown : w2.ownsRow s0 22 1 v' (l.length + 1) (l.map Chunk.v ++ [.slice (some ⟨q, 0, none⟩) n c])) (hgrow : (w1.alloc o).grownBy w2 v6.ownBlock) (h3 : Kept [] w2 w3) (hrow : ∃ F, w3.rowIs w2.heap.size 5 cap F) (hc1 : 256 ≤ cap) (hc2 : cap ≤ maxLen) :
    RA w0 s0 b g N z off w2.heap.size 0 cap (l ++ [⟨q, n, c⟩]) v' w3 := by
  obtain ⟨L, hk, hL⟩ := kept_own h.own o rfl hgrow
  have hbs := h.bs
  have hgs := h.gs
  have hoff := h.off_eq
  have hlen := h.len
  obtain ⟨F, hF⟩ := hrow
  have hk3 : Kept L w1 w3 := hk.trans (h3.mono (by simp))
  have htag : ∀ q' cur, w1.heap[q']? = some (.cells cur 5 (0, 0)) → q' ∉ L := fun q' cur hc hq => by
    obtain ⟨_, cur', hc'⟩ := hL q' hq
    rw [hc] at hc'
    cases hc'
  obtain ⟨F', hF', hF2⟩ := h.row
  have hqlt : q < w2.heap.size := Nat.lt_of_lt_of_le hF'.lt hk.size
  have hL0 : ∀ x ∈ L, s0 ≤ x := fun x hx => (hL x hx).1
  refine ⟨h.buf.kept hk3 (fun e => by have := hL0 b e; omega) (fun e => by have := hL0 g e; omega), ⟨F, hF, fun i hi => by omega⟩, by rw [tot_snoc]; exact hoff, by have := h.q0; omega, hbs, hgs, Nat.zero_le _, hc1, hc2, ?_, ?_, ?_, h.sz, ?_⟩
  · obtain ⟨_, h2⟩ := hown
    refine ⟨by simp, ?_⟩
    rw [List.length_append, List.map_append]
    rcases h2 with h2 | ⟨gA, cap', cur, e, hB, hc, r⟩
    · exact .inl h2
    · exact .inr ⟨gA, cap', cur, e, hB, (h3.block gA (Array.getElem?_eq_some_iff.1 hc).1 (by simp)).trans hc, r⟩
  · have hck := h.chk.keep fun q' cur h1 h2 hc => hk3.block q' (Array.getElem?_eq_some_iff.1 hc).1 (htag q' cur hc)
    refine hck.snoc q n c h.q0 (Nat.le_of_lt hqlt) hqlt h.nc F' ?_ hF2
    obtain ⟨cur, hc, r⟩ := id hF'
    exact hF'.of_block (hk3.block q hF'.lt (htag q cur hc))
  · exact h.kept.trans_cut hk3 fun x hx => .inr (by have := hL0 x hx; have := h.sz; omega)
  · rw [tot_snoc, List.length_append]
    show l.length + 1 ≤ tot l + n
    omega

theorem bs8_append (a b : Nat) (z : Nat → Int) : bs8 a z ++ bs8 b (fun i => z (a + i)) = bs8 (a + b) z := by
  apply List.ext_getElem?
  intro i
  rcases Nat.lt_or_ge i a with h | h
  · rw [List.getElem?_append_left (by rw [bs8_length]; exact h), bs8_get h, bs8_get (by omega)]
  · rw [List.getElem?_append_right (by rw [bs8_length]; exact h), bs8_length]
    rcases Nat.lt_or_ge i (a + b) with h2 | h2
    · rw [bs8_get (by omega), bs8_get h2, show a + (i - a) = i by omega]
    · rw [List.getElem?_eq_none (by rw [bs8_length]; omega), List.getElem?_eq_none (by rw [bs8_length]; omega)]
theorem own_fresh {W : World} {s1 cap : Nat} {F : Nat → Value} (h : W.rowIs s1 5 cap F) (hm : cap ≤ maxLen) (z : Nat → Int) : W.ownsRow s1 5 1 (.slice (some ⟨s1, 0, none⟩) 0 cap) 0 (bs8 0 z) := by
  obtain ⟨cur, hc, hs, _⟩ := h
  exact ⟨rfl, .inr ⟨s1, cap, cur, rfl, Nat.le_refl _, hc, Nat.zero_le _, hm, by omega, rfl⟩⟩
/-- The cells of a chunk, in a world in which what lay below s1 is as it was. -/
theorem row_cells {w1 wr : World} {s1 q n c : Nat} {F : Nat → Value} (hB : Below s1 w1 wr) (hq : q < s1) (hr : w1.rowIs q 5 c F) (hn : n ≤ c) {f : Nat → Int} (hF : ∀ i, i < n → F i = .int .u8 (f i)) :
    ∀ j u, (bs8 n f)[j]? = some u → wr.cell? ((⟨q, 0, none⟩ : Addr).add j) = some u := by
  intro j u hj
  obtain ⟨hjn, rfl⟩ := bs8_inv hj
  rw [addr_add, Nat.zero_add, ← hF j hjn]
  exact (hB.cell (p := ⟨q, j, none⟩) hq).trans (hr.cell (by omega))
theorem below_own {w1 wr w2 : World} {s1 : Nat} {v : Value} {n : Nat} {xs : List Value} (hB : Below s1 w1 wr) (h : wr.ownsRow s1 5 1 v n xs) (hg : wr.grownBy w2 v.ownBlock) (hs : s1 ≤ wr.heap.size) : Below s1 w1 w2 :=
  hB.grown hg hs fun k hk => by
    rcases own_block h with e | ⟨g, cur, e, hg2, _⟩
    · rw [e] at hk; cases hk
    · rw [e] at hk; cases hk; exact hg2
end Go.Proofs.YtmihbmjillcjaaaDoor.up
