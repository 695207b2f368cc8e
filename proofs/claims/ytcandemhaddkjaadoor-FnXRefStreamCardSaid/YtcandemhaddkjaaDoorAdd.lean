/-
  spec.XRefDict's closure: a key and an object are appended.
-/
import Derived.Test.YtcandemhaddkjaaDoorLis
import Derived.Deep.AppendLies
namespace Go.Proofs.YtcandemhaddkjaaDoor.xs
open Go.RowKit
set_option linter.unusedVariables false
set_option linter.unusedSimpArgs false

theorem cell_setCell_far {W : World} {p q : Addr} (v : Value) (h : q.block ≠ p.block) : (W.setCell p v).cell? q = W.cell? q :=
  World.cell?_of_block (Go.Deep.blk_setCell_other _ _ _ _ h)

/-- A block that nothing of the dictionary touches. -/
def Prot (w : World) (ob : Nat) (kv ov : Value) (g : Nat) : Prop := g < w.heap.size ∧ g ≠ ob ∧ kv.ownBlock ≠ some g ∧ ov.ownBlock ≠ some g

/-- From w (rows kv0, ov0) to W (rows kv, ov): other blocks stay. -/
structure Hold (w : World) (ob : Nat) (kv0 ov0 : Value) (W : World) (kv ov : Value) : Prop where
  os : W.os = w.os
  tape : W.tape = w.tape
  output : W.output = w.output
  size : w.heap.size ≤ W.heap.size
  prot : ∀ g, Prot w ob kv0 ov0 g → W.heap[g]? = w.heap[g]? ∧ Prot W ob kv ov g
theorem Hold.refl (w : World) (ob : Nat) (kv ov : Value) : Hold w ob kv ov w kv ov := ⟨rfl, rfl, rfl, Nat.le_refl _, fun g h => ⟨rfl, h⟩⟩
theorem Hold.trans {w : World} {ob : Nat} {kv0 ov0 : Value} {W : World} {kv ov : Value} {W' : World} {kv' ov' : Value} (h : Hold w ob kv0 ov0 W kv ov) (k : Hold W ob kv ov W' kv' ov') : Hold w ob kv0 ov0 W' kv' ov' :=
  ⟨k.os.trans h.os, k.tape.trans h.tape, k.output.trans h.output, Nat.le_trans h.size k.size, fun g hg => ⟨(k.prot g (h.prot g hg).2).1.trans (h.prot g hg).1, (k.prot g (h.prot g hg).2).2⟩⟩
theorem Hold.kept {w : World} {ob : Nat} {kv ov : Value} {W : World} {L : List Nat} (k : Kept L w W) (hL : ∀ g ∈ L, g = ob ∨ kv.ownBlock = some g ∨ ov.ownBlock = some g) : Hold w ob kv ov W kv ov :=
  ⟨k.os, k.tape, k.output, k.size, fun g ⟨h1, h2, h3, h4⟩ => ⟨k.block g h1 (fun hm => by rcases hL g hm with e | e | e; exact h2 e; exact h3 e; exact h4 e), Nat.lt_of_lt_of_le h1 k.size, h2, h3, h4⟩⟩

/-- Two rows that grow (keys and objects), the dictionary's block ob, a box s0 with the object that comes. -/
structure AInv (w : World) (B ob s0 : Nat) (kv0 ov0 : Value) (o : Array Value) (x : Value) (ks : List ByteArray) (os : List (Array Value)) (kv ov : Value) (W : World) : Prop where
  ownK : W.ownsRow B 9 1 kv ks.length (sv ks)
  ownO : W.ownsRow B 33 7 ov os.length (flat os)
  hold : Hold w ob kv0 ov0 W kv ov
  dict : W.heap[ob]? = some (.cells (dictO x ov) 33 (0, 0))
  box : W.heap[s0]? = some (.cells o 33 (0, 0))
  lt : ob < B
  le : B ≤ s0
  few : ks.length ≤ 1000 ∧ os.length ≤ 1000

section
variable {w : World} {B ob s0 : Nat} {kv0 ov0 : Value} {o : Array Value} {x : Value} {ks : List ByteArray} {os : List (Array Value)} {kv ov : Value} {W : World}
theorem AInv.size (h : AInv w B ob s0 kv0 ov0 o x ks os kv ov W) : s0 < W.heap.size := (Array.getElem?_eq_some_iff.1 h.box).1
theorem AInv.alloc (h : AInv w B ob s0 kv0 ov0 o x ks os kv ov W) (q : Obj) : AInv w B ob s0 kv0 ov0 o x ks os kv ov (W.alloc q) where
  ownK := h.ownK.alloc _
  ownO := h.ownO.alloc _
  hold := h.hold.trans (Hold.kept ((Kept.refl [] _).alloc _) (by simp))
  dict := (heap_alloc_old W q (by have := h.size; have := h.lt; have := h.le; omega)).trans h.dict
  box := (heap_alloc_old W q h.size).trans h.box
  lt := h.lt
  le := h.le
  few := h.few
theorem AInv.drew (h : AInv w B ob s0 kv0 ov0 o x ks os kv ov W) : AInv w B ob s0 kv0 ov0 o x ks os kv ov W.drew where
  ownK := h.ownK.drew
  ownO := h.ownO.drew
  hold := h.hold.trans (Hold.kept ((Kept.refl [] _).drew) (by simp))
  dict := h.dict
  box := h.box
  lt := h.lt
  le := h.le
  few := h.few
theorem AInv.set (h : AInv w B ob s0 kv0 ov0 o x ks os kv ov W) (v : Value) : AInv w B ob s0 kv0 ov0 o v ks os kv ov (W.setCell ⟨ob, 5, none⟩ v) where
  ownK := own_kept h.ownK ((Kept.refl [ob] _).setCell (by simp) _) (fun g hg => by have := (own_block h.ownK g hg).1; have := h.lt; simp; omega)
  ownO := own_kept h.ownO ((Kept.refl [ob] _).setCell (by simp) _) (fun g hg => by have := (own_block h.ownO g hg).1; have := h.lt; simp; omega)
  hold := h.hold.trans (Hold.kept ((Kept.refl [ob] _).setCell (by simp) _) (by simp))
  dict := heap_set h.dict 5 v
  box := (Go.Deep.blk_setCell_other _ _ _ _ (by have := h.lt; have := h.le; simp; omega)).trans h.box
  lt := h.lt
  le := h.le
  few := h.few

/-- Rows of different types lie in different blocks. -/
theorem own_type {W : World} {B e s n g : Nat} {v : Value} {xs : List Value} (h : W.ownsRow B e s v n xs) (hg : v.ownBlock = some g) {c : Array Value} {t : TypeId} (hb : W.heap[g]? = some (.cells c t (0, 0))) : t = e := by
  rcases h.2 with ⟨rfl, _⟩ | ⟨g', cap, cur, rfl, hB, hc, r⟩
  · cases hg
  · obtain rfl : g' = g := Option.some.inj hg
    rw [hb] at hc
    cases hc
    rfl
theorem own_apart {W : World} {B e s n B' e' s' n' : Nat} {v v' : Value} {xs xs' : List Value} (h : W.ownsRow B e s v n xs) (h' : W.ownsRow B' e' s' v' n' xs') (hne : e ≠ e') : ∀ g, v.ownBlock = some g → v'.ownBlock ≠ some g := by
  intro g hg hg'
  rcases h.2 with ⟨rfl, _⟩ | ⟨g1, cap, cur, rfl, hB, hc, r⟩
  · cases hg
  · obtain rfl : g1 = g := Option.some.inj hg
    exact hne (own_type h' hg' hc)
theorem grown_kept {w w' : World} {o : Option Nat} (h : w.grownBy w' o) : Kept (o.toList) w w' :=
  ⟨h.os, h.tape, h.output, h.size, fun k hk hn => h.block k hk (fun e => hn (by rw [← e]; simp))⟩
/-- A row's slice moves to where it was, or to a new block. -/
theorem Hold.key {g : Nat} {cap n : Nat} {w' : World} (k : Kept kv.ownBlock.toList W w') (hg : kv.ownBlock = some g ∨ g = W.heap.size) : Hold W ob kv ov w' (.slice (some ⟨g, 0, none⟩) n cap) ov :=
  ⟨k.os, k.tape, k.output, k.size, fun i ⟨h1, h2, h3, h4⟩ => ⟨k.block i h1 (fun hm => by simp at hm; exact h3 hm), Nat.lt_of_lt_of_le h1 k.size, h2, fun e => by
    have e : g = i := Option.some.inj e
    rcases hg with hg | hg
    · exact h3 (e ▸ hg)
    · omega, h4⟩⟩
theorem Hold.kid {g : Nat} {cap n : Nat} {w' : World} (k : Kept ov.ownBlock.toList W w') (hg : ov.ownBlock = some g ∨ g = W.heap.size) : Hold W ob kv ov w' kv (.slice (some ⟨g, 0, none⟩) n cap) :=
  ⟨k.os, k.tape, k.output, k.size, fun i ⟨h1, h2, h3, h4⟩ => ⟨k.block i h1 (fun hm => by simp at hm; exact h4 hm), Nat.lt_of_lt_of_le h1 k.size, h2, h3, fun e => by
    have e : g = i := Option.some.inj e
    rcases hg with hg | hg
    · exact h4 (e ▸ hg)
    · omega⟩⟩

theorem AInv.app9 (h : AInv w B ob s0 kv0 ov0 o x ks os kv ov W) (ad : Addr) (s : ByteArray) (hc : W.cell? ad = some (.string s)) (hf : ks.length < 1000) :
    ∃ a C w', (Builtin.append_ #[30, 30] 30 #[kv, .slice (some ad) 1 1]).run Tryd.prog W = .ok (.slice a (ks.length + 1) C) w' ∧ AInv w B ob s0 kv0 ov0 o x (ks ++ [s]) os (.slice a (ks.length + 1) C) ov w' ∧ ∀ (g : Nat) (y : Array Value), W.heap[g]? = some (Obj.cells y 33 (0, 0)) → w'.heap[g]? = some (Obj.cells y 33 (0, 0)) := by
  have hB : B ≤ W.heap.size := by have := h.size; have := h.le; omega
  obtain ⟨i, hi, hz, hs, hby⟩ := info_parts info9f
  obtain ⟨g, C, w', h1, h2, h3, h4, _⟩ := run_append_lies (P := Tryd.prog) (w := W) 30 30 B 9 i _ 1 16 Tryd.underlying30 hi hz hs hby rfl (by decide) kv _ _ h.ownK ad 1 1 [.string s] (by simp) (fun j u hj => by
    rcases j with _ | j
    · simp at hj
      subst hj
      rw [Addr.add_zero']
      exact hc
    · simp at hj) (fun u hu => by simp at hu; subst hu; rfl) (by decide) (by unfold maxLen; omega) (by omega) hB W.heap.size rfl
  have k3 := grown_kept h3
  have hno : ∀ g y, W.heap[g]? = some (.cells y 33 (0, 0)) → g ∉ kv.ownBlock.toList := fun g y hg he => by
    simp at he
    have := own_type h.ownK he hg
    cases this
  refine ⟨_, C, w', h1, ⟨by simpa [sv] using h2, own_kept h.ownO k3 (fun g hg he => ?_), h.hold.trans (Hold.key k3 h4), (k3.block _ (Array.getElem?_eq_some_iff.1 h.dict).1 (hno _ _ h.dict)).trans h.dict, (k3.block _ h.size (hno _ _ h.box)).trans h.box, h.lt, h.le, by simp; omega, h.few.2⟩, fun g y hg => (k3.block g (Array.getElem?_eq_some_iff.1 hg).1 (hno _ _ hg)).trans hg⟩
  simp at he
  exact own_apart h.ownO h.ownK (by decide) g hg he

/-- The end: both rows have grown. -/
structure AFin (w : World) (B ob : Nat) (kv0 ov0 : Value) (c : Array Value) (ks : List ByteArray) (os : List (Array Value)) (kv ov : Value) (W : World) : Prop where
  ownK : W.ownsRow B 9 1 kv ks.length (sv ks)
  ownO : W.ownsRow B 33 7 ov os.length (flat os)
  hold : Hold w ob kv0 ov0 W kv ov
  dict : W.heap[ob]? = some (.cells c 33 (0, 0))
  lt : ob < B
  le : B ≤ W.heap.size
theorem AFin.set {c : Array Value} (h : AFin w B ob kv0 ov0 c ks os kv ov W) (j : Nat) (v : Value) : AFin w B ob kv0 ov0 (c.setIfInBounds j v) ks os kv ov (W.setCell ⟨ob, j, none⟩ v) where
  ownK := own_kept h.ownK ((Kept.refl [ob] _).setCell (by simp) _) (fun g hg => by have := (own_block h.ownK g hg).1; have := h.lt; simp; omega)
  ownO := own_kept h.ownO ((Kept.refl [ob] _).setCell (by simp) _) (fun g hg => by have := (own_block h.ownO g hg).1; have := h.lt; simp; omega)
  hold := h.hold.trans (Hold.kept ((Kept.refl [ob] _).setCell (by simp) _) (by simp))
  dict := heap_set h.dict j v
  lt := h.lt
  le := by have := h.le; simp; omega

theorem AInv.app33 (h : AInv w B ob s0 kv0 ov0 o x ks os kv ov W) (ho : Seven o) (ad : Addr) (hc : ∀ j u, o[j]? = some u → W.cell? (ad.add j) = some u) (hf : os.length < 1000) :
    ∃ a C w', (Builtin.append_ #[31, 31] 31 #[ov, .slice (some ad) 1 1]).run Tryd.prog W = .ok (.slice a (os.length + 1) C) w' ∧ AFin w B ob kv0 ov0 (dictO x ov) ks (os ++ [o]) kv (.slice a (os.length + 1) C) w' := by
  have hB : B ≤ W.heap.size := by have := h.size; have := h.le; omega
  obtain ⟨i, hi, hz, hs, hby⟩ := info_parts info33f
  obtain ⟨g, C, w', h1, h2, h3, h4, _⟩ := run_append_lies (P := Tryd.prog) (w := W) 31 31 B 33 i _ 7 96 Tryd.underlying31 hi hz hs hby rfl (by decide) ov _ _ h.ownO ad 1 1 o.toList (by simp [ho.1]) (fun j u hj => hc j u (by simpa using hj)) ho.2 (by decide) (by unfold maxLen; omega) (by omega) hB W.heap.size rfl
  have k3 := grown_kept h3
  refine ⟨_, C, w', h1, own_kept h.ownK k3 (fun g hg he => ?_), by rw [flat_append, flat_one]; simpa using h2, h.hold.trans (Hold.kid k3 h4), (k3.block _ (Array.getElem?_eq_some_iff.1 h.dict).1 (fun he => ?_)).trans h.dict, h.lt, by have := k3.size; omega⟩
  · simp at he
    exact own_apart h.ownK h.ownO (by decide) g hg he
  · simp at he
    have := (own_block h.ownO _ he).1
    have := h.lt
    omega

/-- The two appends as steps of the region. -/
theorem step_keys {ops : Array Oper} {op : Oper} {a : Act} {K : Act → World → Prop} {Q : Exit → Act → World → Prop} {F : Prop} (h : AInv w B ob s0 kv0 ov0 o x ks os kv ov W) (ad : Addr) (s : ByteArray)
    (hg : op.guard = none) (p q : Operand) (hop : op.op = Op.call { callee := Callee.builtin Builtin.append, args := #[p, q], argTypes := #[30, 30] }) (ht : op.type = 30) (hx : a.eval p = kv) (hy : a.eval q = .slice (some ad) 1 1) (hc : W.cell? ad = some (.string s)) (hf : ks.length < 1000)
    (hK : ∀ b C w', AInv w B ob s0 kv0 ov0 o x (ks ++ [s]) os (.slice b (ks.length + 1) C) ov w' → (∀ (g : Nat) (y : Array Value), W.heap[g]? = some (Obj.cells y 33 (0, 0)) → w'.heap[g]? = some (Obj.cells y 33 (0, 0))) → K (a.put op.dst (.slice b (ks.length + 1) C)) w') :
    if Region.wanted op (yielded ops a.tmps) = true then Oper.wp Tryd.prog op a W K Q else F := by
  obtain ⟨b, C, w', h1, h2, h3⟩ := h.app9 ad s hc hf
  exact step_append_run 30 hg p q hop _ _ hx hy _ _ (by rw [ht]; exact h1) (hK b C w' h2 h3)
theorem step_kids {ops : Array Oper} {op : Oper} {a : Act} {K : Act → World → Prop} {Q : Exit → Act → World → Prop} {F : Prop} (h : AInv w B ob s0 kv0 ov0 o x ks os kv ov W) (ho : Seven o) (gb : Nat)
    (hg : op.guard = none) (p q : Operand) (hop : op.op = Op.call { callee := Callee.builtin Builtin.append, args := #[p, q], argTypes := #[31, 31] }) (ht : op.type = 31) (hx : a.eval p = ov) (hy : a.eval q = .slice (some ⟨gb, 0, none⟩) 1 1) (hc : W.heap[gb]? = some (.cells o 33 (0, 0))) (hf : os.length < 1000)
    (hK : ∀ b C w', AFin w B ob kv0 ov0 (dictO x ov) ks (os ++ [o]) kv (.slice b (os.length + 1) C) w' → K (a.put op.dst (.slice b (os.length + 1) C)) w') :
    if Region.wanted op (yielded ops a.tmps) = true then Oper.wp Tryd.prog op a W K Q else F := by
  obtain ⟨b, C, w', h1, h2⟩ := h.app33 ho ⟨gb, 0, none⟩ (fun j u hj => by rw [addr_add, Nat.zero_add, cellsOf hc]; exact hj) hf
  exact step_append_run 31 hg p q hop _ _ hx hy _ _ (by rw [ht]; exact h1) (hK b C w' h2)
theorem AFin.end2 {x y : Value} (h : AFin w B ob kv0 ov0 (dictO x y) ks os kv ov W) : AFin w B ob kv0 ov0 (dictO kv ov) ks os kv ov ((W.setCell ⟨ob, 5, none⟩ kv).setCell ⟨ob, 6, none⟩ ov) := (h.set 5 kv).set 6 ov
theorem AFin.end1 {y : Value} (h : AFin w B ob kv0 ov0 (dictO kv y) ks os kv ov W) : AFin w B ob kv0 ov0 (dictO kv ov) ks os kv ov (W.setCell ⟨ob, 6, none⟩ ov) := h.set 6 ov
end

def AddE (w : World) (B ob : Nat) (kv0 ov0 : Value) (ks : List ByteArray) (os : List (Array Value)) (e : Ending) (w' : World) : Prop := e = .returned (.tuple #[]) ∧ ∃ kv ov, AFin w B ob kv0 ov0 (dictO kv ov) ks os kv ov w'

set_option maxHeartbeats 8000000 in
set_option maxRecDepth 100000 in
theorem add12 (s : ByteArray) (o : Array Value) (ho : Seven o) (w0 w : World) (B ob : Nat) (k0 v0 : Value) (ks : List ByteArray) (os : List (Array Value)) (kv ov : Value) (h : AFin w0 B ob k0 v0 (dictO kv ov) ks os kv ov w) (hf : ks.length < 1000) (hf2 : os.length < 1000) :
    Calls Tryd.prog 12 #[.string s, .agg o, .pointer (some ⟨ob, 0, none⟩)] w fun e w' => AddE w B ob kv ov (ks ++ [s]) (os ++ [o]) e w' := by
  obtain ⟨x0, x1, x2, x3, x4, x5, x6, rfl⟩ : ∃ x0 x1 x2 x3 x4 x5 x6, o = #[x0, x1, x2, x3, x4, x5, x6] := by
    obtain ⟨l⟩ := o
    have hl := ho.1
    simp at hl
    match l, hl with
    | [x0, x1, x2, x3, x4, x5, x6], _ => exact ⟨_, _, _, _, _, _, _, rfl⟩
  obtain ⟨ka, kc, rfl⟩ := own_slice h.ownK
  obtain ⟨oa, oc, rfl⟩ := own_slice h.ownO
  have hob := h.lt
  have hle := h.le
  have hA : AInv w B ob w.heap.size (.slice ka ks.length kc) (.slice oa os.length oc) #[x0, x1, x2, x3, x4, x5, x6] (.slice ka ks.length kc) ks os (.slice ka ks.length kc) (.slice oa os.length oc) (w.alloc (.cells #[x0, x1, x2, x3, x4, x5, x6] 33)) :=
    ⟨h.ownK.alloc _, h.ownO.alloc _, Hold.kept ((Kept.refl [] _).alloc _) (by simp), (heap_alloc_old w _ (by omega)).trans h.dict, heap_alloc_new w _, hob, hle, by omega, by omega⟩
  have HA := Lib.hid hA
  have HO := Lib.hid ho
  have c5 : w.cell? ⟨ob, 5, none⟩ = some (.slice ka ks.length kc) := cellsOf h.dict 5
  have c6 : w.cell? ⟨ob, 6, none⟩ = some (.slice oa os.length oc) := cellsOf h.dict 6
  have f5 : w.frozen? ⟨ob, 5, none⟩ = false := frozenOf h.dict 5
  have f6 : w.frozen? ⟨ob, 6, none⟩ = false := frozenOf h.dict 6
  have hlt : ob < w.heap.size := by omega
  obtain ⟨h10, h11, h12, h13, h14, h15, h16⟩ : x0.oneCell' = true ∧ x1.oneCell' = true ∧ x2.oneCell' = true ∧ x3.oneCell' = true ∧ x4.oneCell' = true ∧ x5.oneCell' = true ∧ x6.oneCell' = true := ⟨ho.2 _ (by simp), ho.2 _ (by simp), ho.2 _ (by simp), ho.2 _ (by simp), ho.2 _ (by simp), ho.2 _ (by simp), ho.2 _ (by simp)⟩
  have q0 : (w.alloc (.cells #[x0, x1, x2, x3, x4, x5, x6] 33)).cell? ⟨ob, 5, none⟩ = some (.slice ka ks.length kc) := ((Kept.refl [] w).alloc _).cell c5 (by simp)
  have q1 : (w.alloc (.cells #[x0, x1, x2, x3, x4, x5, x6] 33)).cell? ⟨ob, 6, none⟩ = some (.slice oa os.length oc) := ((Kept.refl [] w).alloc _).cell c6 (by simp)
  have q2 : ((w.alloc (.cells #[x0, x1, x2, x3, x4, x5, x6] 33)).alloc (.cells #[.string s] 9)).cell? ⟨ob, 5, none⟩ = some (.slice ka ks.length kc) := (((Kept.refl [] w).alloc _).alloc _).cell c5 (by simp)
  have q3 : ((w.alloc (.cells #[x0, x1, x2, x3, x4, x5, x6] 33)).alloc (.cells #[.string s] 9)).cell? ⟨ob, 6, none⟩ = some (.slice oa os.length oc) := (((Kept.refl [] w).alloc _).alloc _).cell c6 (by simp)
  have q4 : ((w.alloc (.cells #[x0, x1, x2, x3, x4, x5, x6] 33)).alloc (.cells #[x0, x1, x2, x3, x4, x5, x6] 33)).cell? ⟨ob, 5, none⟩ = some (.slice ka ks.length kc) := (((Kept.refl [] w).alloc _).alloc _).cell c5 (by simp)
  have q5 : ((w.alloc (.cells #[x0, x1, x2, x3, x4, x5, x6] 33)).alloc (.cells #[x0, x1, x2, x3, x4, x5, x6] 33)).cell? ⟨ob, 6, none⟩ = some (.slice oa os.length oc) := (((Kept.refl [] w).alloc _).alloc _).cell c6 (by simp)
  have q6 : (((w.alloc (.cells #[x0, x1, x2, x3, x4, x5, x6] 33)).alloc (.cells #[.string s] 9)).alloc (.cells #[x0, x1, x2, x3, x4, x5, x6] 33)).cell? ⟨ob, 5, none⟩ = some (.slice ka ks.length kc) := ((((Kept.refl [] w).alloc _).alloc _).alloc _).cell c5 (by simp)
  have q7 : (((w.alloc (.cells #[x0, x1, x2, x3, x4, x5, x6] 33)).alloc (.cells #[.string s] 9)).alloc (.cells #[x0, x1, x2, x3, x4, x5, x6] 33)).cell? ⟨ob, 6, none⟩ = some (.slice oa os.length oc) := ((((Kept.refl [] w).alloc _).alloc _).alloc _).cell c6 (by simp)
  have q8 : (((w.alloc (.cells #[x0, x1, x2, x3, x4, x5, x6] 33)).alloc (.cells #[x0, x1, x2, x3, x4, x5, x6] 33)).alloc (.cells #[.string s] 9)).cell? ⟨ob, 5, none⟩ = some (.slice ka ks.length kc) := ((((Kept.refl [] w).alloc _).alloc _).alloc _).cell c5 (by simp)
  have q9 : (((w.alloc (.cells #[x0, x1, x2, x3, x4, x5, x6] 33)).alloc (.cells #[x0, x1, x2, x3, x4, x5, x6] 33)).alloc (.cells #[.string s] 9)).cell? ⟨ob, 6, none⟩ = some (.slice oa os.length oc) := ((((Kept.refl [] w).alloc _).alloc _).alloc _).cell c6 (by simp)
  have HQA : Hid ((((w.alloc (.cells #[x0, x1, x2, x3, x4, x5, x6] 33)).alloc (.cells #[.string s] 9)).alloc (.cells #[x0, x1, x2, x3, x4, x5, x6] 33)).drew.heap[w.heap.size + 1 + 1]? = some (.cells #[x0, x1, x2, x3, x4, x5, x6] 33 (0, 0))) := Lib.hid (by
    have := heap_alloc_new ((w.alloc (.cells #[x0, x1, x2, x3, x4, x5, x6] 33)).alloc (.cells #[.string s] 9)) (.cells #[x0, x1, x2, x3, x4, x5, x6] 33)
    rw [show ((w.alloc (.cells #[x0, x1, x2, x3, x4, x5, x6] 33)).alloc (.cells #[.string s] 9)).heap.size = w.heap.size + 1 + 1 by simp] at this
    exact this)
  have HQB : Hid ((((w.alloc (.cells #[x0, x1, x2, x3, x4, x5, x6] 33)).alloc (.cells #[x0, x1, x2, x3, x4, x5, x6] 33)).alloc (.cells #[.string s] 9)).drew.heap[w.heap.size + 1]? = some (.cells #[x0, x1, x2, x3, x4, x5, x6] 33 (0, 0))) := Lib.hid (by
    have := heap_alloc_new (w.alloc (.cells #[x0, x1, x2, x3, x4, x5, x6] 33)) (.cells #[x0, x1, x2, x3, x4, x5, x6] 33)
    rw [show (w.alloc (.cells #[x0, x1, x2, x3, x4, x5, x6] 33)).heap.size = w.heap.size + 1 by simp] at this
    exact (heap_alloc_old _ _ (by simp)).trans this)
  clear hA h ho hle hob
  go_enter Tryd.func12, Tryd.ntmps12
  have HF := Lib.hid hf
  have HF2 := Lib.hid hf2
  clear hf hf2
  go_wp2_with fail
  go_region_law (first
    | (refine step_keys (w := w) (kv0 := .slice ka ks.length kc) (ov0 := .slice oa os.length oc) (B := B) (ob := ob) (s0 := w.heap.size) (o := #[x0, x1, x2, x3, x4, x5, x6]) (x := .slice ka ks.length kc) (ks := ks) (os := os) (kv := .slice ka ks.length kc) (ov := .slice oa os.length oc) ?_ _ s rfl (.tmp 6) (.tmp 8) rfl rfl rfl rfl ?_ HF.out ?_
       · (repeat (first | with_reducible exact HA.out | with_reducible apply AInv.drew | with_reducible apply AInv.alloc | with_reducible apply AInv.set | fail))
       · go_simp
       intro b C w1 hA1 hkk
       first
         | have HB2 := Lib.hid (hkk _ _ HQA.out)
         | have HB2 := Lib.hid (hkk _ _ HQB.out)
         | skip
       clear hkk
       have d1 : w1.cell? ⟨ob, 5, none⟩ = some (.slice ka ks.length kc) := cellsOf hA1.dict 5
       have d2 : w1.cell? ⟨ob, 6, none⟩ = some (.slice oa os.length oc) := cellsOf hA1.dict 6
       have e1 : w1.frozen? ⟨ob, 5, none⟩ = false := frozenOf hA1.dict 5
       have e2 : w1.frozen? ⟨ob, 6, none⟩ = false := frozenOf hA1.dict 6
       have y0 : w1.cell? ⟨w.heap.size, 0, none⟩ = some x0 := cellsOf hA1.box 0
       have y1 : w1.cell? ⟨w.heap.size, 1, none⟩ = some x1 := cellsOf hA1.box 1
       have y2 : w1.cell? ⟨w.heap.size, 2, none⟩ = some x2 := cellsOf hA1.box 2
       have y3 : w1.cell? ⟨w.heap.size, 3, none⟩ = some x3 := cellsOf hA1.box 3
       have y4 : w1.cell? ⟨w.heap.size, 4, none⟩ = some x4 := cellsOf hA1.box 4
       have y5 : w1.cell? ⟨w.heap.size, 5, none⟩ = some x5 := cellsOf hA1.box 5
       have y6 : w1.cell? ⟨w.heap.size, 6, none⟩ = some x6 := cellsOf hA1.box 6
       have z1 : ob < w1.heap.size := by have := hA1.size; have := hA1.lt; have := hA1.le; omega
       have z2 : w.heap.size < w1.heap.size := hA1.size
       have HA1 := Lib.hid hA1
       clear hA1)
    | (refine step_kids (w := w) (kv0 := .slice ka ks.length kc) (ov0 := .slice oa os.length oc) (B := B) (ob := ob) (s0 := w.heap.size) (o := #[x0, x1, x2, x3, x4, x5, x6]) (x := .slice ka ks.length kc) (ks := ks ++ [s]) (os := os) (kv := .slice b (ks.length + 1) C) (ov := .slice oa os.length oc) ?_ HO.out _ rfl (.tmp 11) (.tmp 13) rfl rfl rfl rfl ?_ HF2.out ?_
       · (repeat (first | with_reducible exact HA1.out | with_reducible apply AInv.drew | with_reducible apply AInv.alloc | with_reducible apply AInv.set | fail)); done
       · (first
            | exact heap_alloc_new _ _
            | exact HB2.out
            | (refine (Go.Deep.blk_setCell_other _ _ _ _ (Nat.ne_of_gt z1)).trans ?_; exact heap_alloc_new _ _)
            | (refine (Go.Deep.blk_setCell_other _ _ _ _ ?_).trans HB2.out; simp; omega)
            | (have hs := heap_alloc_new (w1.setCell ⟨ob, 5, none⟩ (.slice b (ks.length + 1) C)) (.cells #[x0, x1, x2, x3, x4, x5, x6] 33); simp only [World.size_setCell] at hs; exact hs)
            | fail)
       intro b2 C2 w2 hA2
       have d3 : w2.cell? ⟨ob, 5, none⟩ = some (.slice ka ks.length kc) := cellsOf hA2.dict 5
       have d4 : w2.cell? ⟨ob, 6, none⟩ = some (.slice oa os.length oc) := cellsOf hA2.dict 6
       have e3 : w2.frozen? ⟨ob, 5, none⟩ = false := frozenOf hA2.dict 5
       have e4 : w2.frozen? ⟨ob, 6, none⟩ = false := frozenOf hA2.dict 6
       have HA2 := Lib.hid hA2
       clear hA2)
    | (refine step_kids (w := w) (kv0 := .slice ka ks.length kc) (ov0 := .slice oa os.length oc) (B := B) (ob := ob) (s0 := w.heap.size) (o := #[x0, x1, x2, x3, x4, x5, x6]) (x := .slice b (ks.length + 1) C) (ks := ks ++ [s]) (os := os) (kv := .slice b (ks.length + 1) C) (ov := .slice oa os.length oc) ?_ HO.out _ rfl (.tmp 11) (.tmp 13) rfl rfl rfl rfl ?_ HF2.out ?_
       · (repeat (first | with_reducible exact HA1.out | with_reducible apply AInv.drew | with_reducible apply AInv.alloc | with_reducible apply AInv.set | fail)); done
       · (first
            | exact heap_alloc_new _ _
            | exact HB2.out
            | (refine (Go.Deep.blk_setCell_other _ _ _ _ (Nat.ne_of_gt z1)).trans ?_; exact heap_alloc_new _ _)
            | (refine (Go.Deep.blk_setCell_other _ _ _ _ ?_).trans HB2.out; simp; omega)
            | (have hs := heap_alloc_new (w1.setCell ⟨ob, 5, none⟩ (.slice b (ks.length + 1) C)) (.cells #[x0, x1, x2, x3, x4, x5, x6] 33); simp only [World.size_setCell] at hs; exact hs)
            | fail)
       intro b2 C2 w2 hA2
       have d3 : w2.cell? ⟨ob, 5, none⟩ = some (.slice b (ks.length + 1) C) := cellsOf hA2.dict 5
       have d4 : w2.cell? ⟨ob, 6, none⟩ = some (.slice oa os.length oc) := cellsOf hA2.dict 6
       have e3 : w2.frozen? ⟨ob, 5, none⟩ = false := frozenOf hA2.dict 5
       have e4 : w2.frozen? ⟨ob, 6, none⟩ = false := frozenOf hA2.dict 6
       have HA2 := Lib.hid hA2
       clear hA2)
    | fail)
  all_goals
    go_end0
    first
      | exact ⟨rfl, _, _, HA2.out.end2⟩
      | exact ⟨rfl, _, _, HA2.out.end1⟩
end Go.Proofs.YtcandemhaddkjaaDoor.xs
