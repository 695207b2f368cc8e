/-
  spec.XRefDict.
-/
import Derived.Test.YtcandemhaddkjaaDoorAdd
import Derived.Test.YtcandemhaddkjaaDoorDic
namespace Go.Proofs.YtcandemhaddkjaaDoor.xs
open Go.RowKit
set_option linter.unusedVariables false
set_option linter.unusedSimpArgs false

def kIndex : ByteArray := ⟨#[73, 110, 100, 101, 120]⟩
def kPrev : ByteArray := ⟨#[80, 114, 101, 118]⟩
def kSize : ByteArray := ⟨#[83, 105, 122, 101]⟩
def kType : ByteArray := ⟨#[84, 121, 112, 101]⟩
def kW : ByteArray := ⟨#[87]⟩
def kXRef : ByteArray := ⟨#[88, 82, 101, 102]⟩

/-- Three widths. -/
def w3 (a b c : Int) : Nat → Int := fun i => if i = 0 then a else if i = 1 then b else c

/-- What the dictionary has. -/
def enOf (size : Int) (N : Nat) (z : Nat → Int) (a b c prev : Int) : List (ByteArray × Thing) :=
  (if 0 < N then [(kIndex, Thing.list N z)] else []) ++ ((if 0 ≤ prev then [(kPrev, Thing.int prev)] else []) ++ [(kSize, Thing.int size), (kType, Thing.name kXRef), (kW, Thing.list 3 (w3 a b c))])

theorem keys_en (size : Int) (N : Nat) (z : Nat → Int) (a b c prev : Int) : Keys (enOf size N z a b c prev) := by
  unfold enOf
  have pl : ∀ s ∈ [kIndex, kPrev, kSize, kType, kW], s.size ≤ 100 ∧ Plain s := by
    intro s hs
    simp at hs
    rcases hs with rfl | rfl | rfl | rfl | rfl <;> exact ⟨by decide, by unfold Plain; decide⟩
  constructor
  · intro p hp
    refine pl p.1 ?_
    split at hp <;> split at hp <;> simp at hp <;> (rcases hp with rfl | rfl | rfl | rfl | rfl | hp) <;> simp_all
  · split <;> split <;> simp <;> decide

/-- What XRefDict hands back. -/
def XrdE (w : World) (size : Int) (N : Nat) (z : Nat → Int) (a b c prev : Int) (e : Ending) (w' : World) : Prop :=
  ∃ kv ov os, e = .returned (.agg (dictO kv ov)) ∧ os.length = (enOf size N z a b c prev).length ∧ Strs w' kv ((enOf size N z a b c prev).map (·.1)) ∧ Rows w' ov os ∧
    (∀ (i : Nat) (s : ByteArray) (t : Thing) (o : Array Value), (enOf size N z a b c prev)[i]? = some (s, t) → os[i]? = some o → t.obj w' o) ∧ Below w.heap.size w w'

/-- An object whose parts nothing of the dictionary touches. -/
def SafeObj (B : Nat) (W : World) (ob : Nat) (kv ov : Value) (t : Thing) (o : Array Value) : Prop := t.obj W o ∧ ∀ part, o = listO part → ∀ g, part.ownBlock = some g → B ≤ g ∧ Prot W ob kv ov g
theorem listO_inj {p q : Value} (h : listO p = listO q) : p = q := by simpa [listO] using h
theorem SafeObj.hold {B : Nat} {W : World} {ob : Nat} {kv ov : Value} {t : Thing} {o : Array Value} {W' : World} {kv' ov' : Value} (h : SafeObj B W ob kv ov t o) (k : Hold W ob kv ov W' kv' ov') : SafeObj B W' ob kv' ov' t o := by
  refine ⟨?_, fun part hp g hg => ⟨(h.2 part hp g hg).1, (k.prot g (h.2 part hp g hg).2).2⟩⟩
  cases t with
  | int n => exact h.1
  | name s => exact h.1
  | list n z =>
    obtain ⟨part, h1, ⟨g, C, rfl, q2, q3, q4, q5⟩, h3⟩ := h.1
    have hp := k.prot g (h.2 _ h1 g rfl).2
    exact ⟨_, h1, ⟨g, C, rfl, q2, q3, hp.2.1, fun i o hi j u hj => (World.cell?_of_block hp.1).trans (q5 i o hi j u hj)⟩, h3⟩

/-- How far the dictionary is. -/
structure DSt (V : World) (B ob : Nat) (en : List (ByteArray × Thing)) (W : World) (kv ov : Value) (os : List (Array Value)) : Prop where
  fin : AFin V B ob (.slice none 0 0) (.slice none 0 0) (dictO kv ov) (en.map (·.1)) os kv ov W
  len : os.length = en.length
  few : en.length ≤ 10
  obj : ∀ (i : Nat) (s : ByteArray) (t : Thing) (o : Array Value), en[i]? = some (s, t) → os[i]? = some o → SafeObj B W ob kv ov t o
theorem DSt.kept {V : World} {B ob : Nat} {en : List (ByteArray × Thing)} {W : World} {kv ov : Value} {os : List (Array Value)} {W' : World} (h : DSt V B ob en W kv ov os) (k : Kept [] W W') : DSt V B ob en W' kv ov os :=
  have hh : Hold W ob kv ov W' kv ov := Hold.kept k (by simp)
  ⟨⟨own_kept h.fin.ownK k (by simp), own_kept h.fin.ownO k (by simp), h.fin.hold.trans hh, (k.block ob (Array.getElem?_eq_some_iff.1 h.fin.dict).1 (by simp)).trans h.fin.dict, h.fin.lt, Nat.le_trans h.fin.le k.size⟩, h.len, h.few, fun i s t o h1 h2 => (h.obj i s t o h1 h2).hold hh⟩
theorem DSt.new {V : World} {B ob : Nat} {en : List (ByteArray × Thing)} {W : World} {kv ov : Value} {os : List (Array Value)} {W' : World} (h : DSt V B ob en W kv ov os) (k : Kept [] W W') {g : Nat} (h1 : W.heap.size ≤ g) (h2 : g < W'.heap.size) : Prot W' ob kv ov g := by
  refine ⟨h2, ?_, fun e => ?_, fun e => ?_⟩
  · have := h.fin.lt
    have := h.fin.le
    omega
  · have := (own_block h.fin.ownK g e).2
    omega
  · have := (own_block h.fin.ownO g e).2
    omega

/-- Below its own blocks only the dictionary's block has changed. -/
theorem DSt.keptV {V : World} {B ob : Nat} {en : List (ByteArray × Thing)} {W : World} {kv ov : Value} {os : List (Array Value)} (h : DSt V B ob en W kv ov os) : Kept [ob] V W :=
  ⟨h.fin.hold.os, h.fin.hold.tape, h.fin.hold.output, h.fin.hold.size, fun g h1 h2 => (h.fin.hold.prot g ⟨h1, by simpa using h2, by simp [Value.ownBlock], by simp [Value.ownBlock]⟩).1⟩
theorem IntsV.kept2 {w w' : World} {v : Value} {n : Nat} {z : Nat → Int} {L : List Nat} (h : IntsV w v n z) (k : Kept L w w') (hL : ∀ a n c, v = .slice (some a) n c → a.block ∉ L) : IntsV w' v n z := by
  rcases h with h | ⟨a, C, h1, h2, h3, h4⟩
  · exact .inl h
  · exact .inr ⟨a, C, h1, h2, h3, fun i hi => k.cell (h4 i hi) (by rw [add_block]; exact hL _ _ _ h1)⟩

theorem int14b (n : Int) (w : World) : Calls Tryd.prog 14 #[.int .i64 n] w fun e w' => e = .returned (.agg (intO n)) ∧ Below w.heap.size w w' :=
  (int14 n w).mono fun e w' ⟨h1, h2⟩ => ⟨h1, by rw [h2]; exact (Below.refl _ _).alloc (Nat.le_refl _) _⟩

def DstE (V : World) (B ob : Nat) (en : List (ByteArray × Thing)) (e : Ending) (w' : World) : Prop := e = .returned (.tuple #[]) ∧ ∃ kv ov os, DSt V B ob en w' kv ov os
theorem DSt.add {V : World} {B ob : Nat} {en : List (ByteArray × Thing)} {W : World} {kv ov : Value} {os : List (Array Value)} (h : DSt V B ob en W kv ov os) (hf : en.length < 10) (s : ByteArray) (t : Thing) (o : Array Value) (ho : SafeObj B W ob kv ov t o) :
    Calls Tryd.prog 12 #[.string s, .agg o, .pointer (some ⟨ob, 0, none⟩)] W fun e w' => DstE V B ob (en ++ [(s, t)]) e w' := by
  refine (add12 s o (Thing.obj_seven ho.1) V W B ob _ _ _ os kv ov h.fin (by simp; omega) (by have := h.len; omega)).mono ?_
  rintro e w' ⟨rfl, kv', ov', hA⟩
  have q : AFin V B ob (.slice none 0 0) (.slice none 0 0) (dictO kv' ov') (en.map (·.1) ++ [s]) (os ++ [o]) kv' ov' w' := ⟨hA.ownK, hA.ownO, h.fin.hold.trans hA.hold, hA.dict, hA.lt, hA.le⟩
  refine ⟨rfl, kv', ov', os ++ [o], by simpa using q, by simp [h.len], by simp; omega, fun i s' t' o' h1 h2 => ?_⟩
  have hl := h.len
  rcases Nat.lt_or_ge i en.length with hi | hi
  · rw [List.getElem?_append_left hi] at h1
    rw [List.getElem?_append_left (by omega)] at h2
    exact (h.obj i s' t' o' h1 h2).hold hA.hold
  · have hi0 : i = en.length := by
      have := (List.getElem?_eq_some_iff.1 h1).1
      simp at this
      omega
    subst hi0
    rw [List.getElem?_append_right (Nat.le_refl _)] at h1
    rw [List.getElem?_append_right (by omega)] at h2
    simp [hl] at h1 h2
    obtain ⟨rfl, rfl⟩ := h1
    subst h2
    exact ho.hold hA.hold
theorem safe_int {B : Nat} {W : World} {ob : Nat} {kv ov : Value} (n : Int) : SafeObj B W ob kv ov (.int n) (intO n) := ⟨rfl, fun p h => by simp [intO, listO] at h⟩
theorem safe_name {B : Nat} {W : World} {ob : Nat} {kv ov : Value} (s : ByteArray) : SafeObj B W ob kv ov (.name s) (nameO s) := ⟨rfl, fun p h => by simp [nameO, listO] at h⟩
theorem safe_list {V : World} {B ob : Nat} {en : List (ByteArray × Thing)} {W : World} {kv ov : Value} {os : List (Array Value)} {W' : World} (h : DSt V B ob en W kv ov os) (k : Kept [] W W') {part : Value} {n : Nat} {z : Nat → Int} (hr : Rows W' part (ints n z)) (hg : ∀ g, part.ownBlock = some g → W.heap.size ≤ g) (h0 : 0 < n) (hn : n ≤ 100000) : SafeObj B W' ob kv ov (.list n z) (listO part) := by
  refine ⟨⟨part, rfl, hr, h0, hn⟩, fun p hp g hpg => ?_⟩
  obtain rfl := listO_inj hp
  obtain ⟨g', C, rfl, _, _, q4, _⟩ := hr
  obtain rfl : g' = g := Option.some.inj hpg
  exact ⟨Nat.le_trans h.fin.le (hg _ rfl), h.new k (hg _ rfl) q4⟩

theorem own_any {w : World} {B e s n : Nat} {v : Value} {xs : List Value} (h : w.ownsRow B e s v n xs) : ∃ a m C, v = .slice a m C := by
  obtain ⟨a, C, h⟩ := own_slice h
  exact ⟨a, n, C, h⟩

theorem DSt.done {w V : World} {en : List (ByteArray × Thing)} {W : World} {kv ov : Value} {os : List (Array Value)} {W' : World} {size : Int} {N : Nat} {z : Nat → Int} {a b c prev : Int} (h : DSt V (w.heap.size + 3) (w.heap.size + 1 + 1) en W kv ov os) (kV : Kept [] w V) (hsV : V.heap.size = w.heap.size + 3) (hen : en = enOf size N z a b c prev) (hne : 0 < en.length) (k : Kept [w.heap.size + 1] W W') :
    XrdE w size N z a b c prev (.returned (.agg (dictO kv ov))) W' := by
  have hl := h.len
  have hob : ∀ (i : Nat) (s : ByteArray) (t : Thing) (o : Array Value), en[i]? = some (s, t) → os[i]? = some o → t.obj W' o := fun i s t o h1 h2 => by
    obtain ⟨q1, q2⟩ := h.obj i s t o h1 h2
    cases t with
    | int n => exact q1
    | name s => exact q1
    | list n z =>
      obtain ⟨part, p1, ⟨g, C, rfl, r2, r3, r4, r5⟩, p3⟩ := q1
      have := (q2 _ p1 g rfl).1
      exact ⟨_, p1, ⟨g, C, rfl, r2, r3, Nat.lt_of_lt_of_le r4 k.size, fun i o hi j u hj => k.cell (r5 i o hi j u hj) (by simp; omega)⟩, p3⟩
  refine ⟨kv, ov, os, rfl, by rw [← hen]; exact hl, ?_, ?_, by rw [← hen]; exact hob, ?_⟩
  · rw [← hen]
    refine Strs.of_own (own_kept h.fin.ownK k (fun g hg => ?_)) (by simpa using hne)
    have := (own_block h.fin.ownK g hg).1
    simp
    omega
  · refine Rows.of_own (own_kept h.fin.ownO k (fun g hg => ?_)) (fun o ho => ?_) (by omega)
    · have := (own_block h.fin.ownO g hg).1
      simp
      omega
    · obtain ⟨i, hi, rfl⟩ := List.mem_iff_getElem.1 ho
      obtain ⟨p, hp⟩ : ∃ p, en[i]? = some p := ⟨_, List.getElem?_eq_getElem (by omega)⟩
      exact Thing.obj_seven (hob i p.1 p.2 _ hp (by simp))
  · exact ((kV.below (Nat.le_refl _) (by simp)).trans (h.keptV.below (by omega) (by simp; omega))).trans (k.below (by have := h.keptV.size; omega) (by simp))

set_option maxHeartbeats 8000000 in
set_option maxRecDepth 100000 in
theorem xrefDict6 (size : Int) (v : Value) (N : Nat) (z : Nat → Int) (a b c prev : Int) (w : World) (hD : IntsV w v N z) (hN : N ≤ 100000) :
    Calls Tryd.prog 6 #[.int .i64 size, v, .agg #[.int .i64 a, .int .i64 b, .int .i64 c], .int .i64 prev] w fun e w' => XrdE w size N z a b c prev e w' := by
  obtain ⟨av, C, rfl⟩ : ∃ a C, v = .slice a N C := by
    rcases hD with ⟨rfl, rfl⟩ | ⟨a, C, rfl, _⟩
    · exact ⟨_, _, rfl⟩
    · exact ⟨_, _, rfl⟩
  obtain ⟨V, hV⟩ : ∃ V, V = ((w.alloc (.cells #[.int .i64 a, .int .i64 b, .int .i64 c] 23)).alloc (.cells zeroO 33)).alloc (.cells (dictO (.slice none 0 0) (.slice none 0 0)) 33) := ⟨_, rfl⟩
  have kV : Kept [] w V := by rw [hV]; exact (((Kept.refl _ _).alloc _).alloc _).alloc _
  have hsV : V.heap.size = w.heap.size + 3 := by rw [hV]; simp
  have b0 : V.heap[w.heap.size]? = some (.cells #[.int .i64 a, .int .i64 b, .int .i64 c] 23 (0, 0)) := by
    rw [hV]; exact ((heap_alloc_old _ _ (by simp <;> omega)).trans (heap_alloc_old _ _ (by simp <;> omega))).trans (heap_alloc_new w _)
  have b1 : V.heap[w.heap.size + 1]? = some (.cells zeroO 33 (0, 0)) := by
    rw [hV]
    refine (heap_alloc_old _ _ (by simp)).trans ?_
    have := heap_alloc_new (w.alloc (.cells #[.int .i64 a, .int .i64 b, .int .i64 c] 23)) (.cells zeroO 33)
    simpa using this
  have b2 : V.heap[w.heap.size + 1 + 1]? = some (.cells (dictO (.slice none 0 0) (.slice none 0 0)) 33 (0, 0)) := by
    rw [hV]
    have := heap_alloc_new ((w.alloc (.cells #[.int .i64 a, .int .i64 b, .int .i64 c] 23)).alloc (.cells zeroO 33)) (.cells (dictO (.slice none 0 0) (.slice none 0 0)) 33)
    simpa using this
  have hw3 : IntsV V (.slice (some ⟨w.heap.size, 0, none⟩) 3 3) 3 (w3 a b c) := .inr ⟨_, 3, rfl, Nat.le_refl _, by unfold maxLen; omega, fun i hi => by
    rw [addr_add, Nat.zero_add, cellsOf b0]
    rcases (show i = 0 ∨ i = 1 ∨ i = 2 by omega) with rfl | rfl | rfl <;> simp [w3]⟩
  have hdv := hD.kept kV
  have d0 : DSt V (w.heap.size + 3) (w.heap.size + 1 + 1) [] V (.slice none 0 0) (.slice none 0 0) [] :=
    ⟨⟨⟨rfl, .inl ⟨rfl, rfl⟩⟩, ⟨rfl, .inl ⟨rfl, rfl⟩⟩, Hold.refl _ _ _ _, b2, by omega, by omega⟩, rfl, by simp, fun i s t o h => by simp at h⟩
  have D0 := Lib.hid d0
  have HB1 := Lib.hid b1
  have HW3 := Lib.hid hw3
  have HDV := Lib.hid hdv
  have KV := Lib.hid kV
  have HSV := Lib.hid hsV
  have HN := Lib.hid hN
  clear d0 b0 b1 b2 hw3 hdv hD kV hsV hN
  unfold zeroO dictO at hV
  by_cases h1 : 0 < N
  · have i1 : (0 : Int) < (N : Int) := by omega
    by_cases h2 : 0 ≤ prev
    · have i2 : decide (0 ≤ prev) = true := by simpa using h2
      have HEN : Hid (((((([] ++ [(kIndex, Thing.list N z)]) ++ [(kPrev, Thing.int prev)]) ++ [(kSize, Thing.int size)]) ++ [(kType, Thing.name kXRef)]) ++ [(kW, Thing.list 3 (w3 a b c))]) = enOf size N z a b c prev) := Lib.hid (by unfold enOf; rw [if_pos h1, if_pos h2]; rfl)
      have h1 := list13 (.slice av N C) N z V (HDV.out) (by omega) (by have := HN.out; omega)
      have H1 := Lib.hid h1
      clear h1
      subst hV
      go_enter Tryd.func6, Tryd.ntmps6
      go_wp2_with (go_at_call 13; refine H1.out.mono ?_; rintro e W1 ⟨p1, rfl, hr1, hg1, hb1⟩; refine Hid.out ?_)
      refine Lib.hid ?_
      have kk1 := Kept.of_below hb1 []
      have hs1 := safe_list D0.out kk1 hr1 hg1 (by omega) (by have := HN.out; omega)
      have dd1 := D0.out.kept kk1
      have ha1 := dd1.add (by simp) kIndex (.list N z) (listO p1) hs1
      have HA1 := Lib.hid ha1
      obtain ⟨gp1, Cp1, rfl, _⟩ := hr1
      clear dd1 hs1 ha1 kk1 hg1 hb1
      have HA1' := HA1
      unfold kIndex listO at HA1'
      go_wp2_with (go_at_call 12; refine HA1'.out.mono ?_; rintro e X1 ⟨rfl, kv1, ov1, os1, hD1⟩; refine Hid.out ?_)
      refine Lib.hid ?_
      have D1 : Hid (DSt _ (w.heap.size + 3) (w.heap.size + 1 + 1) _ X1 kv1 ov1 os1) := Lib.hid hD1
      clear hD1 HA1 HA1'
      have H2 := Lib.hid (int14b prev X1)
      unfold intO at H2
      go_wp2_with (go_at_call 14; refine H2.out.mono ?_; rintro e W2 ⟨rfl, hb2⟩; refine Hid.out ?_)
      refine Lib.hid ?_
      have kk2 := Kept.of_below hb2 []
      have dd2 := D1.out.kept kk2
      have hs2 : SafeObj (w.heap.size + 3) W2 (w.heap.size + 1 + 1) _ _ _ _ := safe_int (kv := kv1) (ov := ov1) prev
      clear hb2
      have ha2 := dd2.add (by simp) kPrev (.int prev) (intO prev) hs2
      have HA2 := Lib.hid ha2
      clear dd2 hs2 ha2 kk2
      have HA2' := HA2
      unfold kPrev intO at HA2'
      go_wp2_with (go_at_call 12; refine HA2'.out.mono ?_; rintro e X2 ⟨rfl, kv2, ov2, os2, hD2⟩; refine Hid.out ?_)
      refine Lib.hid ?_
      have D2 : Hid (DSt _ (w.heap.size + 3) (w.heap.size + 1 + 1) _ X2 kv2 ov2 os2) := Lib.hid hD2
      clear hD2 HA2 HA2'
      have H3 := Lib.hid (int14b size X2)
      unfold intO at H3
      go_wp2_with (go_at_call 14; refine H3.out.mono ?_; rintro e W3 ⟨rfl, hb3⟩; refine Hid.out ?_)
      refine Lib.hid ?_
      have kk3 := Kept.of_below hb3 []
      have dd3 := D2.out.kept kk3
      have hs3 : SafeObj (w.heap.size + 3) W3 (w.heap.size + 1 + 1) _ _ _ _ := safe_int (kv := kv2) (ov := ov2) size
      clear hb3
      have ha3 := dd3.add (by simp) kSize (.int size) (intO size) hs3
      have HA3 := Lib.hid ha3
      clear dd3 hs3 ha3 kk3
      have HA3' := HA3
      unfold kSize intO at HA3'
      go_wp2_with (go_at_call 12; refine HA3'.out.mono ?_; rintro e X3 ⟨rfl, kv3, ov3, os3, hD3⟩; refine Hid.out ?_)
      refine Lib.hid ?_
      have D3 : Hid (DSt _ (w.heap.size + 3) (w.heap.size + 1 + 1) _ X3 kv3 ov3 os3) := Lib.hid hD3
      clear hD3 HA3 HA3'
      have dd4 := D3.out
      have hs4 : SafeObj (w.heap.size + 3) X3 (w.heap.size + 1 + 1) kv3 ov3 _ _ := safe_name kXRef
      have ha4 := dd4.add (by simp) kType (.name kXRef) (nameO kXRef) hs4
      have HA4 := Lib.hid ha4
      clear dd4 hs4 ha4
      have HA4' := HA4
      unfold kType nameO at HA4'
      unfold kXRef at HA4'
      go_wp2_with (go_at_call 12; refine HA4'.out.mono ?_; rintro e X4 ⟨rfl, kv4, ov4, os4, hD4⟩; refine Hid.out ?_)
      refine Lib.hid ?_
      have D4 : Hid (DSt _ (w.heap.size + 3) (w.heap.size + 1 + 1) _ X4 kv4 ov4 os4) := Lib.hid hD4
      clear hD4 HA4 HA4'
      have h5 := list13 (.slice (some ⟨w.heap.size, 0, none⟩) 3 3) 3 (w3 a b c) X4 (HW3.out.kept2 D4.out.keptV (by intro a1 n1 c1 e; simp at e; rw [← e.1]; simp <;> omega)) (by omega) (by have := HN.out; omega)
      have H5 := Lib.hid h5
      clear h5
      go_wp2_with (go_at_call 13; refine H5.out.mono ?_; rintro e W5 ⟨p5, rfl, hr5, hg5, hb5⟩; refine Hid.out ?_)
      refine Lib.hid ?_
      have kk5 := Kept.of_below hb5 []
      have hs5 := safe_list D4.out kk5 hr5 hg5 (by omega) (by have := HN.out; omega)
      have dd5 := D4.out.kept kk5
      have ha5 := dd5.add (by simp) kW (.list 3 (w3 a b c)) (listO p5) hs5
      have HA5 := Lib.hid ha5
      obtain ⟨gp5, Cp5, rfl, _⟩ := hr5
      clear dd5 hs5 ha5 kk5 hg5 hb5
      have HA5' := HA5
      unfold kW listO at HA5'
      go_wp2_with (go_at_call 12; refine HA5'.out.mono ?_; rintro e X5 ⟨rfl, kv5, ov5, os5, hD5⟩; refine Hid.out ?_)
      refine Lib.hid ?_
      have D5 : Hid (DSt _ (w.heap.size + 3) (w.heap.size + 1 + 1) _ X5 kv5 ov5 os5) := Lib.hid hD5
      clear hD5 HA5 HA5'
      obtain ⟨ka, lk, kc, rfl⟩ := own_any D5.out.fin.ownK
      obtain ⟨oa, lo, oc, rfl⟩ := own_any D5.out.fin.ownO
      have c0 : X5.cell? ⟨w.heap.size + 1 + 1, 0, none⟩ = some (.int .i64 8) := cellsOf D5.out.fin.dict 0
      have c1 : X5.cell? ⟨w.heap.size + 1 + 1, 1, none⟩ = some (.int .i64 0) := cellsOf D5.out.fin.dict 1
      have c2 : X5.cell? ⟨w.heap.size + 1 + 1, 2, none⟩ = some (.int .i64 0) := cellsOf D5.out.fin.dict 2
      have c3 : X5.cell? ⟨w.heap.size + 1 + 1, 3, none⟩ = some (.float .f64 0) := cellsOf D5.out.fin.dict 3
      have c4 : X5.cell? ⟨w.heap.size + 1 + 1, 4, none⟩ = some (.string ⟨#[]⟩) := cellsOf D5.out.fin.dict 4
      have c5 : X5.cell? ⟨w.heap.size + 1 + 1, 5, none⟩ = some (.slice ka lk kc) := cellsOf D5.out.fin.dict 5
      have c6 : X5.cell? ⟨w.heap.size + 1 + 1, 6, none⟩ = some (.slice oa lo oc) := cellsOf D5.out.fin.dict 6
      have hres : X5.heap[w.heap.size + 1]? = some (.cells zeroO 33 (0, 0)) := (D5.out.keptV.block _ (by rw [HSV.out]; omega) (by simp)).trans HB1.out
      have r0 : X5.cell? ⟨w.heap.size + 1, 0, none⟩ = some (.int .i64 0) := cellsOf hres 0
      have f0 : X5.frozen? ⟨w.heap.size + 1, 0, none⟩ = false := frozenOf hres 0
      have r1 : X5.cell? ⟨w.heap.size + 1, 1, none⟩ = some (.int .i64 0) := cellsOf hres 1
      have f1 : X5.frozen? ⟨w.heap.size + 1, 1, none⟩ = false := frozenOf hres 1
      have r2 : X5.cell? ⟨w.heap.size + 1, 2, none⟩ = some (.int .i64 0) := cellsOf hres 2
      have f2 : X5.frozen? ⟨w.heap.size + 1, 2, none⟩ = false := frozenOf hres 2
      have r3 : X5.cell? ⟨w.heap.size + 1, 3, none⟩ = some (.float .f64 0) := cellsOf hres 3
      have f3 : X5.frozen? ⟨w.heap.size + 1, 3, none⟩ = false := frozenOf hres 3
      have r4 : X5.cell? ⟨w.heap.size + 1, 4, none⟩ = some (.string ⟨#[]⟩) := cellsOf hres 4
      have f4 : X5.frozen? ⟨w.heap.size + 1, 4, none⟩ = false := frozenOf hres 4
      have r5 : X5.cell? ⟨w.heap.size + 1, 5, none⟩ = some (.slice none 0 0) := cellsOf hres 5
      have f5 : X5.frozen? ⟨w.heap.size + 1, 5, none⟩ = false := frozenOf hres 5
      have r6 : X5.cell? ⟨w.heap.size + 1, 6, none⟩ = some (.slice none 0 0) := cellsOf hres 6
      have f6 : X5.frozen? ⟨w.heap.size + 1, 6, none⟩ = false := frozenOf hres 6
      clear hres
      go_wp2_with fail
      refine bodyPost_ret (v := .agg (dictO (.slice ka lk kc) (.slice oa lo oc))) ?_ rfl (D5.out.done KV.out HSV.out HEN.out (by simp) (((((((Kept.refl _ _).setCell (by simp) _).setCell (by simp) _).setCell (by simp) _).setCell (by simp) _).setCell (by simp) _).setCell (by simp) _ |>.setCell (by simp) _))
      have hres : Tryd.f6.results = #[.cell 8 33] := by kernel_rfl
      unfold dictO
      simp only [results, hres]
      go_simp
    · have i2 : decide (0 ≤ prev) = false := by simpa using h2
      have HEN : Hid ((((([] ++ [(kIndex, Thing.list N z)]) ++ [(kSize, Thing.int size)]) ++ [(kType, Thing.name kXRef)]) ++ [(kW, Thing.list 3 (w3 a b c))]) = enOf size N z a b c prev) := Lib.hid (by unfold enOf; rw [if_pos h1, if_neg h2]; rfl)
      have h1 := list13 (.slice av N C) N z V (HDV.out) (by omega) (by have := HN.out; omega)
      have H1 := Lib.hid h1
      clear h1
      subst hV
      go_enter Tryd.func6, Tryd.ntmps6
      go_wp2_with (go_at_call 13; refine H1.out.mono ?_; rintro e W1 ⟨p1, rfl, hr1, hg1, hb1⟩; refine Hid.out ?_)
      refine Lib.hid ?_
      have kk1 := Kept.of_below hb1 []
      have hs1 := safe_list D0.out kk1 hr1 hg1 (by omega) (by have := HN.out; omega)
      have dd1 := D0.out.kept kk1
      have ha1 := dd1.add (by simp) kIndex (.list N z) (listO p1) hs1
      have HA1 := Lib.hid ha1
      obtain ⟨gp1, Cp1, rfl, _⟩ := hr1
      clear dd1 hs1 ha1 kk1 hg1 hb1
      have HA1' := HA1
      unfold kIndex listO at HA1'
      go_wp2_with (go_at_call 12; refine HA1'.out.mono ?_; rintro e X1 ⟨rfl, kv1, ov1, os1, hD1⟩; refine Hid.out ?_)
      refine Lib.hid ?_
      have D1 : Hid (DSt _ (w.heap.size + 3) (w.heap.size + 1 + 1) _ X1 kv1 ov1 os1) := Lib.hid hD1
      clear hD1 HA1 HA1'
      have H2 := Lib.hid (int14b size X1)
      unfold intO at H2
      go_wp2_with (go_at_call 14; refine H2.out.mono ?_; rintro e W2 ⟨rfl, hb2⟩; refine Hid.out ?_)
      refine Lib.hid ?_
      have kk2 := Kept.of_below hb2 []
      have dd2 := D1.out.kept kk2
      have hs2 : SafeObj (w.heap.size + 3) W2 (w.heap.size + 1 + 1) _ _ _ _ := safe_int (kv := kv1) (ov := ov1) size
      clear hb2
      have ha2 := dd2.add (by simp) kSize (.int size) (intO size) hs2
      have HA2 := Lib.hid ha2
      clear dd2 hs2 ha2 kk2
      have HA2' := HA2
      unfold kSize intO at HA2'
      go_wp2_with (go_at_call 12; refine HA2'.out.mono ?_; rintro e X2 ⟨rfl, kv2, ov2, os2, hD2⟩; refine Hid.out ?_)
      refine Lib.hid ?_
      have D2 : Hid (DSt _ (w.heap.size + 3) (w.heap.size + 1 + 1) _ X2 kv2 ov2 os2) := Lib.hid hD2
      clear hD2 HA2 HA2'
      have dd3 := D2.out
      have hs3 : SafeObj (w.heap.size + 3) X2 (w.heap.size + 1 + 1) kv2 ov2 _ _ := safe_name kXRef
      have ha3 := dd3.add (by simp) kType (.name kXRef) (nameO kXRef) hs3
      have HA3 := Lib.hid ha3
      clear dd3 hs3 ha3
      have HA3' := HA3
      unfold kType nameO at HA3'
      unfold kXRef at HA3'
      go_wp2_with (go_at_call 12; refine HA3'.out.mono ?_; rintro e X3 ⟨rfl, kv3, ov3, os3, hD3⟩; refine Hid.out ?_)
      refine Lib.hid ?_
      have D3 : Hid (DSt _ (w.heap.size + 3) (w.heap.size + 1 + 1) _ X3 kv3 ov3 os3) := Lib.hid hD3
      clear hD3 HA3 HA3'
      have h4 := list13 (.slice (some ⟨w.heap.size, 0, none⟩) 3 3) 3 (w3 a b c) X3 (HW3.out.kept2 D3.out.keptV (by intro a1 n1 c1 e; simp at e; rw [← e.1]; simp <;> omega)) (by omega) (by have := HN.out; omega)
      have H4 := Lib.hid h4
      clear h4
      go_wp2_with (go_at_call 13; refine H4.out.mono ?_; rintro e W4 ⟨p4, rfl, hr4, hg4, hb4⟩; refine Hid.out ?_)
      refine Lib.hid ?_
      have kk4 := Kept.of_below hb4 []
      have hs4 := safe_list D3.out kk4 hr4 hg4 (by omega) (by have := HN.out; omega)
      have dd4 := D3.out.kept kk4
      have ha4 := dd4.add (by simp) kW (.list 3 (w3 a b c)) (listO p4) hs4
      have HA4 := Lib.hid ha4
      obtain ⟨gp4, Cp4, rfl, _⟩ := hr4
      clear dd4 hs4 ha4 kk4 hg4 hb4
      have HA4' := HA4
      unfold kW listO at HA4'
      go_wp2_with (go_at_call 12; refine HA4'.out.mono ?_; rintro e X4 ⟨rfl, kv4, ov4, os4, hD4⟩; refine Hid.out ?_)
      refine Lib.hid ?_
      have D4 : Hid (DSt _ (w.heap.size + 3) (w.heap.size + 1 + 1) _ X4 kv4 ov4 os4) := Lib.hid hD4
      clear hD4 HA4 HA4'
      obtain ⟨ka, lk, kc, rfl⟩ := own_any D4.out.fin.ownK
      obtain ⟨oa, lo, oc, rfl⟩ := own_any D4.out.fin.ownO
      have c0 : X4.cell? ⟨w.heap.size + 1 + 1, 0, none⟩ = some (.int .i64 8) := cellsOf D4.out.fin.dict 0
      have c1 : X4.cell? ⟨w.heap.size + 1 + 1, 1, none⟩ = some (.int .i64 0) := cellsOf D4.out.fin.dict 1
      have c2 : X4.cell? ⟨w.heap.size + 1 + 1, 2, none⟩ = some (.int .i64 0) := cellsOf D4.out.fin.dict 2
      have c3 : X4.cell? ⟨w.heap.size + 1 + 1, 3, none⟩ = some (.float .f64 0) := cellsOf D4.out.fin.dict 3
      have c4 : X4.cell? ⟨w.heap.size + 1 + 1, 4, none⟩ = some (.string ⟨#[]⟩) := cellsOf D4.out.fin.dict 4
      have c5 : X4.cell? ⟨w.heap.size + 1 + 1, 5, none⟩ = some (.slice ka lk kc) := cellsOf D4.out.fin.dict 5
      have c6 : X4.cell? ⟨w.heap.size + 1 + 1, 6, none⟩ = some (.slice oa lo oc) := cellsOf D4.out.fin.dict 6
      have hres : X4.heap[w.heap.size + 1]? = some (.cells zeroO 33 (0, 0)) := (D4.out.keptV.block _ (by rw [HSV.out]; omega) (by simp)).trans HB1.out
      have r0 : X4.cell? ⟨w.heap.size + 1, 0, none⟩ = some (.int .i64 0) := cellsOf hres 0
      have f0 : X4.frozen? ⟨w.heap.size + 1, 0, none⟩ = false := frozenOf hres 0
      have r1 : X4.cell? ⟨w.heap.size + 1, 1, none⟩ = some (.int .i64 0) := cellsOf hres 1
      have f1 : X4.frozen? ⟨w.heap.size + 1, 1, none⟩ = false := frozenOf hres 1
      have r2 : X4.cell? ⟨w.heap.size + 1, 2, none⟩ = some (.int .i64 0) := cellsOf hres 2
      have f2 : X4.frozen? ⟨w.heap.size + 1, 2, none⟩ = false := frozenOf hres 2
      have r3 : X4.cell? ⟨w.heap.size + 1, 3, none⟩ = some (.float .f64 0) := cellsOf hres 3
      have f3 : X4.frozen? ⟨w.heap.size + 1, 3, none⟩ = false := frozenOf hres 3
      have r4 : X4.cell? ⟨w.heap.size + 1, 4, none⟩ = some (.string ⟨#[]⟩) := cellsOf hres 4
      have f4 : X4.frozen? ⟨w.heap.size + 1, 4, none⟩ = false := frozenOf hres 4
      have r5 : X4.cell? ⟨w.heap.size + 1, 5, none⟩ = some (.slice none 0 0) := cellsOf hres 5
      have f5 : X4.frozen? ⟨w.heap.size + 1, 5, none⟩ = false := frozenOf hres 5
      have r6 : X4.cell? ⟨w.heap.size + 1, 6, none⟩ = some (.slice none 0 0) := cellsOf hres 6
      have f6 : X4.frozen? ⟨w.heap.size + 1, 6, none⟩ = false := frozenOf hres 6
      clear hres
      go_wp2_with fail
      refine bodyPost_ret (v := .agg (dictO (.slice ka lk kc) (.slice oa lo oc))) ?_ rfl (D4.out.done KV.out HSV.out HEN.out (by simp) (((((((Kept.refl _ _).setCell (by simp) _).setCell (by simp) _).setCell (by simp) _).setCell (by simp) _).setCell (by simp) _).setCell (by simp) _ |>.setCell (by simp) _))
      have hres : Tryd.f6.results = #[.cell 8 33] := by kernel_rfl
      unfold dictO
      simp only [results, hres]
      go_simp
  · have i1 : ¬ (0 : Int) < (N : Int) := by omega
    by_cases h2 : 0 ≤ prev
    · have i2 : decide (0 ≤ prev) = true := by simpa using h2
      have HEN : Hid ((((([] ++ [(kPrev, Thing.int prev)]) ++ [(kSize, Thing.int size)]) ++ [(kType, Thing.name kXRef)]) ++ [(kW, Thing.list 3 (w3 a b c))]) = enOf size N z a b c prev) := Lib.hid (by unfold enOf; rw [if_neg h1, if_pos h2]; rfl)
      have H1 := Lib.hid (int14b prev V)
      unfold intO at H1
      subst hV
      go_enter Tryd.func6, Tryd.ntmps6
      go_wp2_with (go_at_call 14; refine H1.out.mono ?_; rintro e W1 ⟨rfl, hb1⟩; refine Hid.out ?_)
      refine Lib.hid ?_
      have kk1 := Kept.of_below hb1 []
      have dd1 := D0.out.kept kk1
      have hs1 : SafeObj (w.heap.size + 3) W1 (w.heap.size + 1 + 1) (.slice none 0 0) (.slice none 0 0) _ _ := safe_int prev
      clear hb1
      have ha1 := dd1.add (by simp) kPrev (.int prev) (intO prev) hs1
      have HA1 := Lib.hid ha1
      clear dd1 hs1 ha1 kk1
      have HA1' := HA1
      unfold kPrev intO at HA1'
      go_wp2_with (go_at_call 12; refine HA1'.out.mono ?_; rintro e X1 ⟨rfl, kv1, ov1, os1, hD1⟩; refine Hid.out ?_)
      refine Lib.hid ?_
      have D1 : Hid (DSt _ (w.heap.size + 3) (w.heap.size + 1 + 1) _ X1 kv1 ov1 os1) := Lib.hid hD1
      clear hD1 HA1 HA1'
      have H2 := Lib.hid (int14b size X1)
      unfold intO at H2
      go_wp2_with (go_at_call 14; refine H2.out.mono ?_; rintro e W2 ⟨rfl, hb2⟩; refine Hid.out ?_)
      refine Lib.hid ?_
      have kk2 := Kept.of_below hb2 []
      have dd2 := D1.out.kept kk2
      have hs2 : SafeObj (w.heap.size + 3) W2 (w.heap.size + 1 + 1) _ _ _ _ := safe_int (kv := kv1) (ov := ov1) size
      clear hb2
      have ha2 := dd2.add (by simp) kSize (.int size) (intO size) hs2
      have HA2 := Lib.hid ha2
      clear dd2 hs2 ha2 kk2
      have HA2' := HA2
      unfold kSize intO at HA2'
      go_wp2_with (go_at_call 12; refine HA2'.out.mono ?_; rintro e X2 ⟨rfl, kv2, ov2, os2, hD2⟩; refine Hid.out ?_)
      refine Lib.hid ?_
      have D2 : Hid (DSt _ (w.heap.size + 3) (w.heap.size + 1 + 1) _ X2 kv2 ov2 os2) := Lib.hid hD2
      clear hD2 HA2 HA2'
      have dd3 := D2.out
      have hs3 : SafeObj (w.heap.size + 3) X2 (w.heap.size + 1 + 1) kv2 ov2 _ _ := safe_name kXRef
      have ha3 := dd3.add (by simp) kType (.name kXRef) (nameO kXRef) hs3
      have HA3 := Lib.hid ha3
      clear dd3 hs3 ha3
      have HA3' := HA3
      unfold kType nameO at HA3'
      unfold kXRef at HA3'
      go_wp2_with (go_at_call 12; refine HA3'.out.mono ?_; rintro e X3 ⟨rfl, kv3, ov3, os3, hD3⟩; refine Hid.out ?_)
      refine Lib.hid ?_
      have D3 : Hid (DSt _ (w.heap.size + 3) (w.heap.size + 1 + 1) _ X3 kv3 ov3 os3) := Lib.hid hD3
      clear hD3 HA3 HA3'
      have h4 := list13 (.slice (some ⟨w.heap.size, 0, none⟩) 3 3) 3 (w3 a b c) X3 (HW3.out.kept2 D3.out.keptV (by intro a1 n1 c1 e; simp at e; rw [← e.1]; simp <;> omega)) (by omega) (by have := HN.out; omega)
      have H4 := Lib.hid h4
      clear h4
      go_wp2_with (go_at_call 13; refine H4.out.mono ?_; rintro e W4 ⟨p4, rfl, hr4, hg4, hb4⟩; refine Hid.out ?_)
      refine Lib.hid ?_
      have kk4 := Kept.of_below hb4 []
      have hs4 := safe_list D3.out kk4 hr4 hg4 (by omega) (by have := HN.out; omega)
      have dd4 := D3.out.kept kk4
      have ha4 := dd4.add (by simp) kW (.list 3 (w3 a b c)) (listO p4) hs4
      have HA4 := Lib.hid ha4
      obtain ⟨gp4, Cp4, rfl, _⟩ := hr4
      clear dd4 hs4 ha4 kk4 hg4 hb4
      have HA4' := HA4
      unfold kW listO at HA4'
      go_wp2_with (go_at_call 12; refine HA4'.out.mono ?_; rintro e X4 ⟨rfl, kv4, ov4, os4, hD4⟩; refine Hid.out ?_)
      refine Lib.hid ?_
      have D4 : Hid (DSt _ (w.heap.size + 3) (w.heap.size + 1 + 1) _ X4 kv4 ov4 os4) := Lib.hid hD4
      clear hD4 HA4 HA4'
      obtain ⟨ka, lk, kc, rfl⟩ := own_any D4.out.fin.ownK
      obtain ⟨oa, lo, oc, rfl⟩ := own_any D4.out.fin.ownO
      have c0 : X4.cell? ⟨w.heap.size + 1 + 1, 0, none⟩ = some (.int .i64 8) := cellsOf D4.out.fin.dict 0
      have c1 : X4.cell? ⟨w.heap.size + 1 + 1, 1, none⟩ = some (.int .i64 0) := cellsOf D4.out.fin.dict 1
      have c2 : X4.cell? ⟨w.heap.size + 1 + 1, 2, none⟩ = some (.int .i64 0) := cellsOf D4.out.fin.dict 2
      have c3 : X4.cell? ⟨w.heap.size + 1 + 1, 3, none⟩ = some (.float .f64 0) := cellsOf D4.out.fin.dict 3
      have c4 : X4.cell? ⟨w.heap.size + 1 + 1, 4, none⟩ = some (.string ⟨#[]⟩) := cellsOf D4.out.fin.dict 4
      have c5 : X4.cell? ⟨w.heap.size + 1 + 1, 5, none⟩ = some (.slice ka lk kc) := cellsOf D4.out.fin.dict 5
      have c6 : X4.cell? ⟨w.heap.size + 1 + 1, 6, none⟩ = some (.slice oa lo oc) := cellsOf D4.out.fin.dict 6
      have hres : X4.heap[w.heap.size + 1]? = some (.cells zeroO 33 (0, 0)) := (D4.out.keptV.block _ (by rw [HSV.out]; omega) (by simp)).trans HB1.out
      have r0 : X4.cell? ⟨w.heap.size + 1, 0, none⟩ = some (.int .i64 0) := cellsOf hres 0
      have f0 : X4.frozen? ⟨w.heap.size + 1, 0, none⟩ = false := frozenOf hres 0
      have r1 : X4.cell? ⟨w.heap.size + 1, 1, none⟩ = some (.int .i64 0) := cellsOf hres 1
      have f1 : X4.frozen? ⟨w.heap.size + 1, 1, none⟩ = false := frozenOf hres 1
      have r2 : X4.cell? ⟨w.heap.size + 1, 2, none⟩ = some (.int .i64 0) := cellsOf hres 2
      have f2 : X4.frozen? ⟨w.heap.size + 1, 2, none⟩ = false := frozenOf hres 2
      have r3 : X4.cell? ⟨w.heap.size + 1, 3, none⟩ = some (.float .f64 0) := cellsOf hres 3
      have f3 : X4.frozen? ⟨w.heap.size + 1, 3, none⟩ = false := frozenOf hres 3
      have r4 : X4.cell? ⟨w.heap.size + 1, 4, none⟩ = some (.string ⟨#[]⟩) := cellsOf hres 4
      have f4 : X4.frozen? ⟨w.heap.size + 1, 4, none⟩ = false := frozenOf hres 4
      have r5 : X4.cell? ⟨w.heap.size + 1, 5, none⟩ = some (.slice none 0 0) := cellsOf hres 5
      have f5 : X4.frozen? ⟨w.heap.size + 1, 5, none⟩ = false := frozenOf hres 5
      have r6 : X4.cell? ⟨w.heap.size + 1, 6, none⟩ = some (.slice none 0 0) := cellsOf hres 6
      have f6 : X4.frozen? ⟨w.heap.size + 1, 6, none⟩ = false := frozenOf hres 6
      clear hres
      go_wp2_with fail
      refine bodyPost_ret (v := .agg (dictO (.slice ka lk kc) (.slice oa lo oc))) ?_ rfl (D4.out.done KV.out HSV.out HEN.out (by simp) (((((((Kept.refl _ _).setCell (by simp) _).setCell (by simp) _).setCell (by simp) _).setCell (by simp) _).setCell (by simp) _).setCell (by simp) _ |>.setCell (by simp) _))
      have hres : Tryd.f6.results = #[.cell 8 33] := by kernel_rfl
      unfold dictO
      simp only [results, hres]
      go_simp
    · have i2 : decide (0 ≤ prev) = false := by simpa using h2
      have HEN : Hid (((([] ++ [(kSize, Thing.int size)]) ++ [(kType, Thing.name kXRef)]) ++ [(kW, Thing.list 3 (w3 a b c))]) = enOf size N z a b c prev) := Lib.hid (by unfold enOf; rw [if_neg h1, if_neg h2]; rfl)
      have H1 := Lib.hid (int14b size V)
      unfold intO at H1
      subst hV
      go_enter Tryd.func6, Tryd.ntmps6
      go_wp2_with (go_at_call 14; refine H1.out.mono ?_; rintro e W1 ⟨rfl, hb1⟩; refine Hid.out ?_)
      refine Lib.hid ?_
      have kk1 := Kept.of_below hb1 []
      have dd1 := D0.out.kept kk1
      have hs1 : SafeObj (w.heap.size + 3) W1 (w.heap.size + 1 + 1) (.slice none 0 0) (.slice none 0 0) _ _ := safe_int size
      clear hb1
      have ha1 := dd1.add (by simp) kSize (.int size) (intO size) hs1
      have HA1 := Lib.hid ha1
      clear dd1 hs1 ha1 kk1
      have HA1' := HA1
      unfold kSize intO at HA1'
      go_wp2_with (go_at_call 12; refine HA1'.out.mono ?_; rintro e X1 ⟨rfl, kv1, ov1, os1, hD1⟩; refine Hid.out ?_)
      refine Lib.hid ?_
      have D1 : Hid (DSt _ (w.heap.size + 3) (w.heap.size + 1 + 1) _ X1 kv1 ov1 os1) := Lib.hid hD1
      clear hD1 HA1 HA1'
      have dd2 := D1.out
      have hs2 : SafeObj (w.heap.size + 3) X1 (w.heap.size + 1 + 1) kv1 ov1 _ _ := safe_name kXRef
      have ha2 := dd2.add (by simp) kType (.name kXRef) (nameO kXRef) hs2
      have HA2 := Lib.hid ha2
      clear dd2 hs2 ha2
      have HA2' := HA2
      unfold kType nameO at HA2'
      unfold kXRef at HA2'
      go_wp2_with (go_at_call 12; refine HA2'.out.mono ?_; rintro e X2 ⟨rfl, kv2, ov2, os2, hD2⟩; refine Hid.out ?_)
      refine Lib.hid ?_
      have D2 : Hid (DSt _ (w.heap.size + 3) (w.heap.size + 1 + 1) _ X2 kv2 ov2 os2) := Lib.hid hD2
      clear hD2 HA2 HA2'
      have h3 := list13 (.slice (some ⟨w.heap.size, 0, none⟩) 3 3) 3 (w3 a b c) X2 (HW3.out.kept2 D2.out.keptV (by intro a1 n1 c1 e; simp at e; rw [← e.1]; simp <;> omega)) (by omega) (by have := HN.out; omega)
      have H3 := Lib.hid h3
      clear h3
      go_wp2_with (go_at_call 13; refine H3.out.mono ?_; rintro e W3 ⟨p3, rfl, hr3, hg3, hb3⟩; refine Hid.out ?_)
      refine Lib.hid ?_
      have kk3 := Kept.of_below hb3 []
      have hs3 := safe_list D2.out kk3 hr3 hg3 (by omega) (by have := HN.out; omega)
      have dd3 := D2.out.kept kk3
      have ha3 := dd3.add (by simp) kW (.list 3 (w3 a b c)) (listO p3) hs3
      have HA3 := Lib.hid ha3
      obtain ⟨gp3, Cp3, rfl, _⟩ := hr3
      clear dd3 hs3 ha3 kk3 hg3 hb3
      have HA3' := HA3
      unfold kW listO at HA3'
      go_wp2_with (go_at_call 12; refine HA3'.out.mono ?_; rintro e X3 ⟨rfl, kv3, ov3, os3, hD3⟩; refine Hid.out ?_)
      refine Lib.hid ?_
      have D3 : Hid (DSt _ (w.heap.size + 3) (w.heap.size + 1 + 1) _ X3 kv3 ov3 os3) := Lib.hid hD3
      clear hD3 HA3 HA3'
      obtain ⟨ka, lk, kc, rfl⟩ := own_any D3.out.fin.ownK
      obtain ⟨oa, lo, oc, rfl⟩ := own_any D3.out.fin.ownO
      have c0 : X3.cell? ⟨w.heap.size + 1 + 1, 0, none⟩ = some (.int .i64 8) := cellsOf D3.out.fin.dict 0
      have c1 : X3.cell? ⟨w.heap.size + 1 + 1, 1, none⟩ = some (.int .i64 0) := cellsOf D3.out.fin.dict 1
      have c2 : X3.cell? ⟨w.heap.size + 1 + 1, 2, none⟩ = some (.int .i64 0) := cellsOf D3.out.fin.dict 2
      have c3 : X3.cell? ⟨w.heap.size + 1 + 1, 3, none⟩ = some (.float .f64 0) := cellsOf D3.out.fin.dict 3
      have c4 : X3.cell? ⟨w.heap.size + 1 + 1, 4, none⟩ = some (.string ⟨#[]⟩) := cellsOf D3.out.fin.dict 4
      have c5 : X3.cell? ⟨w.heap.size + 1 + 1, 5, none⟩ = some (.slice ka lk kc) := cellsOf D3.out.fin.dict 5
      have c6 : X3.cell? ⟨w.heap.size + 1 + 1, 6, none⟩ = some (.slice oa lo oc) := cellsOf D3.out.fin.dict 6
      have hres : X3.heap[w.heap.size + 1]? = some (.cells zeroO 33 (0, 0)) := (D3.out.keptV.block _ (by rw [HSV.out]; omega) (by simp)).trans HB1.out
      have r0 : X3.cell? ⟨w.heap.size + 1, 0, none⟩ = some (.int .i64 0) := cellsOf hres 0
      have f0 : X3.frozen? ⟨w.heap.size + 1, 0, none⟩ = false := frozenOf hres 0
      have r1 : X3.cell? ⟨w.heap.size + 1, 1, none⟩ = some (.int .i64 0) := cellsOf hres 1
      have f1 : X3.frozen? ⟨w.heap.size + 1, 1, none⟩ = false := frozenOf hres 1
      have r2 : X3.cell? ⟨w.heap.size + 1, 2, none⟩ = some (.int .i64 0) := cellsOf hres 2
      have f2 : X3.frozen? ⟨w.heap.size + 1, 2, none⟩ = false := frozenOf hres 2
      have r3 : X3.cell? ⟨w.heap.size + 1, 3, none⟩ = some (.float .f64 0) := cellsOf hres 3
      have f3 : X3.frozen? ⟨w.heap.size + 1, 3, none⟩ = false := frozenOf hres 3
      have r4 : X3.cell? ⟨w.heap.size + 1, 4, none⟩ = some (.string ⟨#[]⟩) := cellsOf hres 4
      have f4 : X3.frozen? ⟨w.heap.size + 1, 4, none⟩ = false := frozenOf hres 4
      have r5 : X3.cell? ⟨w.heap.size + 1, 5, none⟩ = some (.slice none 0 0) := cellsOf hres 5
      have f5 : X3.frozen? ⟨w.heap.size + 1, 5, none⟩ = false := frozenOf hres 5
      have r6 : X3.cell? ⟨w.heap.size + 1, 6, none⟩ = some (.slice none 0 0) := cellsOf hres 6
      have f6 : X3.frozen? ⟨w.heap.size + 1, 6, none⟩ = false := frozenOf hres 6
      clear hres
      go_wp2_with fail
      refine bodyPost_ret (v := .agg (dictO (.slice ka lk kc) (.slice oa lo oc))) ?_ rfl (D3.out.done KV.out HSV.out HEN.out (by simp) (((((((Kept.refl _ _).setCell (by simp) _).setCell (by simp) _).setCell (by simp) _).setCell (by simp) _).setCell (by simp) _).setCell (by simp) _ |>.setCell (by simp) _))
      have hres : Tryd.f6.results = #[.cell 8 33] := by kernel_rfl
      unfold dictO
      simp only [results, hres]
      go_simp
end Go.Proofs.YtcandemhaddkjaaDoor.xs
