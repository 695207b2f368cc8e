/-
  model.parseXRefStreamDictWithLimits, ParseXRefStreamDictWithLimits; impl.limits, impl.XRefStream's closure.
-/
import Derived.Test.YtcandemhaddkjaaDoorPrt
namespace Go.Proofs.YtcandemhaddkjaaDoor.xs
open Go.RowKit Go.MapKept Go.ChangeMaps
set_option linter.unusedVariables false
set_option linter.unusedSimpArgs false

/-- What the package tells of a stream. -/
def ParE (w : World) (m : Nat) (ca : Option Addr) (cn cc : Nat) (size : Int) (l : List Int) (a b c prev : Int) (e : Ending) (w' : World) : Prop :=
  ∃ xb p objs, e = .returned (.tuple #[.pointer (some ⟨xb, 0, none⟩), .nilIface]) ∧ w'.heap[xb]? = some (.cells (xsdC m ca cn cc size objs a b c (.pointer p)) 56 (0, 0)) ∧ PrevIs w' prev (.pointer p) ∧ w.heap.size ≤ xb ∧ w'.ownsRow w.heap.size 3 1 objs l.length (iv l) ∧ Below w.heap.size w w'

/-- What is known of the stream. -/
structure Know (w : World) (sb m : Nat) (ca : Option Addr) (cn cc sz N : Nat) (z : Nat → Int) (a b c prev : Int) (K : Nat) (z' : Nat → Int) : Prop where
  sd : SdIs w sb m ca cn cc sz N z a b c prev
  eff : Eff (sz : Int) N z K z'
  ok : OkK (sz : Int) z' K
  lo : 1 ≤ sz
  hi : sz ≤ 5000
  a0 : 0 ≤ a
  b0 : 0 ≤ b
  c0 : 0 ≤ c
theorem Know.kept {w w' : World} {sb m : Nat} {ca : Option Addr} {cn cc sz N : Nat} {z : Nat → Int} {a b c prev : Int} {K : Nat} {z' : Nat → Int} (h : Know w sb m ca cn cc sz N z a b c prev K z') (k : Kept [] w w') : Know w' sb m ca cn cc sz N z a b c prev K z' :=
  { h with sd := h.sd.kept k }

section
variable {w w' : World} {sb m : Nat} {ca : Option Addr} {cn cc : Nat} {sz : Nat} {N : Nat} {z : Nat → Int} {a b c prev : Int} {K : Nat} {z' : Nat → Int}

set_option maxHeartbeats 2000000 in
set_option maxRecDepth 100000 in
theorem parse17 (h : Know w sb m ca cn cc sz N z a b c prev K z') : Calls Tryd.prog 17 #[.pointer (some ⟨sb, 0, none⟩), .agg lim, .bool false] w fun e w' => ParE w m ca cn cc sz (outK z' K) a b c prev e w' := by
  have hb0 : Below w.heap.size w (w.alloc (.cells lim 46)) := (Below.refl _ _).alloc (Nat.le_refl _) _
  have h' := h.kept (Kept.of_below hb0 [])
  have HL : Hid ((w.alloc (.cells lim 46)).heap[w.heap.size]? = some (.cells lim 46 (0, 0))) := Lib.hid (heap_alloc_new w _)
  have HB := Lib.hid hb0
  have H20 := Lib.hid (size20 h'.sd h'.lo h'.hi)
  have HK := Lib.hid h'
  clear h h' hb0
  unfold lim at H20 HB HL HK ⊢
  go_enter Tryd.func17, Tryd.ntmps17
  go_wp2_with (go_at_call 20; refine H20.out.mono ?_; rintro e w1 ⟨rfl, hb⟩; refine Hid.out ?_)
  refine Lib.hid ?_
  have l := (hb.block w.heap.size (by simp)).trans HL.out
  have l0 : w1.cell? ⟨w.heap.size, 0, none⟩ = some (.int .i64 536870912) := cellsOf l 0
  have l1 : w1.cell? ⟨w.heap.size, 1, none⟩ = some (.int .i64 536870912) := cellsOf l 1
  have l2 : w1.cell? ⟨w.heap.size, 2, none⟩ = some (.int .i64 104857600) := cellsOf l 2
  have l3 : w1.cell? ⟨w.heap.size, 3, none⟩ = some (.int .i64 536870912) := cellsOf l 3
  have l4 : w1.cell? ⟨w.heap.size, 4, none⟩ = some (.int .i64 65536) := cellsOf l 4
  have l5 : w1.cell? ⟨w.heap.size, 5, none⟩ = some (.int .i64 65536) := cellsOf l 5
  have l6 : w1.cell? ⟨w.heap.size, 6, none⟩ = some (.int .i64 16777216) := cellsOf l 6
  have l7 : w1.cell? ⟨w.heap.size, 7, none⟩ = some (.int .i64 65536) := cellsOf l 7
  have l8 : w1.cell? ⟨w.heap.size, 8, none⟩ = some (.int .i64 100) := cellsOf l 8
  have hk1 := HK.out.kept (Kept.of_below hb [])
  have H21 := Lib.hid (objects21 hk1.sd K z' hk1.eff hk1.ok hk1.lo hk1.hi)
  have HK1 := Lib.hid hk1
  have HB1 := Lib.hid (HB.out.trans (hb.mono (by simp)))
  unfold lim at H21
  clear l hk1 hb
  go_wp2_with (go_at_call 21; refine H21.out.mono ?_; rintro e w2 ⟨v, rfl, ho, hb2⟩; refine Hid.out ?_)
  refine Lib.hid ?_
  have hk2 := HK1.out.kept (Kept.of_below hb2 [])
  obtain ⟨oa, on, oc, rfl⟩ := own_any ho
  have H22 := Lib.hid (create22 hk2.sd oa on oc hk2.a0 hk2.b0 hk2.c0)
  have HO := Lib.hid ho
  have HB2 := Lib.hid (HB1.out.trans (hb2.mono HB1.out.size))
  clear hk2 ho hb2
  go_wp2_with (go_at_call 22; refine H22.out.mono ?_; rintro e w3 ⟨xb, p, rfl, hx, hp, hlo, hb3⟩)
  go_ret2
  exact ⟨xb, p, _, rfl, hx, hp, Nat.le_trans HB2.out.size hlo, own_mono (own_kept HO.out (Kept.of_below hb3 []) (by simp)) HB1.out.size, HB2.out.trans (hb3.mono HB2.out.size)⟩

set_option maxHeartbeats 2000000 in
set_option maxRecDepth 100000 in
theorem parse10 (h : Know w sb m ca cn cc sz N z a b c prev K z') : Calls Tryd.prog 10 #[.pointer (some ⟨sb, 0, none⟩), .agg lim] w fun e w' => ParE w m ca cn cc sz (outK z' K) a b c prev e w' := by
  have hb0 : Below w.heap.size w (w.alloc (.cells lim 46)) := (Below.refl _ _).alloc (Nat.le_refl _) _
  have H17 := Lib.hid (parse17 (h.kept (Kept.of_below hb0 [])))
  have HB := Lib.hid hb0
  clear h hb0
  unfold lim at H17 HB ⊢
  go_enter Tryd.func10, Tryd.ntmps10
  go_wp2_with (go_at_call 17; refine H17.out.mono ?_; rintro e w1 ⟨xb, p, objs, rfl, hx, hp, hlo, ho, hb⟩)
  go_ret2
  exact ⟨xb, p, objs, rfl, hx, hp, by simp at hlo; omega, own_mono ho (by simp), HB.out.trans (hb.mono (by simp))⟩
end

set_option maxHeartbeats 1000000 in
set_option maxRecDepth 100000 in
theorem limits18 (w : World) : Calls Tryd.prog 18 #[] w fun e w' => e = .returned (.agg #[.int .i64 536870912, .int .i64 536870912, .int .i64 104857600, .int .i64 536870912, .int .i64 10000000, .int .i64 1000000, .int .i64 16777216, .int .i64 10000000, .int .i64 100]) ∧ Below w.heap.size w w' := by
  go_enter Tryd.func18, Tryd.ntmps18
  go_wp2_with fail
  refine bodyPost_ret (v := .agg #[.int .i64 536870912, .int .i64 536870912, .int .i64 104857600, .int .i64 536870912, .int .i64 10000000, .int .i64 1000000, .int .i64 16777216, .int .i64 10000000, .int .i64 100]) ?_ rfl ⟨rfl, (Below.refl _ _).alloc (Nat.le_refl _) _⟩
  have hres : Tryd.f18.results = #[.cell 0 46] := by kernel_rfl
  simp only [results, hres]
  go_simp

set_option maxHeartbeats 2000000 in
set_option maxRecDepth 100000 in
theorem limits11 (w : World) : Calls Tryd.prog 11 #[] w fun e w' => e = .returned (.agg lim) ∧ Below w.heap.size w w' := by
  unfold lim
  go_enter Tryd.func11, Tryd.ntmps11
  go_wp2_with (go_at_call 18; refine (limits18 _).mono ?_; rintro e w1 ⟨rfl, hb⟩; refine Hid.out ?_)
  refine Lib.hid ?_
  have hz : w1.heap[w.heap.size]? = some (.cells #[.int .i64 0, .int .i64 0, .int .i64 0, .int .i64 0, .int .i64 0, .int .i64 0, .int .i64 0, .int .i64 0, .int .i64 0] 46 (0, 0)) := (hb.block w.heap.size (by simp)).trans (heap_alloc_new w _)
  have z0 : w1.cell? ⟨w.heap.size, 0, none⟩ = some (.int .i64 0) := cellsOf hz 0
  have f0 : w1.frozen? ⟨w.heap.size, 0, none⟩ = false := frozenOf hz 0
  have z1 : w1.cell? ⟨w.heap.size, 1, none⟩ = some (.int .i64 0) := cellsOf hz 1
  have f1 : w1.frozen? ⟨w.heap.size, 1, none⟩ = false := frozenOf hz 1
  have z2 : w1.cell? ⟨w.heap.size, 2, none⟩ = some (.int .i64 0) := cellsOf hz 2
  have f2 : w1.frozen? ⟨w.heap.size, 2, none⟩ = false := frozenOf hz 2
  have z3 : w1.cell? ⟨w.heap.size, 3, none⟩ = some (.int .i64 0) := cellsOf hz 3
  have f3 : w1.frozen? ⟨w.heap.size, 3, none⟩ = false := frozenOf hz 3
  have z4 : w1.cell? ⟨w.heap.size, 4, none⟩ = some (.int .i64 0) := cellsOf hz 4
  have f4 : w1.frozen? ⟨w.heap.size, 4, none⟩ = false := frozenOf hz 4
  have z5 : w1.cell? ⟨w.heap.size, 5, none⟩ = some (.int .i64 0) := cellsOf hz 5
  have f5 : w1.frozen? ⟨w.heap.size, 5, none⟩ = false := frozenOf hz 5
  have z6 : w1.cell? ⟨w.heap.size, 6, none⟩ = some (.int .i64 0) := cellsOf hz 6
  have f6 : w1.frozen? ⟨w.heap.size, 6, none⟩ = false := frozenOf hz 6
  have z7 : w1.cell? ⟨w.heap.size, 7, none⟩ = some (.int .i64 0) := cellsOf hz 7
  have f7 : w1.frozen? ⟨w.heap.size, 7, none⟩ = false := frozenOf hz 7
  have z8 : w1.cell? ⟨w.heap.size, 8, none⟩ = some (.int .i64 0) := cellsOf hz 8
  have f8 : w1.frozen? ⟨w.heap.size, 8, none⟩ = false := frozenOf hz 8
  have hlt : w.heap.size < w1.heap.size := (Array.getElem?_eq_some_iff.1 hz).1
  have HB1 : Hid (Below w.heap.size w w1) := Lib.hid (((Below.refl _ _).alloc (Nat.le_refl _) _).trans (hb.mono (by simp)))
  have hfin : Hid (∀ W, Kept [w.heap.size] w1 W → Below w.heap.size w W) := Lib.hid fun W k => HB1.out.trans (k.below (by omega) (by simp))
  clear hz hb
  go_wp2_with fail
  refine bodyPost_ret (v := .agg #[.int .i64 536870912, .int .i64 536870912, .int .i64 104857600, .int .i64 536870912, .int .i64 65536, .int .i64 65536, .int .i64 16777216, .int .i64 65536, .int .i64 100]) ?_ rfl ⟨rfl, hfin.out _ ?_⟩
  · have hres : Tryd.f11.results = #[.cell 0 46] := by kernel_rfl
    simp only [results, hres]
    go_simp
  · repeat' (first | with_reducible exact Kept.refl _ _ | (with_reducible refine Kept.alloc ?_ _) | (with_reducible refine Kept.setCell ?_ (by simp) _))
end Go.Proofs.YtcandemhaddkjaaDoor.xs
