/-
  model: xRefStreamSize, xRefStreamObjects, createXRefStreamDict, parseXRefStreamDictWithLimits; impl.limits.
-/
import Derived.Test.YtcandemhaddkjaaDoorPrs
namespace Go.Proofs.YtcandemhaddkjaaDoor.xs
open Go.RowKit Go.MapKept Go.ChangeMaps
set_option linter.unusedVariables false
set_option linter.unusedSimpArgs false

theorem neqA (w : World) (a : Option Addr) (n c : Nat) : (binOp .neq 83 (.slice a n c) (.slice none 0 0)).run Tryd.prog w = .ok (.bool (!a.isNone)) w := run_neq_slice_nil_any (P := Tryd.prog) w 83 64 a n c 0 0 Tryd.underlying83
theorem eqlA (w : World) (g C n : Nat) : (binOp .eql 83 (.slice (some ⟨g, 0, none⟩) n C) (.slice none 0 0)).run Tryd.prog w = .ok (.bool false) w := Lib.run_eql_slice_nil (P := Tryd.prog) w 83 64 _ n C 0 0 Tryd.underlying83

section
variable {w w' : World} {sb m : Nat} {ca : Option Addr} {cn cc : Nat} {sz : Nat} {N : Nat} {z : Nat → Int} {a b c prev : Int}

set_option maxHeartbeats 2000000 in
set_option maxRecDepth 100000 in
theorem size20 (h : SdIs w sb m ca cn cc sz N z a b c prev) (h1 : 1 ≤ sz) (h2 : sz ≤ 5000) : Calls Tryd.prog 20 #[.pointer (some ⟨sb, 0, none⟩), .agg lim] w fun e w' => e = .returned (.tuple #[.int .i64 (sz : Int), .nilIface]) ∧ Below w.heap.size w w' := by
  have hb0 : Below w.heap.size w (w.alloc (.cells lim 46)) := (Below.refl _ _).alloc (Nat.le_refl _) _
  have h' := h.kept (Kept.of_below hb0 [])
  have H := Lib.hid (size25 h')
  have c0 : (w.alloc (.cells lim 46)).cell? ⟨sb, 0, none⟩ = some (.map (some m)) := cellsOf h'.blk 0
  have HB := Lib.hid hb0
  clear h h' hb0
  unfold lim at *
  go_enter Tryd.func20, Tryd.ntmps20
  go_wp2_with (go_at_call 25; refine H.out.mono ?_; rintro e w1 ⟨rfl, rfl⟩)
  go_ret2
  exact ⟨rfl, HB.out.alloc (by simp) _⟩

set_option maxHeartbeats 2000000 in
set_option maxRecDepth 100000 in
theorem objects21 (h : SdIs w sb m ca cn cc sz N z a b c prev) (K : Nat) (z' : Nat → Int) (hE : Eff (sz : Int) N z K z') (hok : OkK (sz : Int) z' K) (h1 : 1 ≤ sz) (h2 : sz ≤ 5000) : Calls Tryd.prog 21 #[.pointer (some ⟨sb, 0, none⟩), .int .i64 (sz : Int), .agg lim, .bool false] w fun e w' => ObsE w sz (outK z' K) e w' := by
  have hb0 : Below w.heap.size w (w.alloc (.cells lim 46)) := (Below.refl _ _).alloc (Nat.le_refl _) _
  have h' := h.kept (Kept.of_below hb0 [])
  have c0 : (w.alloc (.cells lim 46)).cell? ⟨sb, 0, none⟩ = some (.map (some m)) := cellsOf h'.blk 0
  have HL : Hid ((w.alloc (.cells lim 46)).heap[w.heap.size]? = some (.cells lim 46 (0, 0))) := Lib.hid (heap_alloc_new w _)
  have HB := Lib.hid hb0
  rcases hE with ⟨rfl, rfl, rfl⟩ | ⟨hN, rfl, rfl⟩
  · have H := Lib.hid (index27_no h' rfl)
    rw [out_z0]
    have H29 := Lib.hid fun W => fromSize29 sz h2 W
    clear h h' hb0 hok
    unfold lim at *
    have hne := fun W => neqA W none 0 0
    have hne2 := fun W (g n C : Nat) => neqA W (some ⟨g, 0, none⟩) n C
    simp only [Option.isNone_none, Option.isNone_some, Bool.not_true, Bool.not_false] at hne hne2
    go_enter Tryd.func21, Tryd.ntmps21
    go_wp2_with (first
      | (go_at_call 27; refine H.out.mono ?_; rintro e w1 ⟨rfl, hb⟩; refine Hid.out ?_))
    refine Lib.hid ?_
    have hl := (hb.block w.heap.size (by simp)).trans HL.out
    have l0 : w1.cell? ⟨w.heap.size, 0, none⟩ = some (.int .i64 536870912) := cellsOf hl 0
    have l1 : w1.cell? ⟨w.heap.size, 1, none⟩ = some (.int .i64 536870912) := cellsOf hl 1
    have l2 : w1.cell? ⟨w.heap.size, 2, none⟩ = some (.int .i64 104857600) := cellsOf hl 2
    have l3 : w1.cell? ⟨w.heap.size, 3, none⟩ = some (.int .i64 536870912) := cellsOf hl 3
    have l4 : w1.cell? ⟨w.heap.size, 4, none⟩ = some (.int .i64 65536) := cellsOf hl 4
    have l5 : w1.cell? ⟨w.heap.size, 5, none⟩ = some (.int .i64 65536) := cellsOf hl 5
    have l6 : w1.cell? ⟨w.heap.size, 6, none⟩ = some (.int .i64 16777216) := cellsOf hl 6
    have l7 : w1.cell? ⟨w.heap.size, 7, none⟩ = some (.int .i64 65536) := cellsOf hl 7
    have l8 : w1.cell? ⟨w.heap.size, 8, none⟩ = some (.int .i64 100) := cellsOf hl 8
    have HB1 := Lib.hid (HB.out.trans (hb.mono (by simp)))
    clear hl hb c0
    go_wp2_with (go_at_call 29; refine (H29.out _).mono ?_; rintro e w2 ⟨v, rfl, ho, hb2⟩)
    go_ret3
    exact ⟨v, rfl, own_mono ho (by have := HB1.out.size; omega), HB1.out.trans (hb2.mono HB1.out.size)⟩
  · have H := Lib.hid (index27 h' hN)
    have H28 := Lib.hid fun v W hA => fromIndex28 v K z' sz W hA hok h2
    clear h h' hb0 hok
    unfold lim at *
    have hne := fun W => neqA W none 0 0
    have hne2 := fun W (g n C : Nat) => neqA W (some ⟨g, 0, none⟩) n C
    simp only [Option.isNone_none, Option.isNone_some, Bool.not_true, Bool.not_false] at hne hne2
    go_enter Tryd.func21, Tryd.ntmps21
    go_wp2_with (first
      | (go_at_call 27; refine H.out.mono ?_; rintro e w1 ⟨v, rfl, hA, rfl⟩; refine Hid.out ?_))
    refine Lib.hid ?_
    have H28' := Lib.hid (H28.out v _ hA)
    obtain ⟨g, C, rfl, _⟩ := hA
    go_wp2_with (go_at_call 28; refine H28'.out.mono ?_; rintro e w2 ⟨v, rfl, ho, hb2⟩)
    go_ret3
    exact ⟨v, rfl, own_mono ho (by simp), HB.out.trans (hb2.mono (by simp))⟩

/-- The stream's dictionary as it is handed on. -/
def xsdC (m : Nat) (ca : Option Addr) (cn cc : Nat) (size : Int) (objs : Value) (a b c : Int) (p : Value) : Array Value :=
  #[.map (some m), .int .i64 0, .pointer none, .pointer none, .slice none 0 0, .slice none 0 0, .slice ca cn cc, .bool false, .int .i64 0, .int .i64 size, objs, .int .i64 a, .int .i64 b, .int .i64 c, p]
def XsdE (w : World) (m : Nat) (ca : Option Addr) (cn cc : Nat) (size : Int) (objs : Value) (a b c prev : Int) (e : Ending) (w' : World) : Prop :=
  ∃ xb p, e = .returned (.tuple #[.pointer (some ⟨xb, 0, none⟩), .nilIface]) ∧ w'.heap[xb]? = some (.cells (xsdC m ca cn cc size objs a b c (.pointer p)) 56 (0, 0)) ∧ PrevIs w' prev (.pointer p) ∧ w.heap.size ≤ xb ∧ Below w.heap.size w w'

set_option maxHeartbeats 4000000 in
set_option maxRecDepth 100000 in
theorem create22 (h : SdIs w sb m ca cn cc sz N z a b c prev) (oa : Option Addr) (on oc : Nat) (ha : 0 ≤ a) (hb : 0 ≤ b) (hc : 0 ≤ c) : Calls Tryd.prog 22 #[.pointer (some ⟨sb, 0, none⟩), .slice oa on oc, .int .i64 (sz : Int)] w fun e w' => XsdE w m ca cn cc sz (.slice oa on oc) a b c prev e w' := by
  have hb0 : Below w.heap.size w (w.alloc (.cells #[.int .i64 0, .int .i64 0, .int .i64 0] 23)) := (Below.refl _ _).alloc (Nat.le_refl _) _
  have h' := h.kept (Kept.of_below hb0 [])
  have c0 : (w.alloc (.cells #[.int .i64 0, .int .i64 0, .int .i64 0] 23)).cell? ⟨sb, 0, none⟩ = some (.map (some m)) := cellsOf h'.blk 0
  have H30 := Lib.hid (w30 h')
  have HS := Lib.hid h
  have HB := Lib.hid hb0
  have hsb : sb < w.heap.size := (Array.getElem?_eq_some_iff.1 h.blk).1
  have hta : ∀ (n : Int) (w : World), (Instr.typeAssert (.iface 73 (.int .i64 n)) 64 73 true).run Tryd.prog w = .ok (.tuple #[.int .i64 n, .bool true]) w := fun _ _ => by kernel_rfl
  have heq := fun W (g n C : Nat) => eqlA W g C n
  clear h h' hb0
  go_enter Tryd.func22, Tryd.ntmps22
  go_wp2_with (go_at_call 30; refine H30.out.mono ?_; rintro e w1 ⟨v, rfl, hA, rfl⟩; refine Hid.out ?_)
  refine Lib.hid ?_
  obtain ⟨g, C, rfl, hC, hCm, hg, hcl⟩ := hA
  have hgw : g < w.heap.size := by
    have h1 := hcl 0 (by omega)
    have h2 : (w.alloc (.cells #[.int .i64 0, .int .i64 0, .int .i64 0] 23)).cell? ⟨w.heap.size, 0, none⟩ = some (.int .i64 0) := by simp [go_sem]
    have h3 : g ≠ w.heap.size := fun e => by
      rw [e, h2] at h1
      cases h1
    simp at hg
    omega
  have hold : ∀ i v, (w.alloc (.cells #[.int .i64 0, .int .i64 0, .int .i64 0] 23)).cell? ⟨g, i, none⟩ = some v → w.cell? ⟨g, i, none⟩ = some v := fun i v h => (World.cell?_of_block (heap_alloc_old w _ hgw)).symm.trans h
  have x0 : w.cell? ⟨g, 0, none⟩ = some (.iface 73 (.int .i64 a)) := hold _ _ (hcl 0 (by omega))
  have x1 : w.cell? ⟨g, 1, none⟩ = some (.iface 73 (.int .i64 b)) := hold _ _ (hcl 1 (by omega))
  have x2 : w.cell? ⟨g, 2, none⟩ = some (.iface 73 (.int .i64 c)) := hold _ _ (hcl 2 (by omega))
  clear hold
  clear hcl
  go_wp2_with (first
    | (go_at_call 32; refine (val32 _ _).mono ?_; rintro e w' ⟨rfl, rfl⟩)
    | (go_at_call 31; refine (neg31 _ (by assumption) _).mono ?_; rintro e w' ⟨rfl, rfl⟩))
  obtain ⟨W, hW⟩ : ∃ W, w.alloc (.cells #[.int .i64 a, .int .i64 b, .int .i64 c] 23) = W := ⟨_, rfl⟩
  rw [hW]
  have kW : Kept [] w W := by rw [← hW]; exact (Kept.refl _ _).alloc _
  have hsW := HS.out.kept kW
  have s0 : W.cell? ⟨sb, 0, none⟩ = some (.map (some m)) := cellsOf hsW.blk 0
  have s1 : W.cell? ⟨sb, 1, none⟩ = some (.int .i64 0) := cellsOf hsW.blk 1
  have s2 : W.cell? ⟨sb, 2, none⟩ = some (.pointer none) := cellsOf hsW.blk 2
  have s3 : W.cell? ⟨sb, 3, none⟩ = some (.pointer none) := cellsOf hsW.blk 3
  have s4 : W.cell? ⟨sb, 4, none⟩ = some (.slice none 0 0) := cellsOf hsW.blk 4
  have s5 : W.cell? ⟨sb, 5, none⟩ = some (.slice none 0 0) := cellsOf hsW.blk 5
  have s6 : W.cell? ⟨sb, 6, none⟩ = some (.slice ca cn cc) := cellsOf hsW.blk 6
  have s7 : W.cell? ⟨sb, 7, none⟩ = some (.bool false) := cellsOf hsW.blk 7
  have s8 : W.cell? ⟨sb, 8, none⟩ = some (.int .i64 0) := cellsOf hsW.blk 8
  have t0 : W.cell? ⟨w.heap.size, 0, none⟩ = some (.int .i64 a) := by rw [← hW]; simp [go_sem]
  have t1 : W.cell? ⟨w.heap.size, 1, none⟩ = some (.int .i64 b) := by rw [← hW]; simp [go_sem]
  have t2 : W.cell? ⟨w.heap.size, 2, none⟩ = some (.int .i64 c) := by rw [← hW]; simp [go_sem]
  have H33 := Lib.hid (prev33 (hsW.kept (Kept.refl [] W).drew))
  have KW := Lib.hid kW
  clear hsW hW kW c0 x0 x1 x2 hta heq HB H30 hgw hg
  go_region_held3 (fun w' => w'.cell? ⟨sb, 0, none⟩ = some (.map (some m)) ∧ w'.cell? ⟨sb, 1, none⟩ = some (.int .i64 0) ∧ w'.cell? ⟨sb, 2, none⟩ = some (.pointer none) ∧ w'.cell? ⟨sb, 3, none⟩ = some (.pointer none) ∧ w'.cell? ⟨sb, 4, none⟩ = some (.slice none 0 0) ∧ w'.cell? ⟨sb, 5, none⟩ = some (.slice none 0 0) ∧ w'.cell? ⟨sb, 6, none⟩ = some (.slice ca cn cc) ∧ w'.cell? ⟨sb, 7, none⟩ = some (.bool false) ∧ w'.cell? ⟨sb, 8, none⟩ = some (.int .i64 0) ∧ w'.cell? ⟨w.heap.size, 0, none⟩ = some (.int .i64 a) ∧ w'.cell? ⟨w.heap.size, 1, none⟩ = some (.int .i64 b) ∧ w'.cell? ⟨w.heap.size, 2, none⟩ = some (.int .i64 c))
    (((try dsimp only); (repeat' apply And.intro) <;> (first | with_reducible assumption | (rw [World.cell?_drew]; with_reducible assumption) | (refine ((Kept.refl [] _).alloc _).cell (by with_reducible assumption) (by simp)) | fail)))
    (((with_reducible refine H33.out.mono ?_); rintro e' w1 ⟨p, rfl, hp, hbk⟩; (have kk : Kept [] W w1 := (Kept.refl [] W).drew.trans (Kept.of_below hbk []));
        (have s0' : w1.cell? ⟨sb, 0, none⟩ = some (.map (some m)) := kk.cell s0 (by simp));        (have s1' : w1.cell? ⟨sb, 1, none⟩ = some (.int .i64 0) := kk.cell s1 (by simp));        (have s2' : w1.cell? ⟨sb, 2, none⟩ = some (.pointer none) := kk.cell s2 (by simp));        (have s3' : w1.cell? ⟨sb, 3, none⟩ = some (.pointer none) := kk.cell s3 (by simp));        (have s4' : w1.cell? ⟨sb, 4, none⟩ = some (.slice none 0 0) := kk.cell s4 (by simp));        (have s5' : w1.cell? ⟨sb, 5, none⟩ = some (.slice none 0 0) := kk.cell s5 (by simp));        (have s6' : w1.cell? ⟨sb, 6, none⟩ = some (.slice ca cn cc) := kk.cell s6 (by simp));        (have s7' : w1.cell? ⟨sb, 7, none⟩ = some (.bool false) := kk.cell s7 (by simp));        (have s8' : w1.cell? ⟨sb, 8, none⟩ = some (.int .i64 0) := kk.cell s8 (by simp));        (have t0' : w1.cell? ⟨w.heap.size, 0, none⟩ = some (.int .i64 a) := kk.cell t0 (by simp));        (have t1' : w1.cell? ⟨w.heap.size, 1, none⟩ = some (.int .i64 b) := kk.cell t1 (by simp));        (have t2' : w1.cell? ⟨w.heap.size, 2, none⟩ = some (.int .i64 c) := kk.cell t2 (by simp))))
  go_wp2_with fail
  go_ret2
  have kk : Kept [] W w1 := (Kept.refl [] W).drew.trans (Kept.of_below hbk [])
  have hsz := (KW.out.trans kk).size
  refine ⟨w1.heap.size, p, rfl, heap_alloc_new w1 _, ?_, hsz, ((KW.out.trans kk).alloc _).below (Nat.le_refl _) (by simp)⟩
  rcases hp with hp | ⟨hp1, q, hp2, hp3⟩
  · exact .inl hp
  · exact .inr ⟨hp1, q, hp2, ((Kept.refl [] w1).alloc _).cell hp3 (by simp)⟩
end
end Go.Proofs.YtcandemhaddkjaaDoor.xs
