/-
  FnIsUTF16: decodeUTF16String at six fixed bytes.
-/
import Derived.Test.YtcohlcijgfdanaaDoorU16
import Derived.Laws.OwnMore
namespace Go.Proofs.YtcohlcijgfdanaaDoor.u16
open Go.RowKit

set_option maxHeartbeats 8000000 in
set_option maxRecDepth 100000 in
theorem dec64 (g cap : Nat) (w : World) (h6 : 6 ≤ cap) (hm : cap ≤ maxLen) (c0 : w.cell? ⟨g, 0, none⟩ = some (.int .u8 254)) (c1 : w.cell? ⟨g, 1, none⟩ = some (.int .u8 255)) (c2 : w.cell? ⟨g, 2, none⟩ = some (.int .u8 0)) (c3 : w.cell? ⟨g, 3, none⟩ = some (.int .u8 97)) (c4 : w.cell? ⟨g, 4, none⟩ = some (.int .u8 32)) (c5 : w.cell? ⟨g, 5, none⟩ = some (.int .u8 172)) :
    Calls Tryd.prog 64 #[.slice (some ⟨g, 0, none⟩) 6 cap] w fun e w' => e = .returned (.tuple #[.string ⟨#[97, 226, 130, 172]⟩, .nilIface]) ∧ Below w.heap.size w w' := by
  obtain ⟨i0, hi, hz0, hz1, hz2⟩ := info_parts infoU16
  obtain ⟨j0, ji, jz0, jz1, jz2⟩ := info_parts infoU8
  have hg : g < w.heap.size := World.block_lt_of_cell? _ _ c0
  have hsl := slice2 g cap h6 hm
  have hmk : ∀ w : World, (Instr.makeSlice 71 (.int .i64 0) (.int .i64 4)).run Tryd.prog w = .ok (.slice (some ⟨w.heap.size, 0, none⟩) 0 4) (w.alloc (.cells (madeCells #[.int .u16 0] 4) 74)) := fun w => by
    have := run_make (P := Tryd.prog) w 71 74 i0 (.int .u16 0) Tryd.underlying71 hi hz0 .i64 .i64 0 4 (by decide) (by decide) (by rw [hz2]; decide) (by decide)
    rw [hz1] at this
    exact this
  have C0 := Lib.hid (isBE g cap w c0 c1)
  obtain ⟨W, hW⟩ : ∃ W, w.alloc (.cells (madeCells #[.int .u16 0] 4) 74) = W := ⟨_, rfl⟩
  have hown : W.ownsRow w.heap.size 74 1 (.slice (some ⟨w.heap.size, 0, none⟩) 0 4) 0 [] := by
    rw [← hW]
    exact World.ownsRow_made w _ 4 (Nat.le_refl _) (by unfold maxLen; omega) (size_madeCells _ _)
  have hB : Below w.heap.size w W := by rw [← hW]; exact (Below.refl _ _).alloc (Nat.le_refl _) _
  have d2 := (hB.cell (p := ⟨g, 2, none⟩) hg).trans c2
  have d3 := (hB.cell (p := ⟨g, 3, none⟩) hg).trans c3
  have d4 := (hB.cell (p := ⟨g, 4, none⟩) hg).trans c4
  have d5 := (hB.cell (p := ⟨g, 5, none⟩) hg).trans c5
  have HB := Lib.hid hB
  have HW := Lib.hid hW
  have hsW := hB.size
  clear c0 c1 c2 c3 c4 c5 hB hW
  go_enter Tryd.func64, Tryd.ntmps64
  go_wp2_with (go_at_call 77; refine C0.out.mono ?_; rintro e w' ⟨rfl, rfl⟩)
  rw [HW.out]
  refine wp_loop_rounds 3 ?_
  rw [rounds_succ]
  go_wp2_with fail
  go_quiet (fail)
  obtain ⟨W1, hW1⟩ : ∃ X, W.drewN nq = X := ⟨_, rfl⟩
  have hown1 : W1.ownsRow w.heap.size 74 1 (.slice (some ⟨w.heap.size, 0, none⟩) 0 4) 0 [] := by rw [← hW1]; exact hown
  have hB1 : Below w.heap.size w W1 := by rw [← hW1]; exact ⟨HB.out.os, HB.out.tape, HB.out.output, HB.out.size, HB.out.block⟩
  have e4 : W1.cell? ⟨g, 4, none⟩ = some (.int .u8 32) := by rw [← hW1]; exact d4
  have e5 : W1.cell? ⟨g, 5, none⟩ = some (.int .u8 172) := by rw [← hW1]; exact d5
  have hs1 := hB1.size
  rw [hW1]
  clear hW1 hown HB d2 d3 d4 d5 HW
  go_wp2_with (at_builtin; refine wpList_append_own _ rfl _ _ 71 rfl w.heap.size 74 i0 (.int .u16 0) 1 2 Tryd.underlying71 hi hz0 hz1 hz2 rfl (by decide) _ _ _ rfl (hown1.alloc _) ⟨W1.heap.size, 0, none⟩ 1 1 [Value.int .u16 97] rfl rfl (by intro j u' hj; match j, hj with | 0, hj => simp at hj; subst hj; exact cell_new _ _ _ _ (by simp)) (by intro u' hu'; simp at hu'; subst hu'; rfl) (by unfold maxLen; omega) (by omega) (by simp; omega) ?_; intro v2 w2 hown2 hgrow _; refine Hid.out ?_)
  refine Lib.hid ?_
  have hb2 : Below w.heap.size w w2 := (hB1.alloc (by omega) _).grown hgrow (by simp; omega) (fun k hk => (hown1.lt k hk).1)
  have k4 := (World.cell?_of_block (a := ⟨g, 4, none⟩) (hb2.block g hg)).trans ((World.cell?_of_block (a := ⟨g, 4, none⟩) (hB1.block g hg)).symm.trans e4)
  have k5 := (World.cell?_of_block (a := ⟨g, 5, none⟩) (hb2.block g hg)).trans ((World.cell?_of_block (a := ⟨g, 5, none⟩) (hB1.block g hg)).symm.trans e5)
  have hs2 := hb2.size
  have HB2 := Lib.hid hb2
  clear e4 e5 hown1 hgrow hb2 hB1
  go_wp2_with fail
  rw [rounds_succ]
  go_wp2_with fail
  go_quiet (fail)
  obtain ⟨W3, hW3⟩ : ∃ X, w2.drewN nq = X := ⟨_, rfl⟩
  have hown3 : W3.ownsRow w.heap.size 74 1 v2 1 [.int .u16 97] := by rw [← hW3]; exact hown2
  have hB3 : Below w.heap.size w W3 := by rw [← hW3]; exact ⟨HB2.out.os, HB2.out.tape, HB2.out.output, HB2.out.size, HB2.out.block⟩
  have hs3 := hB3.size
  rw [hW3]
  clear hW3 hown2 HB2 k4 k5
  go_wp2_with (at_builtin; refine wpList_append_own _ rfl _ _ 71 rfl w.heap.size 74 i0 (.int .u16 0) 1 2 Tryd.underlying71 hi hz0 hz1 hz2 rfl (by decide) _ _ _ rfl (hown3.alloc _) ⟨W3.heap.size, 0, none⟩ 1 1 [Value.int .u16 8364] rfl rfl (by intro j u' hj; match j, hj with | 0, hj => simp at hj; subst hj; exact cell_new _ _ _ _ (by simp)) (by intro u' hu'; simp at hu'; subst hu'; rfl) (by unfold maxLen; omega) (by omega) (by simp; omega) ?_; intro v4 w4 hown4 hgrow _; refine Hid.out ?_)
  refine Lib.hid ?_
  have hb4 : Below w.heap.size w w4 := (hB3.alloc (by omega) _).grown hgrow (by simp; omega) (fun k hk => (hown3.lt k hk).1)
  have hs4 := hb4.size
  have HB4 := Lib.hid hb4
  clear hown3 hgrow hb4 hB3
  rcases hown4.2 with ⟨_, h⟩ | ⟨g4, cap4, cur4, rfl, hg4, -, -, -, -, -⟩
  · cases h
  have u0 := hown4.cells (g := g4) rfl 0 (.int .u16 97) rfl
  have u1 := hown4.cells (g := g4) rfl 1 (.int .u16 8364) rfl
  simp [Addr.add] at u0 u1
  clear hown4
  have hmk2 : ∀ w : World, (Instr.makeSlice 29 (.int .i64 4) (.int .i64 4)).run Tryd.prog w = .ok (.slice (some ⟨w.heap.size, 0, none⟩) 4 4) (w.alloc (.cells (madeCells #[.int .u8 0] 4) 5)) := fun w => by
    have := run_make (P := Tryd.prog) w 29 5 j0 (.int .u8 0) Tryd.underlying29 ji jz0 .i64 .i64 4 4 (by decide) (by decide) (by rw [jz2]; decide) (by decide)
    rw [jz1] at this
    exact this
  obtain ⟨W5, hW5⟩ : ∃ X, (w4.alloc (.cells #[] 5)).alloc (.cells (madeCells #[.int .u8 0] 4) 5) = X := ⟨_, rfl⟩
  have hb5 : Below w4.heap.size w4 W5 := by rw [← hW5]; exact ((Below.refl _ _).alloc (Nat.le_refl _) _).alloc (by simp) _
  have g4lt : g4 < w4.heap.size := World.block_lt_of_cell? _ _ u0
  have v0 := (hb5.cell (p := ⟨g4, 0, none⟩) g4lt).trans u0
  have v1 := (hb5.cell (p := ⟨g4, 1, none⟩) g4lt).trans u1
  have hmc : madeCells #[Value.int .u8 0] 4 = #[.int .u8 0, .int .u8 0, .int .u8 0, .int .u8 0] := Array.toList_inj.1 (by rw [toList_madeCells_one]; rfl)
  have b0 : W5.cell? ⟨w4.heap.size + 1, 0, none⟩ = some (.int .u8 0) := by rw [← hW5, hmc]; simp [go_sem]
  have b1 : W5.cell? ⟨w4.heap.size + 1, 1, none⟩ = some (.int .u8 0) := by rw [← hW5, hmc]; simp [go_sem]
  have b2 : W5.cell? ⟨w4.heap.size + 1, 2, none⟩ = some (.int .u8 0) := by rw [← hW5, hmc]; simp [go_sem]
  have z0 : W5.frozen? ⟨w4.heap.size + 1, 0, none⟩ = false := by rw [← hW5, hmc]; simp [go_sem]
  have z1 : W5.frozen? ⟨w4.heap.size + 1, 1, none⟩ = false := by rw [← hW5, hmc]; simp [go_sem]
  have z2 : W5.frozen? ⟨w4.heap.size + 1, 2, none⟩ = false := by rw [← hW5, hmc]; simp [go_sem]
  have hs5 := hb5.size
  have hb5' : w4.heap.size + 1 < W5.heap.size := World.block_lt_of_cell? _ _ b0
  have HB5 := Lib.hid (HB4.out.trans (hb5.mono hs4))
  have hc88 := Lib.hid (decode88 g4 cap4 W5 v0 v1)
  have HW5 := Lib.hid hW5
  clear hb5 v0 v1 u0 u1 HB4 hmc hW5
  go_wp2_with fail
  rw [rounds_succ]
  go_wp2_with (go_at_call 88; rw [HW5.out]; refine hc88.out.mono ?_; rintro e w6 ⟨vr, rfl, hor, hb6⟩; refine Hid.out ?_)
  refine Lib.hid ?_
  rcases hor.2 with ⟨_, h⟩ | ⟨gr, capr, curr, rfl, hgr, -, -, -, -, -⟩
  · cases h
  have r0 := hor.cells (g := gr) rfl 0 (.int .i32 97) rfl
  have r1 := hor.cells (g := gr) rfl 1 (.int .i32 8364) rfl
  simp [Addr.add] at r0 r1
  have q0 := (hb6.cell (p := ⟨w4.heap.size + 1, 0, none⟩) hb5').trans b0
  have q1 := (hb6.cell (p := ⟨w4.heap.size + 1, 1, none⟩) hb5').trans b1
  have q2 := (hb6.cell (p := ⟨w4.heap.size + 1, 2, none⟩) hb5').trans b2
  have y0 := (hb6.frozen (p := ⟨w4.heap.size + 1, 0, none⟩) hb5').trans z0
  have y1 := (hb6.frozen (p := ⟨w4.heap.size + 1, 1, none⟩) hb5').trans z1
  have y2 := (hb6.frozen (p := ⟨w4.heap.size + 1, 2, none⟩) hb5').trans z2
  have hs6 := hb6.size
  have HB6 := Lib.hid (HB5.out.trans (hb6.mono (by omega)))
  have hwb : w.heap.size ≤ w4.heap.size + 1 := by omega
  generalize w4.heap.size + 1 = bb at *
  clear hor hb6 b0 b1 b2 z0 z1 z2 HW5 hc88 HB5 hmk hmk2 hsl
  go_wp2_with fail
  refine wp_loop_rounds 3 ?_
  rw [rounds_succ]
  obtain ⟨W7, hW7⟩ : ∃ X, w6.setCell ⟨bb, 0, none⟩ (.int .u8 97) = X := ⟨_, rfl⟩
  have hE1 := Lib.hid (enc97 bb w6 _ q0 y0)
  rw [hW7] at hE1
  have hgb : gr ≠ bb := by omega
  have p0 : W7.cell? ⟨bb, 0, none⟩ = some (.int .u8 97) := by rw [← hW7]; simp [go_sem, q0, y0]
  have p1 : W7.cell? ⟨bb, 1, none⟩ = some (.int .u8 0) := by rw [← hW7]; exact (World.cell?_setCell_other _ _ _ _ (by simp)).trans q1
  have p2 : W7.cell? ⟨bb, 2, none⟩ = some (.int .u8 0) := by rw [← hW7]; exact (World.cell?_setCell_other _ _ _ _ (by simp)).trans q2
  have o0 : W7.frozen? ⟨bb, 0, none⟩ = false := by rw [← hW7]; simpa [go_sem] using y0
  have o1 : W7.frozen? ⟨bb, 1, none⟩ = false := by rw [← hW7]; simpa [go_sem] using y1
  have o2 : W7.frozen? ⟨bb, 2, none⟩ = false := by rw [← hW7]; simpa [go_sem] using y2
  have s1 : W7.cell? ⟨gr, 1, none⟩ = some (.int .i32 8364) := by rw [← hW7]; exact (World.cell?_setCell_other _ _ _ _ (by simp only [ne_eq, Addr.mk.injEq, and_true]; omega)).trans r1
  have HB7 : Hid (Below w.heap.size w W7) := Lib.hid (by rw [← hW7]; exact HB6.out.setCell (p := ⟨bb, 0, none⟩) hwb _)
  have hs7 : w6.heap.size ≤ W7.heap.size := by rw [← hW7]; simp
  have hbb7 : bb < W7.heap.size := World.block_lt_of_cell? _ _ p0
  obtain ⟨cap8, w8, hr8, hown8, hb8⟩ := append_first w4.heap.size bb 4 (.int .u8 97) W7 p0 rfl
  have HR8 := Lib.hid hr8
  clear hW7 q0 q1 q2 y0 y1 y2 r1 hr8
  go_wp2_with (first
    | (go_at_call 89; refine hE1.out.mono ?_; rintro e w' ⟨rfl, hw⟩; obtain rfl := hw.symm; refine Hid.out ?_))
  refine Lib.hid ?_
  go_wp2_with (at_builtin; refine wpList_append_run rfl _ _ 29 rfl _ _ _ rfl rfl HR8.out ?_; refine Hid.out ?_)
  refine Lib.hid ?_
  have t0 := (hb8.cell (p := ⟨bb, 0, none⟩) hbb7).trans p0
  have t1 := (hb8.cell (p := ⟨bb, 1, none⟩) hbb7).trans p1
  have t2 := (hb8.cell (p := ⟨bb, 2, none⟩) hbb7).trans p2
  have x0 := (hb8.frozen (p := ⟨bb, 0, none⟩) hbb7).trans o0
  have x1 := (hb8.frozen (p := ⟨bb, 1, none⟩) hbb7).trans o1
  have x2 := (hb8.frozen (p := ⟨bb, 2, none⟩) hbb7).trans o2
  have hgr7 : gr < W7.heap.size := World.block_lt_of_cell? _ _ s1
  have s8 := (hb8.cell (p := ⟨gr, 1, none⟩) hgr7).trans s1
  have hs8 := hb8.size
  have HB8 := Lib.hid (HB7.out.trans (hb8.mono (by omega)))
  obtain ⟨W9, hW9⟩ : ∃ X, ((w8.setCell ⟨bb, 0, none⟩ (.int .u8 226)).setCell ⟨bb, 1, none⟩ (.int .u8 130)).setCell ⟨bb, 2, none⟩ (.int .u8 172) = X := ⟨_, rfl⟩
  have hE2 := Lib.hid (encEuro bb w8 _ _ _ t0 t1 t2 x0 x1 x2)
  rw [hW9] at hE2
  have m0 : W9.cell? ⟨bb, 0, none⟩ = some (.int .u8 226) := by
    rw [← hW9, World.cell?_setCell_other _ _ _ _ (by simp), World.cell?_setCell_other _ _ _ _ (by simp)]
    simp [go_sem, t0, x0]
  have m1 : W9.cell? ⟨bb, 1, none⟩ = some (.int .u8 130) := by
    rw [← hW9, World.cell?_setCell_other _ _ _ _ (by simp)]
    simp [go_sem, t1, x1]
  have m2 : W9.cell? ⟨bb, 2, none⟩ = some (.int .u8 172) := by
    rw [← hW9]
    simp [go_sem, t2, x2]
  have hown9 : W9.ownsRow W7.heap.size 5 1 (.slice (some ⟨W7.heap.size, 0, none⟩) 1 cap8) 1 [.int .u8 97] := by
    rw [← hW9]
    exact own_set (own_set (own_set hown8 hbb7) hbb7) hbb7
  have HB9 : Hid (Below w.heap.size w W9) := Lib.hid (by
    rw [← hW9]
    exact ((HB8.out.setCell (p := ⟨bb, 0, none⟩) hwb _).setCell (p := ⟨bb, 1, none⟩) hwb _).setCell (p := ⟨bb, 2, none⟩) hwb _)
  have hs9 : w8.heap.size ≤ W9.heap.size := by rw [← hW9]; simp
  clear hW9 t0 t1 t2 x0 x1 x2 p0 p1 p2 o0 o1 o2 s1 hown8 hb8 HR8 HB7 HB8 hE1
  go_wp2_with fail
  rw [rounds_succ]
  go_wp2_with (first
    | (go_at_call 89; refine hE2.out.mono ?_; rintro e w' ⟨rfl, hw⟩; obtain rfl := hw.symm; refine Hid.out ?_))
  refine Lib.hid ?_
  go_wp2_with (at_builtin; refine wpList_append_own _ rfl _ _ 29 rfl W7.heap.size 5 j0 (.int .u8 0) 1 1 Tryd.underlying29 ji jz0 jz1 jz2 rfl (by decide) _ _ _ rfl hown9 ⟨bb, 0, none⟩ 3 _ [Value.int .u8 226, Value.int .u8 130, Value.int .u8 172] rfl rfl (by intro j u' hj; match j, hj with | 0, hj => simp at hj; subst hj; simpa [Addr.add] using m0 | 1, hj => simp at hj; subst hj; simpa [Addr.add] using m1 | 2, hj => simp at hj; subst hj; simpa [Addr.add] using m2) (by intro u' hu'; simp at hu'; rcases hu' with rfl | rfl | rfl <;> rfl) (by unfold maxLen; omega) (by omega) (by omega) ?_; intro v10 w10 hown10 hgrow _; refine Hid.out ?_)
  refine Lib.hid ?_
  have hb10 := HB9.out.grown hgrow (by omega) (fun k hk => by have := (hown9.lt k hk).1; omega)
  have HB10 := Lib.hid hb10
  rcases hown10.2 with ⟨_, h⟩ | ⟨g10, cap10, cur10, rfl, -, -, -, -, -, -⟩
  · omega
  have hcv : (convert 29 9 (.slice (some ⟨g10, 0, none⟩) 4 cap10)).run Tryd.prog w10 = .ok (.string ⟨#[97, 226, 130, 172]⟩) w10 := run_convert_bytes_back (P := Tryd.prog) w10 29 9 5 ⟨g10, 0, none⟩ cap10 [97, 226, 130, 172] Tryd.underlying29 Tryd.underlying5 Tryd.underlying9 (fun j hj => hown10.cells (g := g10) rfl j _ (by
    match j, hj with
    | 0, _ | 1, _ | 2, _ | 3, _ => rfl))
  clear hown10 hgrow hown9 hb10 m0 m1 m2 s8 HB9 hE2
  go_wp2_with fail
  rw [rounds_succ]
  go_wp2_with fail
  go_ret2
  exact ⟨rfl, HB10.out⟩
end Go.Proofs.YtcohlcijgfdanaaDoor.u16
