/-
  FnIsUTF16: utf16.Decode at two fixed units.
-/
import Derived.Test.YtcohlcijgfdanaaDoorU8
import Derived.Test.YtcohlcijgfdanaaDoorClm
import Derived.Laws.AppendOwn
import Derived.Laws.MakeOwn
import Derived.Deep.OwnRows
import Derived.Lib.ConvBytes
import Derived.Lib.AtoiErrMem
import Derived.LoopN
namespace Go.Proofs.YtcohlcijgfdanaaDoor.u16
open Go.RowKit

theorem infoU8 : (Tryd.prog.info? 5).map (fun i => (i.zero, i.size, i.bytes)) = some (some (.int .u8 0), 1, 1) := by kernel_rfl
theorem infoU16 : (Tryd.prog.info? 74).map (fun i => (i.zero, i.size, i.bytes)) = some (some (.int .u16 0), 1, 2) := by kernel_rfl
theorem infoI32 : (Tryd.prog.info? 21).map (fun i => (i.zero, i.size, i.bytes)) = some (some (.int .i32 0), 1, 4) := by kernel_rfl
theorem cell_new (W : World) (x : Value) (t : TypeId) (k : Nat) (hk : k = W.heap.size) : (W.alloc (.cells #[x] t)).cell? ((⟨k, 0, none⟩ : Addr).add 0) = some x := by
  subst hk
  simp [Addr.add]

set_option maxHeartbeats 4000000 in
theorem decode102 (g c B : Nat) (v : Value) (w : World) (c0 : w.cell? ⟨g, 0, none⟩ = some (.int .u16 97)) (c1 : w.cell? ⟨g, 1, none⟩ = some (.int .u16 8364)) (hg : g < B) (hown : w.ownsRow B 21 1 v 0 []) (hBw : B ≤ w.heap.size) :
    Calls Tryd.prog 102 #[.slice (some ⟨g, 0, none⟩) 2 c, v] w fun e w' => ∃ v', e = .returned v' ∧ w'.ownsRow B 21 1 v' 2 [.int .i32 97, .int .i32 8364] ∧ Below B w w' := by
  obtain ⟨i0, hi, hz0, hz1, hz2⟩ := info_parts infoI32
  go_enter Tryd.func102, Tryd.ntmps102
  go_wp2_with fail
  refine wp_loop_rounds 3 ?_
  rw [rounds_succ]
  go_wp2_with (at_builtin; refine wpList_append_own _ rfl _ _ 73 rfl B 21 i0 (.int .i32 0) 1 4 Tryd.underlying73 hi hz0 hz1 hz2 rfl (by decide) _ _ _ rfl (hown.alloc _) ⟨w.heap.size, 0, none⟩ 1 1 [Value.int .i32 97] rfl rfl (by intro j u' hj; match j, hj with | 0, hj => simp at hj; subst hj; exact cell_new _ _ _ _ (by simp)) (by intro u' hu'; simp at hu'; subst hu'; rfl) (by unfold maxLen; omega) (by omega) (by simp; omega) ?_; intro v2 w2 hown2 hgrow _; refine Hid.out ?_)
  refine Lib.hid ?_
  have hb2 : Below B w w2 := ((Below.refl B w).alloc hBw _).grown hgrow (by simp; omega) (fun k hk => (hown.lt k hk).1)
  have k1 := (hb2.cell (p := ⟨g, 1, none⟩) hg).trans c1
  have hs2 := hb2.size
  have HB2 := Lib.hid hb2
  clear c0 c1 hown hgrow hb2
  go_wp2_with fail
  rw [rounds_succ]
  go_wp2_with (at_builtin; refine wpList_append_own _ rfl _ _ 73 rfl B 21 i0 (.int .i32 0) 1 4 Tryd.underlying73 hi hz0 hz1 hz2 rfl (by decide) _ _ _ rfl (hown2.alloc _) ⟨w2.heap.size, 0, none⟩ 1 1 [Value.int .i32 8364] rfl rfl (by intro j u' hj; match j, hj with | 0, hj => simp at hj; subst hj; exact cell_new _ _ _ _ (by simp)) (by intro u' hu'; simp at hu'; subst hu'; rfl) (by unfold maxLen; omega) (by omega) (by simp; omega) ?_; intro v3 w3 hown3 hgrow _; refine Hid.out ?_)
  refine Lib.hid ?_
  have hb3 : Below B w w3 := (HB2.out.alloc (by omega) _).grown hgrow (by simp; omega) (fun k hk => (hown2.lt k hk).1)
  have HB3 := Lib.hid hb3
  have HO := Lib.hid hown3
  clear k1 hown2 hgrow hb3 hown3
  go_wp2_with fail
  rw [rounds_succ]
  go_wp2_with fail
  go_ret
  exact ⟨v3, rfl, HO.out, HB3.out⟩

/-- utf16.Decode of the two units. -/
theorem decode88 (g c : Nat) (w : World) (c0 : w.cell? ⟨g, 0, none⟩ = some (.int .u16 97)) (c1 : w.cell? ⟨g, 1, none⟩ = some (.int .u16 8364)) :
    Calls Tryd.prog 88 #[.slice (some ⟨g, 0, none⟩) 2 c] w fun e w' => ∃ v', e = .returned v' ∧ w'.ownsRow w.heap.size 21 1 v' 2 [.int .i32 97, .int .i32 8364] ∧ Below w.heap.size w w' := by
  obtain ⟨i0, hi, hz0, hz1, hz2⟩ := info_parts infoI32
  have hg : g < w.heap.size := World.block_lt_of_cell? _ _ c0
  have hmk : ∀ w : World, (Instr.makeSlice 73 (.int .i64 0) (.int .i64 64)).run Tryd.prog w = .ok (.slice (some ⟨w.heap.size, 0, none⟩) 0 64) (w.alloc (.cells (madeCells #[.int .i32 0] 64) 21)) := fun w => by
    have := run_make (P := Tryd.prog) w 73 21 i0 (.int .i32 0) Tryd.underlying73 hi hz0 .i64 .i64 0 64 (by decide) (by decide) (by rw [hz2]; decide) (by decide)
    rw [hz1] at this
    exact this
  obtain ⟨W, hW⟩ : ∃ W, w.alloc (.cells (madeCells #[.int .i32 0] 64) 21) = W := ⟨_, rfl⟩
  have hown : W.ownsRow w.heap.size 21 1 (.slice (some ⟨w.heap.size, 0, none⟩) 0 64) 0 [] := by
    rw [← hW]
    exact World.ownsRow_made w _ 64 (Nat.le_refl _) (by unfold maxLen; omega) (size_madeCells _ _)
  have hB : Below w.heap.size w W := by rw [← hW]; exact (Below.refl _ _).alloc (Nat.le_refl _) _
  have hc := Lib.hid (decode102 g c w.heap.size (.slice (some ⟨w.heap.size, 0, none⟩) 0 64) W ((hB.cell (p := ⟨g, 0, none⟩) hg).trans c0) ((hB.cell (p := ⟨g, 1, none⟩) hg).trans c1) hg hown hB.size)
  have HB := Lib.hid hB
  have HW := Lib.hid hW
  clear hown hB hW
  go_enter Tryd.func88, Tryd.ntmps88
  go_wp2_with (go_at_call 102; rw [HW.out]; refine hc.out.mono ?_; rintro e w1 ⟨v', rfl, ho, hb⟩)
  go_ret
  exact ⟨v', rfl, ho, HB.out.trans hb⟩

/-- The capacity's slice b[2:]. -/
theorem slice2 (g cap : Nat) (h : 6 ≤ cap) (hm : cap ≤ maxLen) (w : World) : (Instr.slice 29 (.slice (some ⟨g, 0, none⟩) 6 cap) (some (.int .i64 2)) none none).run Tryd.prog w = .ok (.slice (some ⟨g, 2, none⟩) 4 (cap - 2)) w := by
  have h2 : ¬ cap = 2 := by omega
  simp [go_sem, h2]

/-- An append whose run is known. -/
theorem wpList_append_run {P : Program} {w w1 : World} {ops : Array Oper} {rest : List Oper} {o : Oper} {a : Act} {Q : Exit → Act → World → Prop} (hgd : o.guard = none) (s x : Operand) (t : TypeId)
    (ho : o.op = .call { callee := .builtin .append, args := #[s, x], argTypes := #[t, t] }) (v u y : Value) (hs : a.eval s = v) (hx : a.eval x = u) (hr : (Builtin.append_ #[t, t] o.type #[v, u]).run P w = .ok y w1)
    (h : wpList P ops Q rest (a.put o.dst y) w1) : wpList P ops Q (o :: rest) a w := by
  refine wpList_plain hgd fun K hK => ?_
  unfold Oper.wp
  simp [execOp, ho, resolve, invoke, builtin, hs, hx, hr, Result.andThen]
  exact hK _ _ h

theorem own_set {w : World} {B g o : Nat} {v x : Value} {n : Nat} {xs : List Value} (h : w.ownsRow B 5 1 v n xs) (hg : g < B) : (w.setCell ⟨g, o, none⟩ x).ownsRow B 5 1 v n xs := by
  refine h.kept (row := some g) ⟨rfl, rfl, rfl, by simp, fun k _ hk => by
    have hne : g ≠ k := fun e => hk (by rw [e])
    simp [World.setCell, Array.getElem?_modify, hne]⟩ ?_
  by_cases hv : v.ownBlock = none
  · exact Or.inl hv
  · refine Or.inr fun e => ?_
    have := (h.lt g e).1
    omega

/-- One byte onto a slice without capacity. -/
theorem append_first (d b c : Nat) (x : Value) (w : World) (hx : w.cell? ⟨b, 0, none⟩ = some x) (h1 : x.oneCell' = true) : ∃ cap w1, (Builtin.append_ #[29, 29] 29 #[.slice (some ⟨d, 0, none⟩) 0 0, .slice (some ⟨b, 0, none⟩) 1 c]).run Tryd.prog w = .ok (.slice (some ⟨w.heap.size, 0, none⟩) 1 cap) w1 ∧
    w1.ownsRow w.heap.size 5 1 (.slice (some ⟨w.heap.size, 0, none⟩) 1 cap) 1 [x] ∧ Below w.heap.size w w1 := by
  obtain ⟨i0, hi, hz0, hz1, hz2⟩ := info_parts infoU8
  have hr := run_append_grow (P := Tryd.prog) (w := w) 29 29 5 i0 (.int .u8 0) Tryd.underlying29 hi hz0 ⟨d, 0, none⟩ 0 0 [] (by simp) (fun j v hj => by simp at hj) ⟨b, 0, none⟩ 1 c [x] (by rw [hz1]; rfl) (by
    intro j u hj
    match j, hj with
    | 0, hj => simp at hj; subst hj; simpa [Addr.add] using hx) (by omega) (by omega) (by rw [hz2]; decide)
  have hge := grownCap_ge w 1 0 5
  have hle := grownCap_le_maxLen w 1 0 5 (by unfold maxLen; omega)
  refine ⟨_, _, hr, ⟨by simp, Or.inr ⟨w.heap.size, _, _, rfl, Nat.le_refl _, heap_alloc_new w.drew _, hge, hle, ?_, ?_⟩⟩, ?_⟩
  · have hzc : (Value.int IntKind.u8 0).cells.size = 1 := rfl
    simp [size_zeroCells, hzc]; omega
  · simp
  · exact ((Below.refl _ w).drew).alloc (Nat.le_refl _) _
end Go.Proofs.YtcohlcijgfdanaaDoor.u16
