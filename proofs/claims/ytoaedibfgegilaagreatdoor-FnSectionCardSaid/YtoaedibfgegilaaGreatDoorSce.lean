/-
  createXRefTableEntry; parseXRefTableEntry.
-/
import Derived.Test.YtoaedibfgegilaaGreatDoorSct
import Derived.Laws.ResultCell
namespace Go.Proofs.YtoaedibfgegilaaGreatDoor.st
open Go.RowKit
set_option linter.unusedVariables false
set_option linter.unusedSimpArgs false

def MadeX (w : World) (fr : Bool) (off gen : Int) (v : Value) (w' : World) : Prop := ∃ q r, v = .agg (xC fr q r) ∧ w'.heap[q]? = some (.cells #[.int .i64 off] 2 (0, 0)) ∧ w'.heap[r]? = some (.cells #[.int .i64 gen] 3 (0, 0)) ∧ Kept [] w w'

theorem made_of (w : World) (fr : Bool) (off gen : Int) (o1 o2 : Obj) : MadeX w fr off gen (.agg (xC fr w.heap.size (w.heap.size + 1))) ((((w.alloc (.cells #[.int .i64 off] 2)).alloc (.cells #[.int .i64 gen] 3)).alloc o1).alloc o2) := by
  refine ⟨_, _, rfl, ?_, ?_, (((Kept.refl [] w).alloc _).alloc _ |>.alloc _).alloc _⟩
  · rw [heap_alloc_old _ _ (by first | (simp; done) | (simp; omega)), heap_alloc_old _ _ (by first | (simp; done) | (simp; omega)), heap_alloc_old _ _ (by simp)]
    exact heap_alloc_new w _
  · rw [heap_alloc_old _ _ (by first | (simp; done) | (simp; omega)), heap_alloc_old _ _ (by simp)]
    have h := heap_alloc_new (w.alloc (.cells #[.int .i64 off] 2)) (.cells #[.int .i64 gen] 3)
    simpa using h
set_option maxHeartbeats 2000000 in
set_option maxRecDepth 100000 in
theorem create50 (num off gen : Int) (fr : Bool) (w : World) (h0 : 0 ≤ off) (h1 : off ≤ 9999999999) (h9 : fr = false → 9 ≤ off) :
    Calls Tryz.prog 50 #[.string (str [if fr then 102 else 110]), .int .i64 num, .int .i64 off, .int .i64 0, .int .i64 gen, .int .i64 0] w fun e w' => ∃ v, e = .returned (.tuple #[v, .bool true]) ∧ MadeX w fr off gen v w' := by
  cases fr
  · have h9 := h9 rfl
    have e0 : (off == 0) = false := by simp; omega
    have e9 : ¬ off < 9 := by omega
    show Calls Tryz.prog 50 #[.string ⟨#[110]⟩, _, _, _, _, _] w _
    go_enter Tryz.func50, Tryz.ntmps50
    go_wp2_with fail
    refine bodyPost_ret (v := .tuple #[.agg (xC false w.heap.size (w.heap.size + 1)), .bool true]) ?_ rfl ⟨_, rfl, made_of w _ off gen _ _⟩
    rw [results_cell_tmp rfl]
    simp only [xC]
    go_simp
  · show Calls Tryz.prog 50 #[.string ⟨#[102]⟩, _, _, _, _, _] w _
    go_enter Tryz.func50, Tryz.ntmps50
    go_wp2_with fail
    refine bodyPost_ret (v := .tuple #[.agg (xC true w.heap.size (w.heap.size + 1)), .bool true]) ?_ rfl ⟨_, rfl, made_of w _ off gen _ _⟩
    rw [results_cell_tmp rfl]
    simp only [xC]
    go_simp

def KeepM (w w' : World) (m : Nat) (f : Nat → Ent) (k : Nat) : Prop := TabM w' m f (k + 1) ∧ Kept [m] w w'
set_option maxHeartbeats 4000000 in
set_option maxRecDepth 100000 in
theorem parse35 (xt m g C : Nat) (f : Nat → Ent) (k : Nat) (w : World) (hx : w.cell? ⟨xt, 0, none⟩ = some (.map (some m))) (h : TabM w m f k) (hr : ∀ i, i < k → (f i).num < (f k).num) (ho : Ok (f k))
    (c0 : w.cell? ⟨g, 0, none⟩ = some (.string (str (pad (f k).off 10)))) (c1 : w.cell? ⟨g, 1, none⟩ = some (.string (str (pad (f k).gen 5)))) (c2 : w.cell? ⟨g, 2, none⟩ = some (.string (str [kindB (f k)]))) :
    Calls Tryz.prog 35 #[.pointer (some ⟨xt, 0, none⟩), .slice (some ⟨g, 0, none⟩) 3 C, .int .i64 (f k).num, .int .i64 0, .int .i64 0] w fun e w' => e = .returned .nilIface ∧ KeepM w w' m f k := by
  have H49 := Lib.hid (decode49 g C (f k).off (f k).gen (f k).free w ho.off0 ho.off1 ho.gen0 ho.gen1 c0 c1 c2)
  have H50 : Hid (∀ V, Calls Tryz.prog 50 #[.string (str [if (f k).free then 102 else 110]), .int .i64 (f k).num, .int .i64 (f k).off, .int .i64 0, .int .i64 (f k).gen, .int .i64 0] V fun e w' => ∃ v, e = .returned (.tuple #[v, .bool true]) ∧ MadeX V (f k).free (f k).off (f k).gen v w') := Lib.hid fun V => create50 (f k).num (f k).off (f k).gen (f k).free V ho.off0 ho.off1 ho.use
  obtain ⟨K, hK⟩ : ∃ K, str [if (f k).free then 102 else 110] = K := ⟨_, rfl⟩
  obtain ⟨off, hoff⟩ : ∃ x, (f k).off = x := ⟨_, rfl⟩
  obtain ⟨gen, hgen⟩ : ∃ x, (f k).gen = x := ⟨_, rfl⟩
  obtain ⟨fr, hfr⟩ : ∃ x, (f k).free = x := ⟨_, rfl⟩
  obtain ⟨num, hnum⟩ : ∃ x, (f k).num = x := ⟨_, rfl⟩
  rw [hK] at H49 H50
  rw [hoff, hgen] at H49 H50
  rw [hfr] at H50
  rw [hnum] at H50 ⊢
  have HN := Lib.hid (And.intro hoff (And.intro hgen (And.intro hfr hnum)))
  have HT := Lib.hid (And.intro h hr)
  clear h hr ho c0 c1 c2 hK hoff hgen hfr hnum
  go_enter Tryz.func35, Tryz.ntmps35
  go_wp2_with (go_at_call 49; refine H49.out.mono ?_; rintro e V ⟨rfl, hk⟩; refine Hid.out ?_)
  refine Lib.hid ?_
  have hx := hk.cell hx (by simp)
  have HK1 := Lib.hid hk
  clear hk
  go_wp2_with (go_at_call 50; refine (H50.out _).mono ?_; rintro e V2 ⟨v, rfl, q, r, rfl, hq, hrr, hk⟩; refine Hid.out ?_)
  refine Lib.hid ?_
  have hx := hk.cell hx (by simp)
  have HX := Lib.hid (And.intro hq (And.intro hrr hk))
  clear hq hrr hk
  unfold xC
  have hx3 := ((Kept.refl [] V2).alloc (.cells (xC fr q r) 72)).cell hx (by simp)
  have hput : ∃ w', (Instr.mapUpdate 38 (.map (some m)) (.int .i64 num) (.pointer (some ⟨V2.heap.size, 0, none⟩))).run Tryz.prog (V2.alloc (.cells (xC fr q r) 72)) = .ok () w' ∧ KeepM w w' m f k := by
    obtain ⟨h, hr⟩ := HT.out
    obtain ⟨n1, n2, n3, n4⟩ := HN.out
    obtain ⟨hq, hrr, hk⟩ := HX.out
    have hkk := (HK1.out.trans hk).alloc (.cells (xC fr q r) 72)
    have hk1 := ((Kept.refl [] V2).alloc (.cells (xC fr q r) 72))
    have ht := h.keep (KeepT.of_kept hkk)
    have he : EntAt (V2.alloc (.cells (xC fr q r) 72)) V2.heap.size (f k) := by
      refine ⟨q, r, ?_, ?_, ?_⟩
      · rw [n3]
        exact heap_alloc_new V2 _
      · rw [n1]
        exact (hk1.block q (Array.getElem?_eq_some_iff.1 hq).1 (by simp)).trans hq
      · rw [n2]
        exact (hk1.block r (Array.getElem?_eq_some_iff.1 hrr).1 (by simp)).trans hrr
    obtain ⟨w', h1, h2, h3⟩ := ht.put he hr
    rw [n4] at h1
    exact ⟨w', h1, h2, (hkk.mono (by simp)).trans h3⟩
  obtain ⟨W3, hput, HF⟩ := hput
  have HF := Lib.hid HF
  clear HT HN HX HK1 hx
  unfold xC at hx3 hput
  go_wp2_with fail
  go_ret
  exact ⟨rfl, HF.out⟩
end Go.Proofs.YtoaedibfgegilaaGreatDoor.st
