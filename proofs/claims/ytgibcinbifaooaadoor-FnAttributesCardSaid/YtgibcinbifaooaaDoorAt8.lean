/-
  FnAttributes: impl.calm, impl.Attributes.
-/
import Derived.Test.YtgibcinbifaooaaDoorAt7
import Derived.Defers
import Derived.Recover
import Derived.Laws.Pointers
import Derived.Lib.LaidTab
import Derived.Lib.SmallJoins
namespace Go.Proofs.YtgibcinbifaooaaDoor.att
open Go.RowKit

theorem catch_idle (p : Addr) (w : World) :
    CallsD Tryd.prog 13 #[.pointer (some p)] .returning w fun e u' w' => e = .returned (.tuple #[]) ∧ u' = .returning ∧ w' = w := by
  refine callsD_of_wpS Tryd.func13 rfl fun c₀ cs hu => ?_
  apply wpS_seq
  apply wpS_region
  simp [wpOpsS, go_sem, recoverD, hu, Tryd.ntmps13, Exit.thenS]
  refine wpS_cond (t := false) (by simp [Act.eval, Array.replicate]) ?_
  simp only [Bool.false_eq_true, if_false]
  refine wpS_of_wp (wp_skip ?_)
  cases c₀
  simp_all [bodyPostS, results, Tryd.results13]

theorem calm_ok (cap : Array Value) (w : World) (Q : World → Prop)
    (H : Hid (Calls Tryd.prog 10 cap (w.alloc (.cells #[.bool false] 4)) fun e W' => e = .returned (.tuple #[]) ∧ W'.cell? ⟨w.heap.size, 0, none⟩ = some (.bool false) ∧ W'.frozen? ⟨w.heap.size, 0, none⟩ = false ∧ Q W')) :
    Calls Tryd.prog 9 #[.func (.func 10) #[] cap] w fun e w' => e = .returned (.bool true) ∧ ∃ W', Q W' ∧ w' = W'.setCell ⟨w.heap.size, 0, none⟩ (.bool true) := by
  have hmf : ∀ (fn : Fn) (first cap : Array Value) (w : World), (Instr.makeFunc fn first cap).run Tryd.prog w = .ok (.func fn first cap) w := fun _ _ _ _ => rfl
  go_enter_defers Tryd.func9, Tryd.ntmps9
  go_wp2_with (go_at_call 10; refine H.out.mono ?_; rintro e W1 ⟨rfl, hc, hz, hq⟩)
  refine leaves_cons (f := 13) (args := #[.pointer (some ⟨w.heap.size, 0, none⟩)]) (by simp) (by simp [go_sem]) ?_
  refine (catch_idle ⟨w.heap.size, 0, none⟩ _).mono ?_
  rintro e u' w'' ⟨rfl, rfl, rfl⟩
  simp [Leaves, settle, results, Tryd.results9, go_sem, hc, hz]
  exact ⟨W1, hq, rfl⟩

theorem cell_off (w : World) (a b : Nat) (v : Value) (h : a ≠ b) : (w.setCell ⟨a, 0, none⟩ v).cell? ⟨b, 0, none⟩ = w.cell? ⟨b, 0, none⟩ :=
  World.cell?_setCell_other _ _ _ _ (by simp only [ne_eq, Addr.mk.injEq, and_true]; omega)
theorem heap_off (w : World) (a k : Nat) (v : Value) (h : a ≠ k) : (w.setCell ⟨a, 0, none⟩ v).heap[k]? = w.heap[k]? := by
  simp [World.setCell, Array.getElem?_modify, h]
theorem frozen_off (w : World) (a b : Nat) (v : Value) : (w.setCell ⟨a, 0, none⟩ v).frozen? ⟨b, 0, none⟩ = w.frozen? ⟨b, 0, none⟩ := by simp [go_sem]
theorem cell_on (w : World) (a : Nat) (u v : Value) (h : w.cell? ⟨a, 0, none⟩ = some u) (f : w.frozen? ⟨a, 0, none⟩ = false) : (w.setCell ⟨a, 0, none⟩ v).cell? ⟨a, 0, none⟩ = some v := by simp [go_sem, h, f]

/-- What the four variables hold behind the closure. -/
structure Told (R : ByteArray) (n g : Int) (l o1 o2 oe : Nat) (W : World) : Prop where
  line : W.cell? ⟨l, 0, none⟩ = some (.string R)
  err : W.cell? ⟨oe, 0, none⟩ = some .nilIface
  num : ∃ o q, W.cell? ⟨o1, 0, none⟩ = some (.pointer (some ⟨o, 0, none⟩)) ∧ W.cell? ⟨o2, 0, none⟩ = some (.pointer (some ⟨q, 0, none⟩)) ∧ W.cell? ⟨o, 0, none⟩ = some (.int .i64 n) ∧ W.cell? ⟨q, 0, none⟩ = some (.int .i64 g)

set_option maxHeartbeats 2000000 in
theorem clos10 (S R : ByteArray) (n g : Int) (b : Nat) (W : World)
    (h11 : ∀ (L : Nat) (w : World), w.cell? ⟨L, 0, none⟩ = some (.string S) → w.frozen? ⟨L, 0, none⟩ = false →
      Calls Tryd.prog 11 #[.pointer (some ⟨L, 0, none⟩)] w fun e w' => ∃ o q w1, e = .returned (.tuple #[.pointer (some ⟨o, 0, none⟩), .pointer (some ⟨q, 0, none⟩), .nilIface]) ∧ w1.cell? ⟨o, 0, none⟩ = some (.int .i64 n) ∧ w1.cell? ⟨q, 0, none⟩ = some (.int .i64 g) ∧ w.heap.size ≤ o ∧ w.heap.size ≤ q ∧ Below w.heap.size w w1 ∧ w' = w1.setCell ⟨L, 0, none⟩ (.string R))
    (c0 : W.cell? ⟨b, 0, none⟩ = some (.string S)) (c1 : W.cell? ⟨b + 1, 0, none⟩ = some (.pointer none)) (c2 : W.cell? ⟨b + 2, 0, none⟩ = some (.pointer none)) (c3 : W.cell? ⟨b + 3, 0, none⟩ = some .nilIface)
    (f0 : W.frozen? ⟨b, 0, none⟩ = false) (f1 : W.frozen? ⟨b + 1, 0, none⟩ = false) (f2 : W.frozen? ⟨b + 2, 0, none⟩ = false) (f3 : W.frozen? ⟨b + 3, 0, none⟩ = false) :
    Calls Tryd.prog 10 #[.pointer (some ⟨b, 0, none⟩), .pointer (some ⟨b + 1, 0, none⟩), .pointer (some ⟨b + 2, 0, none⟩), .pointer (some ⟨b + 3, 0, none⟩)] W fun e W' => e = .returned (.tuple #[]) ∧ Told R n g b (b + 1) (b + 2) (b + 3) W' ∧ Below b W W' ∧ (∀ k, k < W.heap.size → b + 3 < k → W'.heap[k]? = W.heap[k]?) := by
  have hc := Lib.hid (h11 b W c0 f0)
  have l3 := World.block_lt_of_cell? _ _ c3
  simp at l3
  have C := Lib.hid (show _ ∧ _ ∧ _ ∧ _ ∧ _ ∧ _ ∧ _ ∧ _ from ⟨c0, c1, c2, c3, f0, f1, f2, f3⟩)
  clear c0 c1 c2 c3 f0 f1 f2 f3 h11
  go_enter Tryd.func10, Tryd.ntmps10
  go_wp2_with (go_at_call 11; refine hc.out.mono ?_; rintro e W2 ⟨o, q, W1, rfl, co, cq, lo, lq, hb, rfl⟩; refine Hid.out ?_)
  refine Lib.hid ?_
  obtain ⟨c0, c1, c2, c3, f0, f1, f2, f3⟩ := C.out
  have d0 := (hb.cell (p := ⟨b, 0, none⟩) (by show b < _; omega)).trans c0
  have d1 := (hb.cell (p := ⟨b + 1, 0, none⟩) (by show b + 1 < _; omega)).trans c1
  have d2 := (hb.cell (p := ⟨b + 2, 0, none⟩) (by show b + 2 < _; omega)).trans c2
  have d3 := (hb.cell (p := ⟨b + 3, 0, none⟩) l3).trans c3
  have e0 := (hb.frozen (p := ⟨b, 0, none⟩) (by show b < _; omega)).trans f0
  have e1 := (hb.frozen (p := ⟨b + 1, 0, none⟩) (by show b + 1 < _; omega)).trans f1
  have e2 := (hb.frozen (p := ⟨b + 2, 0, none⟩) (by show b + 2 < _; omega)).trans f2
  have e3 := (hb.frozen (p := ⟨b + 3, 0, none⟩) l3).trans f3
  have HB := Lib.hid hb
  have CO := Lib.hid co
  have CQ := Lib.hid cq
  obtain ⟨W3, hW3⟩ : ∃ W3, W1.setCell ⟨b, 0, none⟩ (.string R) = W3 := ⟨_, rfl⟩
  have g0 : W3.cell? ⟨b, 0, none⟩ = some (.string R) := by rw [← hW3]; exact cell_on _ _ _ _ d0 e0
  have g1 : W3.cell? ⟨b + 1, 0, none⟩ = some (.pointer none) := by rw [← hW3, cell_off _ _ _ _ (by omega)]; exact d1
  have g2 : W3.cell? ⟨b + 2, 0, none⟩ = some (.pointer none) := by rw [← hW3, cell_off _ _ _ _ (by omega)]; exact d2
  have g3 : W3.cell? ⟨b + 3, 0, none⟩ = some .nilIface := by rw [← hW3, cell_off _ _ _ _ (by omega)]; exact d3
  have go : W3.cell? ⟨o, 0, none⟩ = some (.int .i64 n) := by rw [← hW3, cell_off _ _ _ _ (by omega)]; exact co
  have gq : W3.cell? ⟨q, 0, none⟩ = some (.int .i64 g) := by rw [← hW3, cell_off _ _ _ _ (by omega)]; exact cq
  have i1 : W3.frozen? ⟨b + 1, 0, none⟩ = false := by rw [← hW3, frozen_off]; exact e1
  have i2 : W3.frozen? ⟨b + 2, 0, none⟩ = false := by rw [← hW3, frozen_off]; exact e2
  have i3 : W3.frozen? ⟨b + 3, 0, none⟩ = false := by rw [← hW3, frozen_off]; exact e3
  have hbb : Below b W W1 := hb.mono (by omega)
  have HB3 : Hid (Below b W W3) := Lib.hid (by rw [← hW3]; exact hbb.setCell (p := ⟨b, 0, none⟩) (Nat.le_refl _) _)
  have HK3 : Hid (∀ k, k < W.heap.size → b + 3 < k → W3.heap[k]? = W.heap[k]?) := Lib.hid fun k hk hk3 => by
    rw [← hW3, heap_off _ _ _ _ (by omega)]
    exact hb.block k hk
  have GF := Lib.hid (show _ ∧ _ ∧ _ from ⟨g0, go, gq⟩)
  rw [hW3]
  clear hb hbb hW3 d0 d1 d2 d3 e0 e1 e2 e3 c0 c1 c2 c3 f0 f1 f2 f3 co cq g0 go gq
  have n12 : b + 1 ≠ b + 2 := by omega
  have HG := Lib.hid (show _ ∧ _ ∧ _ ∧ _ ∧ _ ∧ _ from ⟨g1, g2, g3, i1, i2, i3⟩)
  go_wp2_with fail
  go_end0
  obtain ⟨g0, go, gq⟩ := GF.out
  obtain ⟨g1, g2, g3, i1, i2, i3⟩ := HG.out
  refine ⟨rfl, ⟨?_, ?_, o, q, ?_, ?_, ?_, ?_⟩, ?_, ?_⟩
  · rw [cell_off _ _ _ _ (by omega), cell_off _ _ _ _ (by omega), cell_off _ _ _ _ (by omega)]; exact g0
  · exact cell_on _ _ _ _ (by rw [cell_off _ _ _ _ (by omega), cell_off _ _ _ _ (by omega)]; exact g3) (by rw [frozen_off, frozen_off]; exact i3)
  · rw [cell_off _ _ _ _ (by omega), cell_off _ _ _ _ (by omega)]; exact cell_on _ _ _ _ g1 i1
  · rw [cell_off _ _ _ _ (by omega)]; exact cell_on _ _ _ _ (by rw [cell_off _ _ _ _ (by omega)]; exact g2) (by rw [frozen_off]; exact i2)
  · rw [cell_off _ _ _ _ (by omega), cell_off _ _ _ _ (by omega), cell_off _ _ _ _ (by omega)]; exact go
  · rw [cell_off _ _ _ _ (by omega), cell_off _ _ _ _ (by omega), cell_off _ _ _ _ (by omega)]; exact gq
  · exact ((HB3.out.setCell (p := ⟨b + 1, 0, none⟩) (by show b ≤ b + 1; omega) _).setCell (p := ⟨b + 2, 0, none⟩) (by show b ≤ b + 2; omega) _).setCell (p := ⟨b + 3, 0, none⟩) (by show b ≤ b + 3; omega) _
  · intro k hk hk3
    rw [← HK3.out k hk hk3, heap_off _ _ _ _ (by omega), heap_off _ _ _ _ (by omega), heap_off _ _ _ _ (by omega)]

set_option maxHeartbeats 2000000 in
theorem attr6 (S R : ByteArray) (n g : Int) (w : World)
    (h11 : ∀ (L : Nat) (w : World), w.cell? ⟨L, 0, none⟩ = some (.string S) → w.frozen? ⟨L, 0, none⟩ = false →
      Calls Tryd.prog 11 #[.pointer (some ⟨L, 0, none⟩)] w fun e w' => ∃ o q w1, e = .returned (.tuple #[.pointer (some ⟨o, 0, none⟩), .pointer (some ⟨q, 0, none⟩), .nilIface]) ∧ w1.cell? ⟨o, 0, none⟩ = some (.int .i64 n) ∧ w1.cell? ⟨q, 0, none⟩ = some (.int .i64 g) ∧ w.heap.size ≤ o ∧ w.heap.size ≤ q ∧ Below w.heap.size w w1 ∧ w' = w1.setCell ⟨L, 0, none⟩ (.string R)) :
    Calls Tryd.prog 6 #[.string S] w fun e w' => e = .returned (.tuple #[.int .i64 n, .int .i64 g, .string R, .bool true]) ∧ Below w.heap.size w w' := by
  have hmf : ∀ (fn : Fn) (first cap : Array Value) (w : World), (Instr.makeFunc fn first cap).run Tryd.prog w = .ok (.func fn first cap) w := fun _ _ _ _ => rfl
  obtain ⟨W, hW⟩ : ∃ W, (((w.alloc (.cells #[.string S] 9)).alloc (.cells #[.pointer none] 28)).alloc (.cells #[.pointer none] 28)).alloc (.cells #[.nilIface] 30) = W := ⟨_, rfl⟩
  have hWz : W.heap.size = w.heap.size + 4 := by rw [← hW]; simp
  have bel : Below w.heap.size w W := by rw [← hW]; exact ((((Below.refl _ _).alloc (Nat.le_refl _) _).alloc (by simp) _).alloc (by simp; omega) _).alloc (by simp; omega) _
  have c0 : W.cell? ⟨w.heap.size, 0, none⟩ = some (.string S) := by rw [← hW]; simp [go_sem]
  have c1 : W.cell? ⟨w.heap.size + 1, 0, none⟩ = some (.pointer none) := by rw [← hW]; simp [go_sem]
  have c2 : W.cell? ⟨w.heap.size + 2, 0, none⟩ = some (.pointer none) := by rw [← hW]; simp [go_sem]
  have c3 : W.cell? ⟨w.heap.size + 3, 0, none⟩ = some .nilIface := by rw [← hW]; simp [go_sem]
  have f0 : W.frozen? ⟨w.heap.size, 0, none⟩ = false := by rw [← hW]; simp [go_sem]
  have f1 : W.frozen? ⟨w.heap.size + 1, 0, none⟩ = false := by rw [← hW]; simp [go_sem]
  have f2 : W.frozen? ⟨w.heap.size + 2, 0, none⟩ = false := by rw [← hW]; simp [go_sem]
  have f3 : W.frozen? ⟨w.heap.size + 3, 0, none⟩ = false := by rw [← hW]; simp [go_sem]
  have hA : Below W.heap.size W (W.alloc (.cells #[.bool false] 4)) := (Below.refl _ _).alloc (Nat.le_refl _) _
  have hAb : (W.alloc (.cells #[.bool false] 4)).cell? ⟨W.heap.size, 0, none⟩ = some (.bool false) := by simp [go_sem]
  have hAf : (W.alloc (.cells #[.bool false] 4)).frozen? ⟨W.heap.size, 0, none⟩ = false := by simp [go_sem]
  have hAz : (W.alloc (.cells #[.bool false] 4)).heap.size = W.heap.size + 1 := by simp
  have hclos := clos10 S R n g w.heap.size (W.alloc (.cells #[.bool false] 4)) h11 ((hA.cell (by show w.heap.size < _; omega)).trans c0) ((hA.cell (by show w.heap.size + 1 < _; omega)).trans c1) ((hA.cell (by show w.heap.size + 2 < _; omega)).trans c2) ((hA.cell (by show w.heap.size + 3 < _; omega)).trans c3)
    ((hA.frozen (by show w.heap.size < _; omega)).trans f0) ((hA.frozen (by show w.heap.size + 1 < _; omega)).trans f1) ((hA.frozen (by show w.heap.size + 2 < _; omega)).trans f2) ((hA.frozen (by show w.heap.size + 3 < _; omega)).trans f3)
  have hcalm := calm_ok #[.pointer (some ⟨w.heap.size, 0, none⟩), .pointer (some ⟨w.heap.size + 1, 0, none⟩), .pointer (some ⟨w.heap.size + 2, 0, none⟩), .pointer (some ⟨w.heap.size + 3, 0, none⟩)] W (fun W' => Told R n g w.heap.size (w.heap.size + 1) (w.heap.size + 2) (w.heap.size + 3) W' ∧ Below w.heap.size w W' ∧ W'.cell? ⟨W.heap.size, 0, none⟩ = some (.bool false)) (Lib.hid (hclos.mono (by
    rintro e W' ⟨rfl, ht, hb, hk⟩
    have hk0 := hk W.heap.size (by omega) (by omega)
    have hcb : W'.cell? ⟨W.heap.size, 0, none⟩ = some (.bool false) := (World.cell?_of_block (a := ⟨W.heap.size, 0, none⟩) hk0).trans hAb
    have hfb : W'.frozen? ⟨W.heap.size, 0, none⟩ = false := (World.frozen?_of_block (a := ⟨W.heap.size, 0, none⟩) hk0).trans hAf
    exact ⟨rfl, hcb, hfb, ht, (bel.trans (hA.mono (by omega))).trans hb, hcb⟩)))
  have HC := Lib.hid hcalm
  have HW := Lib.hid hW
  have HWz := Lib.hid hWz
  clear hWz hcalm hclos hA hAb hAf hAz c0 c1 c2 c3 f0 f1 f2 f3 bel hW h11
  go_enter Tryd.func6, Tryd.ntmps6
  go_wp2_with (go_at_call 9; rw [HW.out]; refine HC.out.mono ?_; rintro e w1 ⟨rfl, W', ⟨ht, hb, hcb⟩, rfl⟩; refine Hid.out ?_)
  refine Lib.hid ?_
  have hWz := HWz.out
  have HB : Hid (Below w.heap.size w (W'.setCell ⟨W.heap.size, 0, none⟩ (.bool true))) := Lib.hid (hb.setCell (p := ⟨W.heap.size, 0, none⟩) (by show w.heap.size ≤ W.heap.size; omega) _)
  obtain ⟨hl, he, o, q, k1, k2, k3, k4⟩ := ht
  have hoW : W.heap.size ≠ o := fun e => by rw [← e, hcb] at k3; cases k3
  have hqW : W.heap.size ≠ q := fun e => by rw [← e, hcb] at k4; cases k4
  obtain ⟨X, hX⟩ : ∃ X, W'.setCell ⟨W.heap.size, 0, none⟩ (.bool true) = X := ⟨_, rfl⟩
  have x0 : X.cell? ⟨w.heap.size, 0, none⟩ = some (.string R) := by rw [← hX, cell_off _ _ _ _ (by omega)]; exact hl
  have x1 : X.cell? ⟨w.heap.size + 1, 0, none⟩ = some (.pointer (some ⟨o, 0, none⟩)) := by rw [← hX, cell_off _ _ _ _ (by omega)]; exact k1
  have x2 : X.cell? ⟨w.heap.size + 2, 0, none⟩ = some (.pointer (some ⟨q, 0, none⟩)) := by rw [← hX, cell_off _ _ _ _ (by omega)]; exact k2
  have x3 : X.cell? ⟨w.heap.size + 3, 0, none⟩ = some .nilIface := by rw [← hX, cell_off _ _ _ _ (by omega)]; exact he
  have xo : X.cell? ⟨o, 0, none⟩ = some (.int .i64 n) := by rw [← hX, cell_off _ _ _ _ hoW]; exact k3
  have xq : X.cell? ⟨q, 0, none⟩ = some (.int .i64 g) := by rw [← hX, cell_off _ _ _ _ hqW]; exact k4
  rw [hX] at HB ⊢
  have y2 : X.cell? ⟨w.heap.size + 1 + 1, 0, none⟩ = some (.pointer (some ⟨q, 0, none⟩)) := x2
  have y3 : X.cell? ⟨w.heap.size + 1 + 1 + 1, 0, none⟩ = some .nilIface := x3
  clear hX hl he k1 k2 k3 k4 hb hcb hoW hqW HC hWz x2 x3
  go_wp2_with fail
  go_quiet (fail)
  obtain ⟨X4, hX4⟩ : ∃ Y, X.drewN nq = Y := ⟨_, rfl⟩
  have hB4 : Below w.heap.size w X4 := by rw [← hX4]; exact ⟨HB.out.os, HB.out.tape, HB.out.output, HB.out.size, HB.out.block⟩
  rw [hX4]
  clear hX4
  go_wp2_with fail
  refine bodyPost_ret (v := .tuple #[.int .i64 n, .int .i64 g, .string R, .bool true]) (by simp [results, Tryd.results6, go_sem]) rfl ⟨rfl, hB4⟩
end Go.Proofs.YtgibcinbifaooaaDoor.att
