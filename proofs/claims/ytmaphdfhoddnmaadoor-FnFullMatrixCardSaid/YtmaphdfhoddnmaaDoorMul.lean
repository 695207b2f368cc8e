/-
  (Matrix).Multiply, entry by entry: three loops.
-/
import Derived.Test.YtmaphdfhoddnmaaDoorMat
import Derived.BigRegion
import Derived.LoopTactic
import Derived.Deep.OwnRows
namespace Go.Proofs.YtmaphdfhoddnmaaDoor
open Go.RowKit

/-- Nine numbers. -/
def mval (m : Nat → Nat) : Value := .agg #[.float .f64 (m 0), .float .f64 (m 1), .float .f64 (m 2), .float .f64 (m 3), .float .f64 (m 4), .float .f64 (m 5), .float .f64 (m 6), .float .f64 (m 7), .float .f64 (m 8)]
def marr (m : Nat → Nat) : Array Value := #[.float .f64 (m 0), .float .f64 (m 1), .float .f64 (m 2), .float .f64 (m 3), .float .f64 (m 4), .float .f64 (m 5), .float .f64 (m 6), .float .f64 (m 7), .float .f64 (m 8)]
def fl (m : Nat → Nat) (e : Nat) : Value := .float .f64 (m e)
def Nine (w : World) (b : Nat) (m : Nat → Nat) : Prop := w.rowIs b 34 9 (fl m)

theorem nine_new (w : World) (m : Nat → Nat) (b : Nat) (hb : b = w.heap.size) : Nine (w.alloc (.cells (marr m) 34)) b m := by
  subst hb
  refine World.rowIs_alloc w (marr m) 34 (fl m) fun e he => ?_
  have he : e < 9 := he
  match e, he with
  | 0, _ | 1, _ | 2, _ | 3, _ | 4, _ | 5, _ | 6, _ | 7, _ | 8, _ => rfl

theorem Nine.below {w w' : World} {b B : Nat} {f : Nat → Nat} (h : Nine w b f) (hb : Below B w w') (hlt : b < B) : Nine w' b f := World.rowIs.of_block h (hb.block b hlt)

/-- How far the sums have come: entry e at (i, j, k). -/
def at3 (part : Nat → Nat → Nat) (i j k e : Nat) : Nat := part e (if e < i * 3 + j then 3 else if e = i * 3 + j then k else 0)

def Prod (m n : Nat → Nat) (part : Nat → Nat → Nat) : Prop :=
  (∀ e, part e 0 = 0) ∧ ∀ i j k, i < 3 → j < 3 → k < 3 → ∃ q, floatBits .mul .f64 (m (i * 3 + k)) (n (k * 3 + j)) = some q ∧ floatBits .add .f64 (part (i * 3 + j) k) q = some (part (i * 3 + j) (k + 1))

theorem at3_step {w : World} {b : Nat} {part : Nat → Nat → Nat} {i j k : Nat} (h : Nine w b (at3 part i j k)) :
    Nine (w.setCell ⟨b, i * 3 + j, none⟩ (.float .f64 (part (i * 3 + j) (k + 1)))) b (at3 part i j (k + 1)) := by
  refine (World.rowIs.set h _ _).congr fun e he => ?_
  simp only [fl, at3]
  by_cases h : e = i * 3 + j
  · subst h; simp
  · simp [h]
theorem at3_next {w : World} {b : Nat} {part : Nat → Nat → Nat} {i j : Nat} (h : Nine w b (at3 part i j 3)) : Nine w b (at3 part i (j + 1) 0) := by
  refine World.rowIs.congr h fun e he => ?_
  simp only [fl, at3]
  by_cases h : e = i * 3 + j
  · subst h; simp
  · by_cases h2 : e < i * 3 + j
    · rw [if_pos h2, if_pos (by omega)]
    · rw [if_neg h2, if_neg h, if_neg (by omega), ite_self]
theorem at3_row {w : World} {b : Nat} {part : Nat → Nat → Nat} {i : Nat} (h : Nine w b (at3 part i 3 0)) : Nine w b (at3 part (i + 1) 0 0) := by
  refine World.rowIs.congr h fun e he => ?_
  simp only [fl, at3, ite_self]
  rw [show (i + 1) * 3 + 0 = i * 3 + 3 by omega]

set_option maxHeartbeats 4000000 in
theorem multiply (m n : Nat → Nat) (part : Nat → Nat → Nat) (H : Prod m n part) (w : World) :
    Calls Tryd.prog 10 #[mval m, mval n] w fun e w' => e = .returned (mval fun e => part e 3) ∧ Below w.heap.size w w' := by
  obtain ⟨H0, H⟩ := H
  obtain ⟨W, hW⟩ : ∃ W, (((w.alloc (.cells (marr m) 34)).alloc (.cells (marr n) 34)).alloc (.cells (marr fun _ => 0) 34)).alloc (.cells (marr fun _ => 0) 34) = W := ⟨_, rfl⟩
  have hsz : W.heap.size = w.heap.size + 4 := by rw [← hW]; simp
  have bel : Below w.heap.size w W := by
    rw [← hW]
    exact ((((Below.refl _ _).alloc (Nat.le_refl _) _).alloc (by simp) _).alloc (by simp; omega) _).alloc (by simp; omega) _
  have nm : Nine W w.heap.size m := by rw [← hW]; exact (((nine_new w m _ rfl).alloc _).alloc _).alloc _
  have nn : Nine W (w.heap.size + 1) n := by rw [← hW]; exact (((nine_new _ n _ (by simp)).alloc _).alloc _)
  have nr : Nine W (w.heap.size + 1 + 1) (fun _ => 0) := by rw [← hW]; exact (((nine_new _ _ _ (by simp)).alloc _))
  have np : Nine W (w.heap.size + 1 + 1 + 1) (at3 part 0 0 0) := by
    have h : Nine W (w.heap.size + 1 + 1 + 1) (fun _ => 0) := by rw [← hW]; exact nine_new _ _ _ (by simp)
    exact World.rowIs.congr h fun e he => by simp [fl, at3, H0]
  have HH := Lib.hid H
  have HW := Lib.hid hW
  have HB := Lib.hid bel
  have HM := Lib.hid nm
  have HN := Lib.hid nn
  have HR := Lib.hid nr
  have HP := Lib.hid np
  clear H H0 hW bel nm nn nr np
  simp only [mval]
  simp only [marr] at HW
  go_enter Tryd.func10, Tryd.ntmps10
  go_wp2
  rw [HW.out]
  go_loopw [6] (fun t wr => ∃ i : Nat, i ≤ 3 ∧ t = .int .i64 i ∧ Hid (Below (w.heap.size + 1 + 1 + 1) W wr) ∧ Hid (Nine wr (w.heap.size + 1 + 1 + 1) (at3 part i 0 0))) (fun t _ => 3 - (intOf t).toNat)
  case atStart => exact ⟨0, by omega, rfl, Below.refl _ _, HP.out⟩
  case round =>
    obtain ⟨i, hi, rfl, hbel, hnine⟩ := hrel
    by_cases h3 : i < 3
    · go_wp2
      obtain ⟨wo, rfl⟩ : ∃ wo : World, wo = wr := ⟨_, rfl⟩
      clear hi
      go_loopw [7] (fun t wr => ∃ j : Nat, j ≤ 3 ∧ t = .int .i64 j ∧ Hid (Below (w.heap.size + 1 + 1 + 1) W wr) ∧ Hid (Nine wr (w.heap.size + 1 + 1 + 1) (at3 part i j 0))) (fun t _ => 3 - (intOf t).toNat)
      case atStart => exact ⟨0, by omega, rfl, hbel, hnine⟩
      case round =>
        clear hbel hnine
        obtain ⟨j, hj, rfl, hbel, hnine⟩ := hrel
        by_cases hj3 : j < 3
        · go_wp2
          obtain ⟨wi, rfl⟩ : ∃ wi : World, wi = wr := ⟨_, rfl⟩
          clear hj
          go_loopw [8] (fun t wr => ∃ k : Nat, k ≤ 3 ∧ t = .int .i64 k ∧ Hid (Below (w.heap.size + 1 + 1 + 1) W wr) ∧ Hid (Nine wr (w.heap.size + 1 + 1 + 1) (at3 part i j k))) (fun t _ => 3 - (intOf t).toNat)
          case atStart => exact ⟨0, by omega, rfl, hbel, hnine⟩
          case round =>
            clear hbel hnine
            obtain ⟨k, hk, rfl, hbel, hnine⟩ := hrel
            by_cases hk3 : k < 3
            · obtain ⟨q, e1, e2⟩ := HH.out i j k h3 hj3 hk3
              have k1 := fun t w => run_float_arith (P := Tryd.prog) w .mul t .f64 _ _ _ e1
              have k2 := fun t w => run_float_arith (P := Tryd.prog) w .add t .f64 _ _ _ e2
              clear e1 e2 hk
              have c1 := (Nine.below HM.out hbel.out (by omega)).cell (i := i * 3 + k) (by omega)
              have c2 := (Nine.below HN.out hbel.out (by omega)).cell (i := k * 3 + j) (by omega)
              have c3 := World.rowIs.cell hnine.out (i := i * 3 + j) (by omega)
              have c4 := World.rowIs.frozen hnine.out
              simp [fl, at3] at c1 c2 c3
              go_wp2
              go_region
              go_wp2
              go_roundw
              case rel => exact ⟨k + 1, by omega, by go_num, Below.setCell (Below.drew hbel.out) (Nat.le_refl _) _, at3_step (World.rowIs.drew hnine.out)⟩
              case measure => simp [intOf]; omega
            · obtain rfl : k = 3 := by omega
              go_wp2
              go_roundw
              case rel => exact ⟨j + 1, by omega, by go_num, hbel, at3_next hnine.out⟩
              case measure => simp [intOf]; omega
        · obtain rfl : j = 3 := by omega
          go_wp2
          go_roundw
          case rel => exact ⟨i + 1, by omega, by go_num, hbel, at3_row hnine.out⟩
          case measure => simp [intOf]; omega
    · obtain rfl : i = 3 := by omega
      have c0 := World.rowIs.cell hnine.out (i := 0) (by omega)
      have c1 := World.rowIs.cell hnine.out (i := 1) (by omega)
      have c2 := World.rowIs.cell hnine.out (i := 2) (by omega)
      have c3 := World.rowIs.cell hnine.out (i := 3) (by omega)
      have c4 := World.rowIs.cell hnine.out (i := 4) (by omega)
      have c5 := World.rowIs.cell hnine.out (i := 5) (by omega)
      have c6 := World.rowIs.cell hnine.out (i := 6) (by omega)
      have c7 := World.rowIs.cell hnine.out (i := 7) (by omega)
      have c8 := World.rowIs.cell hnine.out (i := 8) (by omega)
      simp [fl, at3] at c0 c1 c2 c3 c4 c5 c6 c7 c8
      have hr := Nine.below HR.out hbel.out (by omega)
      have d0 := World.rowIs.cell hr (i := 0) (by omega)
      have d1 := World.rowIs.cell hr (i := 1) (by omega)
      have d2 := World.rowIs.cell hr (i := 2) (by omega)
      have d3 := World.rowIs.cell hr (i := 3) (by omega)
      have d4 := World.rowIs.cell hr (i := 4) (by omega)
      have d5 := World.rowIs.cell hr (i := 5) (by omega)
      have d6 := World.rowIs.cell hr (i := 6) (by omega)
      have d7 := World.rowIs.cell hr (i := 7) (by omega)
      have d8 := World.rowIs.cell hr (i := 8) (by omega)
      have df := World.rowIs.frozen hr
      simp [fl] at d0 d1 d2 d3 d4 d5 d6 d7 d8
      have HF : Hid (Below w.heap.size w wr) := HB.out.trans (hbel.out.mono (by omega))
      clear hbel hnine h3 hi hr
      go_wp2
      refine bodyPost_ret (v := .agg #[.float .f64 (part 0 3), .float .f64 (part 1 3), .float .f64 (part 2 3), .float .f64 (part 3 3), .float .f64 (part 4 3), .float .f64 (part 5 3), .float .f64 (part 6 3), .float .f64 (part 7 3), .float .f64 (part 8 3)]) ?_ rfl ⟨rfl, ?_⟩
      · clear c0 c1 c2 c3 c4 c5 c6 c7 c8 df HH HW HB HM HN HR HP HF
        simp [results, Tryd.results10, go_sem, d0, d1, d2, d3, d4, d5, d6, d7, d8]
      repeat' (first | with_reducible exact HF.out | refine Below.setCell ?_ ?_ _ | (simp; done) | (simp; omega))
end Go.Proofs.YtmaphdfhoddnmaaDoor
