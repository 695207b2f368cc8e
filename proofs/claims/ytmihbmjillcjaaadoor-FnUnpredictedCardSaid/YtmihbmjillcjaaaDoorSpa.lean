/-
  spec: paeth, sample, put at whole bytes, RowBytes.
-/
import Derived.Test.YtmihbmjillcjaaaDoorUna8
namespace Go.Proofs.YtmihbmjillcjaaaDoor.up
set_option linter.unusedVariables false
set_option linter.unusedSimpArgs false
open Go.RowKit

theorem paeth21 (l u c : Int) (l0 : 0 ≤ l) (l1 : l ≤ 255) (u0 : 0 ≤ u) (u1 : u ≤ 255) (c0 : 0 ≤ c) (c1 : c ≤ 255) (w : World) : Calls Tryd.prog 21 #[.int .i64 l, .int .i64 u, .int .i64 c] w fun e w' => e = .returned (.int .i64 (paeth l u c)) ∧ w = w' := by
  have h1 := fun w => abs30 (l + u - c - l) (by omega) (by omega) w
  have h2 := fun w => abs30 (l + u - c - u) (by omega) (by omega) w
  have h3 := fun w => abs30 (l + u - c - c) (by omega) (by omega) w
  rw [show iabs (l + u - c - l) = iabs (u - c) by congr 1; omega] at h1
  rw [show iabs (l + u - c - u) = iabs (l - c) by congr 1; omega] at h2
  rw [show iabs (l + u - c - c) = iabs (u - c + (l - c)) by congr 1; omega] at h3
  have hp := Lib.hid (show paeth l u c = _ from rfl)
  unfold paeth at hp ⊢
  by_cases t1 : iabs (u - c) ≤ iabs (l - c)
  · by_cases t2 : iabs (u - c) ≤ iabs (u - c + (l - c))
    · rw [if_pos ⟨t1, t2⟩]
      clear hp
      go_enter Tryd.func21, Tryd.ntmps21
      go_wp2_with (first
              | (go_at_call 30; (with_reducible refine (h1 _).mono ?_); rintro e w1 ⟨rfl, rfl⟩)
              | (go_at_call 30; (with_reducible refine (h2 _).mono ?_); rintro e w1 ⟨rfl, rfl⟩)
              | (go_at_call 30; (with_reducible refine (h3 _).mono ?_); rintro e w1 ⟨rfl, rfl⟩))
      go_ret
      exact ⟨rfl, rfl⟩
    · by_cases t3 : iabs (l - c) ≤ iabs (u - c + (l - c))
      · exact absurd (Int.le_trans t1 t3) t2
      · rw [if_neg (fun h => t2 h.2), if_neg t3]
        clear hp
        go_enter Tryd.func21, Tryd.ntmps21
        go_wp2_with (first
                | (go_at_call 30; (with_reducible refine (h1 _).mono ?_); rintro e w1 ⟨rfl, rfl⟩)
                | (go_at_call 30; (with_reducible refine (h2 _).mono ?_); rintro e w1 ⟨rfl, rfl⟩)
                | (go_at_call 30; (with_reducible refine (h3 _).mono ?_); rintro e w1 ⟨rfl, rfl⟩))
        go_ret
        exact ⟨rfl, rfl⟩
  · by_cases t3 : iabs (l - c) ≤ iabs (u - c + (l - c))
    · rw [if_neg (fun h => t1 h.1), if_pos t3]
      clear hp
      go_enter Tryd.func21, Tryd.ntmps21
      go_wp2_with (first
              | (go_at_call 30; (with_reducible refine (h1 _).mono ?_); rintro e w1 ⟨rfl, rfl⟩)
              | (go_at_call 30; (with_reducible refine (h2 _).mono ?_); rintro e w1 ⟨rfl, rfl⟩)
              | (go_at_call 30; (with_reducible refine (h3 _).mono ?_); rintro e w1 ⟨rfl, rfl⟩))
      go_ret
      exact ⟨rfl, rfl⟩
    · rw [if_neg (fun h => t1 h.1), if_neg t3]
      clear hp
      go_enter Tryd.func21, Tryd.ntmps21
      go_wp2_with (first
              | (go_at_call 30; (with_reducible refine (h1 _).mono ?_); rintro e w1 ⟨rfl, rfl⟩)
              | (go_at_call 30; (with_reducible refine (h2 _).mono ?_); rintro e w1 ⟨rfl, rfl⟩)
              | (go_at_call 30; (with_reducible refine (h3 _).mono ?_); rintro e w1 ⟨rfl, rfl⟩))
      go_ret
      exact ⟨rfl, rfl⟩

theorem sample19 (q o n cap k : Nat) (x : Int) (hk : k < n) (hn : n ≤ 100000) (hx0 : 0 ≤ x) (hx1 : x ≤ 255) (w : World) (hc : w.cell? ⟨q, o + k, none⟩ = some (.int .u8 x)) :
    Calls Tryd.prog 19 #[.slice (some ⟨q, o, none⟩) n cap, .int .i64 k, .int .i64 8] w fun e w' => e = .returned (.int .i64 x) ∧ ∃ m, w' = w.drewN m := by
  have e1 : IntKind.i64.wrap ((k : Int) * 8) = (k : Int) * 8 := by rw [IntWalk.i64_in _ (by omega)]
  have e2 : (k : Int) * 8 / 8 = (k : Int) := by omega
  have e3 : (k : Int) * 8 % 8 = 0 := by omega
  have ha := and255 x hx0 (by omega)
  have hm : x % 256 = x := by omega
  rw [hm] at ha
  have hki : (k : Int) < (n : Int) := by omega
  go_enter Tryd.func19, Tryd.ntmps19
  go_wp2_with fail
  go_quiet (fail)
  go_wp2_with fail
  go_ret
  exact ⟨rfl, _, rfl⟩

theorem andnot255 (x : Int) (h0 : 0 ≤ x) (h1 : x ≤ 255) : bits BinOp.andNot IntKind.i64 x 255 = 0 := by
  have key : ∀ x : Fin 256, bits BinOp.andNot IntKind.i64 (x.val : Int) 255 = 0 := by decide +kernel
  have h := key ⟨x.toNat, by omega⟩
  simp only at h
  rw [show ((x.toNat : Nat) : Int) = x by omega] at h
  exact h
theorem or0 (x : Int) (h0 : 0 ≤ x) (h1 : x ≤ 255) : bits BinOp.or IntKind.i64 0 x = x := by
  have key : ∀ x : Fin 256, bits BinOp.or IntKind.i64 0 (x.val : Int) = (x.val : Int) := by decide +kernel
  have h := key ⟨x.toNat, by omega⟩
  simp only at h
  rw [show ((x.toNat : Nat) : Int) = x by omega] at h
  exact h

set_option maxHeartbeats 2000000 in
set_option maxRecDepth 100000 in
theorem put20 (q o n cap k : Nat) (x v : Int) (hk : k < n) (hn : n ≤ 100000) (hx0 : 0 ≤ x) (hx1 : x ≤ 255) (hv0 : 0 ≤ v) (hv1 : v ≤ 255) (w : World) (hc : w.cell? ⟨q, o + k, none⟩ = some (.int .u8 x)) (hf : w.frozen? ⟨q, o + k, none⟩ = false) :
    Calls Tryd.prog 20 #[.slice (some ⟨q, o, none⟩) n cap, .int .i64 k, .int .i64 8, .int .i64 v] w fun e w' => e = .returned (.tuple #[]) ∧ w' = (w.setCell ⟨q, o + k, none⟩ (.int .u8 v)).drew := by
  have e1 : IntKind.i64.wrap ((k : Int) * 8) = (k : Int) * 8 := by rw [IntWalk.i64_in _ (by omega)]
  have e2 : (k : Int) * 8 / 8 = (k : Int) := by omega
  have e3 : (k : Int) * 8 % 8 = 0 := by omega
  have ha := andnot255 x hx0 hx1
  have hb := or0 v hv0 hv1
  have hki : (k : Int) < (n : Int) := by omega
  go_enter Tryd.func20, Tryd.ntmps20
  go_wp2_with fail
  go_region
  go_wp2_with fail
  go_end0
  exact ⟨rfl, rfl⟩

set_option maxHeartbeats 1000000 in
theorem bytes11 (p colors bits columns early A B : Int) (hA : colors * bits = A) (hB : A * columns = B) (h1 : 1 ≤ A) (h2 : A ≤ 128) (h3 : 1 ≤ B) (h4 : B ≤ 128000) (w : World) :
    Calls Tryd.prog 11 #[.agg #[.int .i64 p, .int .i64 colors, .int .i64 bits, .int .i64 columns, .int .i64 early]] w fun e w' => e = .returned (.tuple #[.int .i64 ((B + 7) / 8), .int .i64 ((A + 7) / 8)]) ∧ Below w.heap.size w w' := by
  have e1 : IntKind.i64.wrap (colors * bits) = A := by rw [hA, IntWalk.i64_in _ (by omega)]
  have e2 : IntKind.i64.wrap (A * columns) = B := by rw [hB, IntWalk.i64_in _ (by omega)]
  have e3 : IntKind.i64.wrap (B + 7) = B + 7 := IntWalk.i64_in _ (by omega)
  have e4 : IntKind.i64.wrap (A + 7) = A + 7 := IntWalk.i64_in _ (by omega)
  clear hA hB
  go_enter Tryd.func11, Tryd.ntmps11
  go_wp2_with fail
  go_quiet (fail)
  go_wp2_with fail
  go_ret2
  exact ⟨rfl, (((Kept.refl [] _).alloc _).drewN _).below (Nat.le_refl _) (by simp)⟩
end Go.Proofs.YtmihbmjillcjaaaDoor.up
