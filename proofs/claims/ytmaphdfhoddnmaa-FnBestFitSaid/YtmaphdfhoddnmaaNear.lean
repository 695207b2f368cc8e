/-
  The walk of 'near': it returns true where every element passes the test, and false where one doesn't; it leaves the world as it was.
-/
import Derived.Test.YtmaphdfhoddnmaaRows
import Derived.Test.YtmaphdfhoddnmaaFlNear
import Derived.Test.YtmaphdfhoddnmaaFlSem
import Derived.WalkKit
import Derived.WalkSpells
import Derived.WalkLawsBesides
import Derived.Outline
import Derived.Below
import Derived.Lib.Hide
import Derived.BigQuiet
import Derived.BigGuardPart
import Derived.Deep.QuietTactic
namespace Go.Proofs.Ytmaphdfhoddnmaa
open Go.RowKit

set_option maxHeartbeats 1000000 in
theorem near_yes (b n cap : Nat) (zs : List Nat) (w : World) (hm : n ≤ 1000)
    (hc : ∀ j, j < n → w.cell? ⟨b, j, none⟩ = some (.float .f64 (zs.getD j 0))) (hf : ∀ j, j < n → Fl.Fine (zs.getD j 0)) :
    Calls Try.prog 12 #[.slice (some ⟨b, 0, none⟩) n cap] w fun e w' => e = .returned (.bool true) ∧ w = w' := by
  go_enter Try.func12, Try.ntmps12
  go_wp2
  go_loop [7] (fun i => ∃ k : Nat, k ≤ n ∧ i = .int .i64 k) (fun i => n - (intOf i).toNat)
  case atStart => exact ⟨0, Nat.zero_le _, rfl⟩
  case round =>
    obtain ⟨k, hk, rfl⟩ := hrel
    by_cases hlt : k < n
    · have hcell := hc k hlt
      have hfine := hf k hlt
      generalize zs.getD k 0 = x at hcell hfine
      clear hc hf
      cases hfine with
      | zero q r z h1 h2 h3 h4 h5 h6 h7 h8 h9 =>
        have k1 : (FloatKind.f64.format.order x x != some .eq) = false := h1
        have k2 : (FloatKind.f64.format.order x 0 == some .eq) = true := h2
        have k3 := fun t w => run_float_arith (P := Try.prog) w .quo t .f64 _ _ _ h3
        have k4 : (FloatKind.f64.format.order q 0 == some .lt) = false := h4
        have k5 : (FloatKind.f64.format.order x 13920626448202203136 == some .lt) = false := h5
        have k6 : (FloatKind.f64.format.order x 4697254411347427328 == some .gt) = false := h6
        have k7 := fun t w => run_float_arith (P := Try.prog) w .mul t .f64 _ _ _ h7
        have k8 := fun w => run_convert_float_int (P := Try.prog) w 23 3 .f64 .i64 r z (by rw [Try.underlying23]; rfl) Try.underlying3 h8
        have k9 : (FloatKind.f64.format.order (floatOfInt .f64 z) r != some .eq) = false := h9
        clear h1 h2 h3 h4 h5 h6 h7 h8 h9
        go_wp2
        go_round
        case rel => exact ⟨k + 1, by omega, by go_num⟩
        case measure => simp [intOf]; omega
      | other r z h1 h2 h5 h6 h7 h8 h9 =>
        have k1 : (FloatKind.f64.format.order x x != some .eq) = false := h1
        have k2 : (FloatKind.f64.format.order x 0 == some .eq) = false := h2
        have k5 : (FloatKind.f64.format.order x 13920626448202203136 == some .lt) = false := h5
        have k6 : (FloatKind.f64.format.order x 4697254411347427328 == some .gt) = false := h6
        have k7 := fun t w => run_float_arith (P := Try.prog) w .mul t .f64 _ _ _ h7
        have k8 := fun w => run_convert_float_int (P := Try.prog) w 23 3 .f64 .i64 r z (by rw [Try.underlying23]; rfl) Try.underlying3 h8
        have k9 : (FloatKind.f64.format.order (floatOfInt .f64 z) r != some .eq) = false := h9
        clear h1 h2 h5 h6 h7 h8 h9
        go_wp2
        go_round
        case rel => exact ⟨k + 1, by omega, by go_num⟩
        case measure => simp [intOf]; omega
    · go_wp2
      go_ret
      exact ⟨rfl, rfl⟩

set_option maxHeartbeats 1000000 in
theorem near_no (b n cap q : Nat) (zs : List Nat) (w : World) (hq : q < n) (hm : n ≤ 1000)
    (hc : ∀ j, j < n → w.cell? ⟨b, j, none⟩ = some (.float .f64 (zs.getD j 0))) (hf : ∀ j, j < q → Fl.Fine (zs.getD j 0)) (hw : Fl.Ways (zs.getD q 0)) :
    Calls Try.prog 12 #[.slice (some ⟨b, 0, none⟩) n cap] w fun e w' => e = .returned (.bool false) ∧ w = w' := by
  go_enter Try.func12, Try.ntmps12
  go_wp2
  go_loop [7] (fun i => ∃ k : Nat, k ≤ q ∧ i = .int .i64 k) (fun i => n - (intOf i).toNat)
  case atStart => exact ⟨0, Nat.zero_le _, rfl⟩
  case round =>
    obtain ⟨k, hk, rfl⟩ := hrel
    have hkn : k < n := by omega
    by_cases hlt : k < q
    · have hcell := hc k hkn
      have hfine := hf k hlt
      clear hw
      generalize zs.getD k 0 = x at hcell hfine
      clear hc hf
      cases hfine with
      | zero q r z h1 h2 h3 h4 h5 h6 h7 h8 h9 =>
        have k1 : (FloatKind.f64.format.order x x != some .eq) = false := h1
        have k2 : (FloatKind.f64.format.order x 0 == some .eq) = true := h2
        have k3 := fun t w => run_float_arith (P := Try.prog) w .quo t .f64 _ _ _ h3
        have k4 : (FloatKind.f64.format.order q 0 == some .lt) = false := h4
        have k5 : (FloatKind.f64.format.order x 13920626448202203136 == some .lt) = false := h5
        have k6 : (FloatKind.f64.format.order x 4697254411347427328 == some .gt) = false := h6
        have k7 := fun t w => run_float_arith (P := Try.prog) w .mul t .f64 _ _ _ h7
        have k8 := fun w => run_convert_float_int (P := Try.prog) w 23 3 .f64 .i64 r z (by rw [Try.underlying23]; rfl) Try.underlying3 h8
        have k9 : (FloatKind.f64.format.order (floatOfInt .f64 z) r != some .eq) = false := h9
        clear h1 h2 h3 h4 h5 h6 h7 h8 h9
        go_wp2
        go_round
        case rel => exact ⟨k + 1, by omega, by go_num⟩
        case measure => simp [intOf]; omega
      | other r z h1 h2 h5 h6 h7 h8 h9 =>
        have k1 : (FloatKind.f64.format.order x x != some .eq) = false := h1
        have k2 : (FloatKind.f64.format.order x 0 == some .eq) = false := h2
        have k5 : (FloatKind.f64.format.order x 13920626448202203136 == some .lt) = false := h5
        have k6 : (FloatKind.f64.format.order x 4697254411347427328 == some .gt) = false := h6
        have k7 := fun t w => run_float_arith (P := Try.prog) w .mul t .f64 _ _ _ h7
        have k8 := fun w => run_convert_float_int (P := Try.prog) w 23 3 .f64 .i64 r z (by rw [Try.underlying23]; rfl) Try.underlying3 h8
        have k9 : (FloatKind.f64.format.order (floatOfInt .f64 z) r != some .eq) = false := h9
        clear h1 h2 h5 h6 h7 h8 h9
        go_wp2
        go_round
        case rel => exact ⟨k + 1, by omega, by go_num⟩
        case measure => simp [intOf]; omega
    · obtain rfl : k = q := by omega
      have hcell := hc k hkn
      generalize zs.getD k 0 = x at hcell hw
      clear hc hf
      cases hw with
      | nan h1 =>
        have k1 : (FloatKind.f64.format.order x x != some .eq) = true := h1
        clear h1
        go_wp2
        go_ret
        exact ⟨rfl, rfl⟩
      | minus s h1 h2 h3 h4 =>
        have k1 : (FloatKind.f64.format.order x x != some .eq) = false := h1
        have k2 : (FloatKind.f64.format.order x 0 == some .eq) = true := h2
        have k3 := fun t w => run_float_arith (P := Try.prog) w .quo t .f64 _ _ _ h3
        have k4 : (FloatKind.f64.format.order s 0 == some .lt) = true := h4
        clear h1 h2 h3 h4
        go_wp2
        go_ret
        exact ⟨rfl, rfl⟩
      | low h1 h2 h5 =>
        have k1 : (FloatKind.f64.format.order x x != some .eq) = false := h1
        have k2 : (FloatKind.f64.format.order x 0 == some .eq) = false := h2
        have k5 : (FloatKind.f64.format.order x 13920626448202203136 == some .lt) = true := h5
        clear h1 h2 h5
        go_wp2
        go_ret
        exact ⟨rfl, rfl⟩
      | high h1 h2 h5 h6 =>
        have k1 : (FloatKind.f64.format.order x x != some .eq) = false := h1
        have k2 : (FloatKind.f64.format.order x 0 == some .eq) = false := h2
        have k5 : (FloatKind.f64.format.order x 13920626448202203136 == some .lt) = false := h5
        have k6 : (FloatKind.f64.format.order x 4697254411347427328 == some .gt) = true := h6
        clear h1 h2 h5 h6
        go_wp2
        go_ret
        exact ⟨rfl, rfl⟩
      | broken r z h1 h2 h5 h6 h7 h8 h9 =>
        have k1 : (FloatKind.f64.format.order x x != some .eq) = false := h1
        have k2 : (FloatKind.f64.format.order x 0 == some .eq) = false := h2
        have k5 : (FloatKind.f64.format.order x 13920626448202203136 == some .lt) = false := h5
        have k6 : (FloatKind.f64.format.order x 4697254411347427328 == some .gt) = false := h6
        have k7 := fun t w => run_float_arith (P := Try.prog) w .mul t .f64 _ _ _ h7
        have k8 := fun w => run_convert_float_int (P := Try.prog) w 23 3 .f64 .i64 r z (by rw [Try.underlying23]; rfl) Try.underlying3 h8
        have k9 : (FloatKind.f64.format.order (floatOfInt .f64 z) r != some .eq) = true := h9
        clear h1 h2 h5 h6 h7 h8 h9
        go_wp2
        go_ret
        exact ⟨rfl, rfl⟩
/-- Of a list: all pass, or there is a first that doesn't. -/
theorem first_bad (zs : List Nat) : (∀ j, j < zs.length → Fl.Fine (zs.getD j 0) ∧ ∃ n, Fl.Half (zs.getD j 0) n) ∨ ∃ q, q < zs.length ∧ (∀ j, j < q → Fl.Fine (zs.getD j 0)) ∧ Fl.Ways (zs.getD q 0) := by
  induction zs with
  | nil => left; intro j hj; simp at hj
  | cons z zs ih =>
    rcases Fl.near_cases z with ⟨h, hn⟩ | h
    · rcases ih with ih | ⟨q, hq, h1, h2⟩
      · left
        intro j hj
        cases j with
        | zero => exact ⟨h, hn⟩
        | succ j => exact ih j (by simpa using hj)
      · right
        refine ⟨q + 1, by simpa using hq, ?_, h2⟩
        intro j hj
        cases j with
        | zero => exact h
        | succ j => exact h1 j (by omega)
    · right
      exact ⟨0, by simp, fun j hj => by omega, h⟩

/-- 'near' at a row that reads as a list: one answer, the world as it was; where it is yes, all are halves. -/
theorem near_any (zs : List Nat) (hm : zs.length ≤ 1000) : ∃ r : Bool, (r = true → ∀ j, j < zs.length → ∃ n, Fl.Half (zs.getD j 0) n) ∧
    ∀ (b cap : Nat) (w : World), (∀ j, j < zs.length → w.cell? ⟨b, j, none⟩ = some (.float .f64 (zs.getD j 0))) →
      Calls Try.prog 12 #[.slice (some ⟨b, 0, none⟩) zs.length cap] w fun e w' => e = .returned (.bool r) ∧ w = w' := by
  rcases first_bad zs with h | ⟨q, hq, h1, h2⟩
  · exact ⟨true, fun _ j hj => (h j hj).2, fun b cap w hc => near_yes b zs.length cap zs w hm hc fun j hj => (h j hj).1⟩
  · exact ⟨false, fun h => (nomatch h), fun b cap w hc => near_no b zs.length cap q zs w hq hm hc h1 h2⟩

theorem cells_new (zs : List Nat) (w : World) (t : TypeId) : ∀ j, j < zs.length → (w.alloc (.cells (zs.map (Value.float .f64)).toArray t)).cell? ⟨w.heap.size, j, none⟩ = some (.float .f64 (zs.getD j 0)) := by
  intro j hj
  rw [World.cell?_alloc_at _ _ _ _ rfl]
  simp [hj]

/-- The same at a row that has just been laid. -/
theorem near_new (zs : List Nat) (cells : Array Value) (hcs : cells = (zs.map (Value.float .f64)).toArray) (hm : zs.length ≤ 1000) : ∃ r : Bool, (r = true → ∀ j, j < zs.length → ∃ n, Fl.Half (zs.getD j 0) n) ∧
    ∀ (b cap n : Nat) (t : TypeId) (w : World), b = w.heap.size → n = zs.length →
      Calls Try.prog 12 #[.slice (some ⟨b, 0, none⟩) n cap] (w.alloc (.cells cells t)) fun e w' => e = .returned (.bool r) ∧ w.alloc (.cells cells t) = w' := by
  obtain ⟨r, h1, h2⟩ := near_any zs hm
  refine ⟨r, h1, fun b cap n t w hb hn => ?_⟩
  subst hb hn hcs
  exact h2 _ _ _ (cells_new zs w t)

end Go.Proofs.Ytmaphdfhoddnmaa
