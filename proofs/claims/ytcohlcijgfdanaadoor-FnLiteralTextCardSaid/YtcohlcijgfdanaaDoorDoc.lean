/-
  FnLiteralText: the signs of PDFDocEncoding: spec.docSigns, docSign.
-/
import Derived.Test.YtcohlcijgfdanaaDoorEdg
namespace Go.Proofs.YtcohlcijgfdanaaDoor.lt
open Go.RowKit

def lowT : List Int := [728, 711, 710, 729, 733, 731, 730, 732]
def highT : List Int := [8226, 8224, 8225, 8230, 8212, 8211, 402, 8260, 8249, 8250, 8722, 8240, 8222, 8220, 8221, 8216, 8217, 8218, 8482, 64257, 64258, 321, 338, 352, 376, 381, 305, 322, 339, 353, 382]

/-- The code point that a byte is by D.2; -1: none. -/
def dsg (b : Nat) : Int :=
  if b = 9 ∨ b = 10 ∨ b = 13 ∨ (32 ≤ b ∧ b ≤ 126) then b
  else if 24 ≤ b ∧ b ≤ 31 then lowT.getD (b - 24) 0
  else if 128 ≤ b ∧ b ≤ 158 then highT.getD (b - 128) 0
  else if b = 160 then 8364
  else if 160 < b ∧ b ≠ 173 then b
  else -1

theorem row_cell (l : List Int) (W : World) (t : TypeId) (j : Nat) (h : j < l.length) (w' : World) (a : Nat) (hb : w'.heap[a]? = some (.cells (l.map (Value.int .i32)).toArray t)) : w'.cell? ⟨a, j, none⟩ = some (.int .i32 (l.getD j 0)) := by
  unfold World.cell?
  rw [hb]
  simp [List.getD, h]

theorem top (w : World) (o : Obj) : (w.alloc o).heap[w.heap.size]? = some o := by
  show (w.heap.push o)[w.heap.size]? = some o
  simp

set_option maxRecDepth 100000 in
set_option maxHeartbeats 2000000 in
theorem signs97 (w : World) : Calls Tryd.prog 97 #[] w fun e w' => (∃ a b, e = .returned (.tuple #[.slice (some ⟨a, 0, none⟩) 8 8, .slice (some ⟨b, 0, none⟩) 31 31]) ∧ (∀ j, j < 8 → w'.cell? ⟨a, j, none⟩ = some (.int .i32 (lowT.getD j 0))) ∧ ∀ j, j < 31 → w'.cell? ⟨b, j, none⟩ = some (.int .i32 (highT.getD j 0))) ∧ Below w.heap.size w w' := by
  go_enter Tryd.func97, Tryd.ntmps97
  go_wp2
  refine bodyPost_ret (v := .tuple #[.slice (some ⟨w.heap.size, 0, none⟩) 8 8, .slice (some ⟨w.heap.size + 1, 0, none⟩) 31 31]) (by simp [results, Tryd.results97, go_sem]) rfl ⟨⟨_, _, rfl, fun j hj => ?_, fun j hj => ?_⟩, ?_⟩
  · exact (World.cell?_alloc_lt _ _ _ (by simp)).trans (row_cell lowT w 21 j hj _ _ (top w _))
  · exact row_cell highT w 21 j hj _ _ (by have := top (w.alloc (.cells (lowT.map (Value.int .i32)).toArray 21)) (.cells (highT.map (Value.int .i32)).toArray 21); rw [World.size_alloc] at this; exact this)
  · exact ((Below.refl _ _).alloc (Nat.le_refl _) _).alloc (by simp) _

set_option maxRecDepth 100000 in
set_option maxHeartbeats 4000000 in
theorem sign75 (b : Nat) (hb : b < 256) (w : World) : Calls Tryd.prog 75 #[.int .u8 (b : Int)] w fun e w' => e = .returned (.int .i32 (dsg b)) ∧ Below w.heap.size w w' := by
  have HC := Lib.hid (signs97 w)
  have fin : ∀ r : Int, dsg b = r → (Calls Tryd.prog 75 #[.int .u8 (b : Int)] w fun e w' => e = .returned (.int .i32 r) ∧ Below w.heap.size w w') → Calls Tryd.prog 75 #[.int .u8 (b : Int)] w fun e w' => e = .returned (.int .i32 (dsg b)) ∧ Below w.heap.size w w' := fun r h1 h2 => by rw [h1]; exact h2
  by_cases h9 : b = 9
  · subst h9
    refine fin 9 (by decide) ?_
    go_enter Tryd.func75, Tryd.ntmps75
    go_wp2_with (go_at_call 97; refine HC.out.mono ?_; rintro e w1 ⟨⟨ga, gb, rfl, -, -⟩, hbw⟩; replace hbw := Lib.hid hbw)
    go_ret
    exact ⟨rfl, hbw.out⟩
  by_cases h10 : b = 10
  · subst h10
    refine fin 10 (by decide) ?_
    go_enter Tryd.func75, Tryd.ntmps75
    go_wp2_with (go_at_call 97; refine HC.out.mono ?_; rintro e w1 ⟨⟨ga, gb, rfl, -, -⟩, hbw⟩; replace hbw := Lib.hid hbw)
    go_ret
    exact ⟨rfl, hbw.out⟩
  by_cases h13 : b = 13
  · subst h13
    refine fin 13 (by decide) ?_
    go_enter Tryd.func75, Tryd.ntmps75
    go_wp2_with (go_at_call 97; refine HC.out.mono ?_; rintro e w1 ⟨⟨ga, gb, rfl, -, -⟩, hbw⟩; replace hbw := Lib.hid hbw)
    go_ret
    exact ⟨rfl, hbw.out⟩
  have e9 : ((b : Int) == 9) = false := by simpa using (show ¬ (b : Int) = 9 by omega)
  have e10 : ((b : Int) == 10) = false := by simpa using (show ¬ (b : Int) = 10 by omega)
  have e13 : ((b : Int) == 13) = false := by simpa using (show ¬ (b : Int) = 13 by omega)
  by_cases h32 : 32 ≤ b ∧ b ≤ 126
  · refine fin b (by unfold dsg; rw [if_pos (by omega)]) ?_
    have k1 : (32 : Int) ≤ (b : Int) := by omega
    have k2 : (b : Int) ≤ 126 := by omega
    clear h32 h9 h10 h13 hb fin
    generalize (b : Int) = d at *
    go_enter Tryd.func75, Tryd.ntmps75
    go_wp2_with (go_at_call 97; refine HC.out.mono ?_; rintro e w1 ⟨⟨ga, gb, rfl, -, -⟩, hbw⟩; replace hbw := Lib.hid hbw)
    go_ret
    exact ⟨rfl, hbw.out⟩
  by_cases h24 : 24 ≤ b ∧ b ≤ 31
  · obtain ⟨k, hk⟩ : ∃ k, b = k + 24 := ⟨b - 24, by omega⟩
    refine fin (lowT.getD k 0) (by unfold dsg; rw [if_neg (by omega), if_pos (by omega)]; congr 1; omega) ?_
    have hk8 : k < 8 := by omega
    have k0 : ¬ (32 : Int) ≤ (b : Int) := by omega
    have k1 : (24 : Int) ≤ (b : Int) := by omega
    have k2 : (b : Int) ≤ 31 := by omega
    have k3 : (b : Int) - 24 = (k : Int) := by omega
    have k4 : (k : Int) < 8 := by omega
    have HK := Lib.hid hk8
    generalize hr : lowT.getD k 0 = r at *
    clear fin h9 h10 h13 h32 h24 hk hk8
    generalize (b : Int) = d at *
    go_enter Tryd.func75, Tryd.ntmps75
    go_wp2_with (go_at_call 97; refine HC.out.mono ?_; rintro e w1 ⟨⟨ga, gb, rfl, hlo, -⟩, hbw⟩; replace hbw := Lib.hid hbw; replace hlo := hlo k HK.out; rw [hr] at hlo)
    go_ret
    exact ⟨rfl, hbw.out⟩
  by_cases h128 : 128 ≤ b ∧ b ≤ 158
  · obtain ⟨k, hk⟩ : ∃ k, b = k + 128 := ⟨b - 128, by omega⟩
    refine fin (highT.getD k 0) (by unfold dsg; rw [if_neg (by omega), if_neg (by omega), if_pos (by omega)]; congr 1; omega) ?_
    have hk8 : k < 31 := by omega
    have k0 : ¬ (b : Int) ≤ 126 := by omega
    have k0' : (32 : Int) ≤ (b : Int) := by omega
    have k1 : (128 : Int) ≤ (b : Int) := by omega
    have k2 : (b : Int) ≤ 158 := by omega
    have k5 : ¬ (b : Int) ≤ 31 := by omega
    have k6 : (24 : Int) ≤ (b : Int) := by omega
    have k3 : (b : Int) - 128 = (k : Int) := by omega
    have k4 : (k : Int) < 31 := by omega
    have HK := Lib.hid hk8
    generalize hr : highT.getD k 0 = r at *
    clear fin h9 h10 h13 h32 h24 h128 hk hk8
    generalize (b : Int) = d at *
    go_enter Tryd.func75, Tryd.ntmps75
    go_wp2_with (go_at_call 97; refine HC.out.mono ?_; rintro e w1 ⟨⟨ga, gb, rfl, -, hhi⟩, hbw⟩; replace hbw := Lib.hid hbw; replace hhi := hhi k HK.out; rw [hr] at hhi)
    go_ret
    exact ⟨rfl, hbw.out⟩
  by_cases h160 : b = 160
  · subst h160
    refine fin 8364 (by decide) ?_
    clear fin e9 e10 e13
    go_enter Tryd.func75, Tryd.ntmps75
    go_wp2_with (go_at_call 97; refine HC.out.mono ?_; rintro e w1 ⟨⟨ga, gb, rfl, -, -⟩, hbw⟩; replace hbw := Lib.hid hbw)
    go_ret
    exact ⟨rfl, hbw.out⟩
  by_cases hhi : 160 < b ∧ b ≠ 173
  · refine fin b (by unfold dsg; rw [if_neg (by omega), if_neg (by omega), if_neg (by omega), if_neg (by omega), if_pos (by omega)]) ?_
    have k0 : ¬ (b : Int) ≤ 126 := by omega
    have k0' : (32 : Int) ≤ (b : Int) := by omega
    have k1 : (128 : Int) ≤ (b : Int) := by omega
    have k2 : ¬ (b : Int) ≤ 158 := by omega
    have k5 : ¬ (b : Int) ≤ 31 := by omega
    have k6 : (24 : Int) ≤ (b : Int) := by omega
    have k7 : (160 : Int) < (b : Int) := by omega
    have k8 : ((b : Int) == 160) = false := by simpa using (show ¬ (b : Int) = 160 by omega)
    have k9 : ¬ (b : Int) = 173 := by omega
    have k9' : ((b : Int) == 173) = false := by simpa using k9
    have k10 : (b : Int) ≤ 255 := by omega
    clear fin h9 h10 h13 h32 h24 h128 h160 hhi hb
    generalize (b : Int) = d at *
    go_enter Tryd.func75, Tryd.ntmps75
    go_wp2_with (go_at_call 97; refine HC.out.mono ?_; rintro e w1 ⟨⟨ga, gb, rfl, -, -⟩, hbw⟩; replace hbw := Lib.hid hbw)
    go_ret
    exact ⟨rfl, hbw.out⟩
  refine fin (-1) (by unfold dsg; rw [if_neg (by omega), if_neg (by omega), if_neg (by omega), if_neg (by omega), if_neg (by omega)]) ?_
  by_cases c1 : b = 127
  · subst c1
    clear fin e9 e10 e13
    go_enter Tryd.func75, Tryd.ntmps75
    go_wp2_with (go_at_call 97; refine HC.out.mono ?_; rintro e w1 ⟨⟨ga, gb, rfl, -, -⟩, hbw⟩; replace hbw := Lib.hid hbw)
    go_ret
    exact ⟨rfl, hbw.out⟩
  by_cases c2 : b = 159
  · subst c2
    clear fin e9 e10 e13
    go_enter Tryd.func75, Tryd.ntmps75
    go_wp2_with (go_at_call 97; refine HC.out.mono ?_; rintro e w1 ⟨⟨ga, gb, rfl, -, -⟩, hbw⟩; replace hbw := Lib.hid hbw)
    go_ret
    exact ⟨rfl, hbw.out⟩
  by_cases c3 : b = 173
  · subst c3
    clear fin e9 e10 e13
    go_enter Tryd.func75, Tryd.ntmps75
    go_wp2_with (go_at_call 97; refine HC.out.mono ?_; rintro e w1 ⟨⟨ga, gb, rfl, -, -⟩, hbw⟩; replace hbw := Lib.hid hbw)
    go_ret
    exact ⟨rfl, hbw.out⟩
  have k0 : ¬ (32 : Int) ≤ (b : Int) := by omega
  have k1 : ¬ (128 : Int) ≤ (b : Int) := by omega
  have k6 : ¬ (24 : Int) ≤ (b : Int) := by omega
  have k7 : ¬ (160 : Int) < (b : Int) := by omega
  have k8 : ((b : Int) == 160) = false := by simpa using (show ¬ (b : Int) = 160 by omega)
  have k9 : (0 : Int) ≤ (b : Int) := by omega
  clear fin h9 h10 h13 h32 h24 h128 h160 hhi hb c1 c2 c3
  generalize (b : Int) = d at *
  go_enter Tryd.func75, Tryd.ntmps75
  go_wp2_with (go_at_call 97; refine HC.out.mono ?_; rintro e w1 ⟨⟨ga, gb, rfl, -, -⟩, hbw⟩; replace hbw := Lib.hid hbw)
  go_ret
  exact ⟨rfl, hbw.out⟩
end Go.Proofs.YtcohlcijgfdanaaDoor.lt
