/-
  spec.TableFits.
-/
import Derived.Test.YtoaedibfgegilaaGreatDoorStp
import Derived.Deep.QuietTactic
import Derived.BigQuiet
namespace Go.Proofs.YtoaedibfgegilaaGreatDoor.st
open Go.RowKit
set_option linter.unusedVariables false
set_option linter.unusedSimpArgs false

structure FitsK (f : Nat → Ent) (k : Nat) : Prop where
  ok : ∀ i, i < k → Ok (f i)
  rise : ∀ i j, i < j → j < k → (f i).num < (f j).num
theorem FitsK.succ {f : Nat → Ent} {k : Nat} (h : FitsK f k) (ho : Ok (f k)) (hr : 0 < k → (f (k - 1)).num < (f k).num) : FitsK f (k + 1) := by
  refine ⟨fun i hi => ?_, fun i j hij hj => ?_⟩
  · rcases Nat.lt_or_ge i k with h1 | h1
    · exact h.ok i h1
    · obtain rfl : i = k := by omega
      exact ho
  · rcases Nat.lt_or_ge j k with h1 | h1
    · exact h.rise i j hij h1
    · obtain rfl : j = k := by omega
      rcases Nat.lt_or_ge i (j - 1) with h2 | h2
      · exact Int.lt_trans (h.rise i (j - 1) h2 (by omega)) (hr (by omega))
      · obtain rfl : i = j - 1 := by omega
        exact hr (by omega)
def FitsE (w : World) (f : Nat → Ent) (n : Nat) (e : Ending) (w' : World) : Prop := ∃ b, e = .returned (.bool b) ∧ (b = true → FitsK f n) ∧ Kept [] w w'

set_option maxHeartbeats 16000000 in
set_option maxRecDepth 100000 in
theorem fits4 (v : Value) (n : Nat) (f : Nat → Ent) (w : World) (hE : EntsV w v n f) (hn : (n : Int) ≤ 2147483647) : Calls Tryz.prog 4 #[v] w fun e w' => FitsE w f n e w' := by
  obtain ⟨a, C, rfl⟩ := hE.slice
  have HE := Lib.hid hE
  clear hE
  go_enter Tryz.func4, Tryz.ntmps4
  go_wp2_with fail
  go_loopw [7] (fun i wr => ∃ k : Nat, i = .int .i64 (k : Int) ∧ k ≤ n ∧ Hid (FitsK f k ∧ Kept [] w wr)) (fun i _ => n - (intOf i).toNat)
  case atStart => exact ⟨0, rfl, by omega, Lib.hid ⟨⟨fun i hi => by omega, fun i j h1 h2 => by omega⟩, Kept.refl _ _⟩⟩
  case round =>
    obtain ⟨k, rfl, hk, HK⟩ := hrel
    by_cases hlt : k < n
    · obtain ⟨b, o, hab, hc⟩ := (HE.out.kept HK.out.2).cells (by omega)
      subst hab
      have hbl : b < wr.heap.size := World.block_lt_of_cell? _ _ (hc k hlt 0 _ rfl)
      have HP : Hid (0 < k → wr.cell? ⟨b, o + (k - 1) * 9, none⟩ = some (.int .i64 (f (k - 1)).num)) := Lib.hid fun h => hc (k - 1) (by omega) 0 _ rfl
      have hg := hc k hlt
      obtain ⟨e, he⟩ : ∃ e, f k = e := ⟨_, rfl⟩
      rw [he] at hg
      have HX : Hid (Ok e → (0 < k → (f (k - 1)).num < e.num) → FitsK f (k + 1)) := Lib.hid (by rw [← he]; exact HK.out.1.succ)
      obtain ⟨pn, hpn⟩ : ∃ x, (f (k - 1)).num = x := ⟨_, rfl⟩
      rw [hpn] at HP HX
      have HK2 : Hid (Kept [] w wr) := Lib.hid HK.out.2
      obtain ⟨num, fr, cm, off, gen, hf, hh, st, ix⟩ := e
      have g0 : wr.cell? ⟨b, o + k * 9, none⟩ = some (.int .i64 num) := hg 0 _ rfl
      have g1 : wr.cell? ⟨b, o + k * 9 + 1, none⟩ = some (.bool fr) := hg 1 _ rfl
      have g2 : wr.cell? ⟨b, o + k * 9 + 2, none⟩ = some (.bool cm) := hg 2 _ rfl
      have g3 : wr.cell? ⟨b, o + k * 9 + 3, none⟩ = some (.int .i64 off) := hg 3 _ rfl
      have g4 : wr.cell? ⟨b, o + k * 9 + 4, none⟩ = some (.int .i64 gen) := hg 4 _ rfl
      have g5 : wr.cell? ⟨b, o + k * 9 + 5, none⟩ = some (.bool hf) := hg 5 _ rfl
      have g6 : wr.cell? ⟨b, o + k * 9 + 6, none⟩ = some (.bool hh) := hg 6 _ rfl
      have g7 : wr.cell? ⟨b, o + k * 9 + 7, none⟩ = some (.int .i64 st) := hg 7 _ rfl
      have g8 : wr.cell? ⟨b, o + k * 9 + 8, none⟩ = some (.int .i64 ix) := hg 8 _ rfl
      clear hc hg he hpn HK
      go_wp2_with fail
      obtain ⟨V, hV⟩ : ∃ V, wr.alloc (.cells #[.int .i64 num, .bool fr, .bool cm, .int .i64 off, .int .i64 gen, .bool hf, .bool hh, .int .i64 st, .int .i64 ix] 32) = V := ⟨_, rfl⟩
      have hb : V.heap[wr.heap.size]? = some (.cells #[.int .i64 num, .bool fr, .bool cm, .int .i64 off, .int .i64 gen, .bool hf, .bool hh, .int .i64 st, .int .i64 ix] 32 (0, 0)) := by rw [← hV]; exact heap_alloc_new wr _
      have kV : Kept [] wr V := by rw [← hV]; exact (Kept.refl _ _).alloc _
      rw [hV]
      have HKV := Lib.hid (HK2.out.trans kV)
      have hpv : Hid (0 < k → V.cell? ⟨b, o + (k - 1) * 9, none⟩ = some (.int .i64 pn)) := Lib.hid fun h => kV.cell (HP.out h) (by simp)
      have v0 : V.cell? ⟨wr.heap.size, 0, none⟩ = some (.int .i64 num) := cellsOf hb 0
      have v1 : V.cell? ⟨wr.heap.size, 1, none⟩ = some (.bool fr) := cellsOf hb 1
      have v2 : V.cell? ⟨wr.heap.size, 2, none⟩ = some (.bool cm) := cellsOf hb 2
      have v3 : V.cell? ⟨wr.heap.size, 3, none⟩ = some (.int .i64 off) := cellsOf hb 3
      have v4 : V.cell? ⟨wr.heap.size, 4, none⟩ = some (.int .i64 gen) := cellsOf hb 4
      generalize wr.heap.size = s at *
      clear g0 g1 g2 g3 g4 g5 g6 g7 g8 hV hb kV HP HK2
      cases cm
      rotate_left
      · go_quiet (fail)
        go_wp2_with fail
        go_ret
        exact ⟨false, rfl, (fun h => by cases h), (Hid.out HKV).drewN _⟩
      by_cases q0 : off < 0
      · have d0 : decide (off < 0) = true := by simpa using q0
        go_quiet (fail)
        go_wp2_with fail
        go_ret
        exact ⟨false, rfl, (fun h => by cases h), (Hid.out HKV).drewN _⟩
      have d0 : decide (off < 0) = false := by simpa using q0
      by_cases q1 : (9999999999 : Int) < off
      · have d1 : decide ((9999999999 : Int) < off) = true := by simpa using q1
        go_quiet (fail)
        go_wp2_with fail
        go_ret
        exact ⟨false, rfl, (fun h => by cases h), (Hid.out HKV).drewN _⟩
      have d1 : decide ((9999999999 : Int) < off) = false := by simpa using q1
      by_cases q2 : gen < 0
      · have d2 : decide (gen < 0) = true := by simpa using q2
        go_quiet (fail)
        go_wp2_with fail
        go_ret
        exact ⟨false, rfl, (fun h => by cases h), (Hid.out HKV).drewN _⟩
      have d2 : decide (gen < 0) = false := by simpa using q2
      by_cases q3 : (65535 : Int) < gen
      · have d3 : decide ((65535 : Int) < gen) = true := by simpa using q3
        go_quiet (fail)
        go_wp2_with fail
        go_ret
        exact ⟨false, rfl, (fun h => by cases h), (Hid.out HKV).drewN _⟩
      have d3 : decide ((65535 : Int) < gen) = false := by simpa using q3
      by_cases q4 : num < 0
      · have d4 : decide (num < 0) = true := by simpa using q4
        go_quiet (fail)
        go_wp2_with fail
        go_ret
        exact ⟨false, rfl, (fun h => by cases h), (Hid.out HKV).drewN _⟩
      have d4 : decide (num < 0) = false := by simpa using q4
      by_cases q5 : (1048576 : Int) < num
      · have d5 : decide ((1048576 : Int) < num) = true := by simpa using q5
        go_quiet (fail)
        go_wp2_with fail
        go_ret
        exact ⟨false, rfl, (fun h => by cases h), (Hid.out HKV).drewN _⟩
      have d5 : decide ((1048576 : Int) < num) = false := by simpa using q5
      rcases Nat.eq_zero_or_pos k with hk0 | hk0
      · have z0 : ¬ (0 : Int) < (k : Int) := by omega
        have z1 : decide ((0 : Int) < (k : Int)) = false := by simpa using z0
        have HO : Hid ((fr = false → 9 ≤ off) → FitsK f (k + 1)) := Lib.hid fun h => HX.out ⟨rfl, Int.not_lt.1 q0, Int.not_lt.1 q1, Int.not_lt.1 q2, Int.not_lt.1 q3, Int.not_lt.1 q4, Int.not_lt.1 q5, h⟩ (fun h => by omega)
        go_quiet (fail)
        obtain ⟨V2, hV2⟩ : ∃ V2, V.drewN nq = V2 := ⟨_, rfl⟩
        rw [hV2]
        have k2 : Kept [] V V2 := by rw [← hV2]; exact (Kept.refl _ _).drewN _
        have y0 := k2.cell v0 (by simp)
        have y1 := k2.cell v1 (by simp)
        have y3 := k2.cell v3 (by simp)
        have HKV2 := Lib.hid (HKV.out.trans k2)
        clear v0 v1 v2 v3 v4 k2 hV2
        cases fr
        · by_cases q8 : off < 9
          · have d8 : decide (off < 9) = true := by simpa using q8
            go_wp2_with fail
            go_ret
            exact ⟨false, rfl, (fun h => by cases h), HKV2.out⟩
          · have d8 : decide (off < 9) = false := by simpa using q8
            by_cases q9 : num = 0
            · have d9 : (num == 0) = true := by simpa using q9
              go_wp2_with fail
              go_ret
              exact ⟨false, rfl, (fun h => by cases h), HKV2.out⟩
            · have d9 : (num == 0) = false := by simpa using q9
              have HO2 := Lib.hid (HO.out fun _ => by omega)
              go_wp2_with fail
              go_roundw
              case rel => exact ⟨k + 1, by go_num, by omega, Lib.hid ⟨HO2.out, HKV2.out⟩⟩
              case measure => simp [intOf]; omega
        · have HO2 := Lib.hid (HO.out fun h => by cases h)
          go_wp2_with fail
          go_roundw
          case rel => exact ⟨k + 1, by go_num, by omega, Lib.hid ⟨HO2.out, HKV2.out⟩⟩
          case measure => simp [intOf]; omega
      · have z0 : (0 : Int) < (k : Int) := by omega
        have z1 : decide ((0 : Int) < (k : Int)) = true := by simpa using z0
        have p0 := hpv.out hk0
        by_cases q7 : num ≤ pn
        · have d7 : decide (num ≤ pn) = true := by simpa using q7
          go_quiet (fail)
          go_wp2_with fail
          go_ret
          exact ⟨false, rfl, (fun h => by cases h), (Hid.out HKV).drewN _⟩
        · have d7 : decide (num ≤ pn) = false := by simpa using q7
          have HO : Hid ((fr = false → 9 ≤ off) → FitsK f (k + 1)) := Lib.hid fun h => HX.out ⟨rfl, Int.not_lt.1 q0, Int.not_lt.1 q1, Int.not_lt.1 q2, Int.not_lt.1 q3, Int.not_lt.1 q4, Int.not_lt.1 q5, h⟩ (fun h => Int.not_le.1 q7)
          go_quiet (fail)
          obtain ⟨V2, hV2⟩ : ∃ V2, V.drewN nq = V2 := ⟨_, rfl⟩
          rw [hV2]
          have k2 : Kept [] V V2 := by rw [← hV2]; exact (Kept.refl _ _).drewN _
          have y0 := k2.cell v0 (by simp)
          have y1 := k2.cell v1 (by simp)
          have y3 := k2.cell v3 (by simp)
          have HKV2 := Lib.hid (HKV.out.trans k2)
          clear v0 v1 v2 v3 v4 k2 hV2
          cases fr
          · by_cases q8 : off < 9
            · have d8 : decide (off < 9) = true := by simpa using q8
              go_wp2_with fail
              go_ret
              exact ⟨false, rfl, (fun h => by cases h), HKV2.out⟩
            · have d8 : decide (off < 9) = false := by simpa using q8
              by_cases q9 : num = 0
              · have d9 : (num == 0) = true := by simpa using q9
                go_wp2_with fail
                go_ret
                exact ⟨false, rfl, (fun h => by cases h), HKV2.out⟩
              · have d9 : (num == 0) = false := by simpa using q9
                have HO2 := Lib.hid (HO.out fun _ => by omega)
                go_wp2_with fail
                go_roundw
                case rel => exact ⟨k + 1, by go_num, by omega, Lib.hid ⟨HO2.out, HKV2.out⟩⟩
                case measure => simp [intOf]; omega
          · have HO2 := Lib.hid (HO.out fun h => by cases h)
            go_wp2_with fail
            go_roundw
            case rel => exact ⟨k + 1, by go_num, by omega, Lib.hid ⟨HO2.out, HKV2.out⟩⟩
            case measure => simp [intOf]; omega
    · go_wp2_with fail
      go_ret
      obtain rfl : k = n := by omega
      exact ⟨true, rfl, fun _ => HK.out.1, HK.out.2⟩
end Go.Proofs.YtoaedibfgegilaaGreatDoor.st
