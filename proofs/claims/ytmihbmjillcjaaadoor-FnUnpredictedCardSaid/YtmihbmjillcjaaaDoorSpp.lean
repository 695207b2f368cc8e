/-
  spec.pngRow.
-/
import Derived.Test.YtmihbmjillcjaaaDoorSpt
namespace Go.Proofs.YtmihbmjillcjaaaDoor.up
set_option linter.unusedVariables false
set_option linter.unusedSimpArgs false
open Go.RowKit

theorem pred_ge (t l u c : Int) (ht : Tag t) (h1 : 0 ≤ l) (h2 : 0 ≤ u) (h3 : 0 ≤ c) : 0 ≤ pred t l u c := by
  unfold pred paeth
  rcases ht with rfl | rfl | rfl | rfl | rfl <;> simp <;> (repeat' split) <;> omega
theorem pred_le (t l u c : Int) (ht : Tag t) (h1 : l ≤ 255) (h2 : u ≤ 255) (h3 : c ≤ 255) : pred t l u c ≤ 255 := by
  unfold pred paeth
  rcases ht with rfl | rfl | rfl | rfl | rfl <;> simp <;> (repeat' split) <;> omega

set_option maxHeartbeats 4000000 in
set_option maxRecDepth 100000 in
theorem png13_0 (size bpp : Nat) (h1 : 1 ≤ bpp) (hbs : bpp ≤ size) (hs : size ≤ 100000) (raw above : Nat → Int) (hraw : Bytes raw) (habv : Bytes above) (q ba M c1 n2 c2 : Nat) (F A : Nat → Value) (M2 : Nat) (w : World)
    (hr : w.rowIs q 5 M F) (hM : size ≤ M) (hF : ∀ i, i < size → F i = .int .u8 (raw i)) (ha : w.rowIs ba 5 M2 A) (hM2 : size ≤ M2) (hA : ∀ i, i < size → A i = .int .u8 (above i)) (hn2 : size ≤ n2) (hne : ba ≠ q) :
    Calls Tryd.prog 13 #[.int .i64 0, .slice (some ⟨q, 0, none⟩) size c1, .slice (some ⟨ba, 0, none⟩) n2 c2, .int .i64 bpp] w fun e w' =>
      e = .returned (.bool true) ∧ w'.rowIs q 5 M (at8 F 0 size (pv 0 bpp raw above)) ∧ Kept [q] w w' := by
  have hr0 : w.rowIs q 5 M (at8 F 0 0 (pv 0 bpp raw above)) := hr.congr fun i hi => (at8_out (by omega)).symm
  have HR0 := Lib.hid hr0
  have HF := Lib.hid hF
  have HA := Lib.hid hA
  have HRA := Lib.hid ha
  have HW := Lib.hid hraw
  have HB := Lib.hid habv
  have hk := Lib.hid fun j => pv_lf 0 bpp h1 raw above j
  have hge := Lib.hid fun i => pv_ge 0 bpp raw above i
  have hle := Lib.hid fun i => pv_le 0 bpp raw above i
  clear hr hr0 hF ha hA hraw habv
  generalize pv 0 bpp raw above = G at *
  go_enter Tryd.func13, Tryd.ntmps13
  go_wp2_with fail
  go_loopw [15] (fun i wr => ∃ k : Nat, i = .int .i64 (k : Int) ∧ k ≤ size ∧ Hid (wr.rowIs q 5 M (at8 F 0 k G)) ∧ Hid (Kept [q] w wr)) (fun i _ => size - (intOf i).toNat)
  case atStart => exact ⟨0, rfl, by omega, HR0, Lib.hid (Kept.refl _ _)⟩
  case round =>
    obtain ⟨k, rfl, hks, HR, HK⟩ := hrel
    by_cases hlt : k < size
    · have hki : (k : Int) < (size : Int) := by omega
      have hki2 : (k : Int) < (n2 : Int) := by omega
      have hcell : wr.cell? ⟨q, k, none⟩ = some (.int .u8 (raw k)) := by
        rw [HR.out.cell (by omega), at8_out (by omega), HF.out _ hlt]
      have hrow2 := HK.out.row HRA.out (by simpa using hne)
      have hup : wr.cell? ⟨ba, k, none⟩ = some (.int .u8 (above k)) := by
        rw [hrow2.cell (by omega), HA.out _ hlt]
      have hfz := HR.out.frozen k
      have hset := HR.out.set k (.int .u8 (G k))
      have hse := at8_set F 0 k G
      rw [Nat.zero_add] at hse
      rw [hse] at hset
      have HSET := Lib.hid hset
      have HK2 := Lib.hid (HK.out.setCell (p := ⟨q, k, none⟩) (by simp) (.int .u8 (G k)))
      have r0 := HW.out.lo k
      have r1 := HW.out.hi k
      have u0 := HB.out.lo k
      have u1 := HB.out.hi k
      have hkk := hk.out k
      have l0 := lf_ge (bpp := bpp) (j := k) hge.out
      have l1 := lf_le (bpp := bpp) (j := k) hle.out
      have c0 := lf_ge (bpp := bpp) (j := k) HB.out.lo
      have cc1 := lf_le (bpp := bpp) (j := k) HB.out.hi
      have HROW2 := Lib.hid hrow2
      clear hset hse hrow2
      by_cases hb : bpp ≤ k
      · obtain ⟨d, rfl⟩ : ∃ d, k = d + bpp := ⟨k - bpp, by omega⟩
        have hbi : (bpp : Int) ≤ (d : Int) + (bpp : Int) := by omega
        rw [lf_next, lf_next] at hkk
        rw [lf_next] at l0 l1 c0 cc1
        have hleft : wr.cell? ⟨q, d, none⟩ = some (.int .u8 (G d)) := by
          have := HR.out.cell (i := 0 + d) (by omega)
          rw [at8_in (by omega), Nat.zero_add] at this
          exact this
        have hcor : wr.cell? ⟨ba, d, none⟩ = some (.int .u8 (above d)) := by
          rw [HROW2.out.cell (by omega), HA.out _ (by omega)]
        have e1 : IntKind.i64.wrap (((d + bpp : Nat) : Int) - (bpp : Int)) = (d : Int) := by rw [IntWalk.i64_in _ (by omega)]; omega
        have hdi : (d : Int) < (size : Int) := by omega
        have hdi2 : (d : Int) < (n2 : Int) := by omega
        have HV : Hid (G (d + bpp) = raw (d + bpp)) := Lib.hid (by rw [hkk]; show (raw (d + bpp) + 0) % 256 = raw (d + bpp); omega)
        clear hkk HROW2
        have hz : Hid (wr.rowIs q 5 M (at8 F 0 ((d + bpp) + 1) G)) := Lib.hid (HR.out.congr fun i hi => by
          by_cases h2 : i = (d + bpp)
          · rw [h2, at8_out (by omega), HF.out _ hlt]
            have := at8_in (F := F) (o := 0) (n := (d + bpp) + 1) (f := G) (i := (d + bpp)) (by omega)
            rw [Nat.zero_add] at this
            rw [this, HV.out]
          · unfold at8
            by_cases h3 : i < (d + bpp)
            · rw [if_pos (by omega), if_pos (by omega)]
            · rw [if_neg (by omega), if_neg (by omega)])
        go_wp2_with fail
        go_quiet (fail)
        go_wp2_with fail
        go_roundw
        case rel => exact ⟨d + bpp + 1, by go_num, by omega, Lib.hid hz.out, Lib.hid ⟨HK.out.os, HK.out.tape, HK.out.output, HK.out.size, HK.out.block⟩⟩
        case measure => simp [intOf]; omega
      · have hbi : ¬ (bpp : Int) ≤ (k : Int) := by omega
        rw [lf_first (by omega), lf_first (by omega)] at hkk
        have HV : Hid (G k = raw k) := Lib.hid (by rw [hkk]; show (raw k + 0) % 256 = raw k; omega)
        clear hkk HROW2 l0 l1 c0 cc1
        have hz : Hid (wr.rowIs q 5 M (at8 F 0 (k + 1) G)) := Lib.hid (HR.out.congr fun i hi => by
          by_cases h2 : i = k
          · rw [h2, at8_out (by omega), HF.out _ hlt]
            have := at8_in (F := F) (o := 0) (n := k + 1) (f := G) (i := k) (by omega)
            rw [Nat.zero_add] at this
            rw [this, HV.out]
          · unfold at8
            by_cases h3 : i < k
            · rw [if_pos (by omega), if_pos (by omega)]
            · rw [if_neg (by omega), if_neg (by omega)])
        go_wp2_with fail
        go_roundw
        case rel => exact ⟨k + 1, by go_num, by omega, Lib.hid hz.out, Lib.hid ⟨HK.out.os, HK.out.tape, HK.out.output, HK.out.size, HK.out.block⟩⟩
        case measure => simp [intOf]; omega
    · obtain rfl : k = size := by omega
      have hki : ¬ (k : Int) < (k : Int) := by omega
      go_wp2_with fail
      go_ret
      exact ⟨rfl, HR.out, HK.out⟩

set_option maxHeartbeats 4000000 in
set_option maxRecDepth 100000 in
theorem png13_1 (size bpp : Nat) (h1 : 1 ≤ bpp) (hbs : bpp ≤ size) (hs : size ≤ 100000) (raw above : Nat → Int) (hraw : Bytes raw) (habv : Bytes above) (q ba M c1 n2 c2 : Nat) (F A : Nat → Value) (M2 : Nat) (w : World)
    (hr : w.rowIs q 5 M F) (hM : size ≤ M) (hF : ∀ i, i < size → F i = .int .u8 (raw i)) (ha : w.rowIs ba 5 M2 A) (hM2 : size ≤ M2) (hA : ∀ i, i < size → A i = .int .u8 (above i)) (hn2 : size ≤ n2) (hne : ba ≠ q) :
    Calls Tryd.prog 13 #[.int .i64 1, .slice (some ⟨q, 0, none⟩) size c1, .slice (some ⟨ba, 0, none⟩) n2 c2, .int .i64 bpp] w fun e w' =>
      e = .returned (.bool true) ∧ w'.rowIs q 5 M (at8 F 0 size (pv 1 bpp raw above)) ∧ Kept [q] w w' := by
  have hr0 : w.rowIs q 5 M (at8 F 0 0 (pv 1 bpp raw above)) := hr.congr fun i hi => (at8_out (by omega)).symm
  have HR0 := Lib.hid hr0
  have HF := Lib.hid hF
  have HA := Lib.hid hA
  have HRA := Lib.hid ha
  have HW := Lib.hid hraw
  have HB := Lib.hid habv
  have hk := Lib.hid fun j => pv_lf 1 bpp h1 raw above j
  have hge := Lib.hid fun i => pv_ge 1 bpp raw above i
  have hle := Lib.hid fun i => pv_le 1 bpp raw above i
  clear hr hr0 hF ha hA hraw habv
  generalize pv 1 bpp raw above = G at *
  go_enter Tryd.func13, Tryd.ntmps13
  go_wp2_with fail
  go_loopw [15] (fun i wr => ∃ k : Nat, i = .int .i64 (k : Int) ∧ k ≤ size ∧ Hid (wr.rowIs q 5 M (at8 F 0 k G)) ∧ Hid (Kept [q] w wr)) (fun i _ => size - (intOf i).toNat)
  case atStart => exact ⟨0, rfl, by omega, HR0, Lib.hid (Kept.refl _ _)⟩
  case round =>
    obtain ⟨k, rfl, hks, HR, HK⟩ := hrel
    by_cases hlt : k < size
    · have hki : (k : Int) < (size : Int) := by omega
      have hki2 : (k : Int) < (n2 : Int) := by omega
      have hcell : wr.cell? ⟨q, k, none⟩ = some (.int .u8 (raw k)) := by
        rw [HR.out.cell (by omega), at8_out (by omega), HF.out _ hlt]
      have hrow2 := HK.out.row HRA.out (by simpa using hne)
      have hup : wr.cell? ⟨ba, k, none⟩ = some (.int .u8 (above k)) := by
        rw [hrow2.cell (by omega), HA.out _ hlt]
      have hfz := HR.out.frozen k
      have hset := HR.out.set k (.int .u8 (G k))
      have hse := at8_set F 0 k G
      rw [Nat.zero_add] at hse
      rw [hse] at hset
      have HSET := Lib.hid hset
      have HK2 := Lib.hid (HK.out.setCell (p := ⟨q, k, none⟩) (by simp) (.int .u8 (G k)))
      have r0 := HW.out.lo k
      have r1 := HW.out.hi k
      have u0 := HB.out.lo k
      have u1 := HB.out.hi k
      have hkk := hk.out k
      have l0 := lf_ge (bpp := bpp) (j := k) hge.out
      have l1 := lf_le (bpp := bpp) (j := k) hle.out
      have c0 := lf_ge (bpp := bpp) (j := k) HB.out.lo
      have cc1 := lf_le (bpp := bpp) (j := k) HB.out.hi
      have HROW2 := Lib.hid hrow2
      clear hset hse hrow2
      by_cases hb : bpp ≤ k
      · obtain ⟨d, rfl⟩ : ∃ d, k = d + bpp := ⟨k - bpp, by omega⟩
        have hbi : (bpp : Int) ≤ (d : Int) + (bpp : Int) := by omega
        rw [lf_next, lf_next] at hkk
        rw [lf_next] at l0 l1 c0 cc1
        have hleft : wr.cell? ⟨q, d, none⟩ = some (.int .u8 (G d)) := by
          have := HR.out.cell (i := 0 + d) (by omega)
          rw [at8_in (by omega), Nat.zero_add] at this
          exact this
        have hcor : wr.cell? ⟨ba, d, none⟩ = some (.int .u8 (above d)) := by
          rw [HROW2.out.cell (by omega), HA.out _ (by omega)]
        have e1 : IntKind.i64.wrap (((d + bpp : Nat) : Int) - (bpp : Int)) = (d : Int) := by rw [IntWalk.i64_in _ (by omega)]; omega
        have hdi : (d : Int) < (size : Int) := by omega
        have hdi2 : (d : Int) < (n2 : Int) := by omega
        have HV : Hid ((raw (d + bpp) + G d) % 256 = G (d + bpp)) := Lib.hid (by rw [hkk]; rfl)
        clear hkk HROW2
        go_wp2_with fail
        go_quiet (fail)
        go_wp2_with fail
        go_roundw
        case rel => exact ⟨d + bpp + 1, by go_num, by omega, by rw [HV.out]; exact Lib.hid HSET.out, by rw [HV.out]; exact Lib.hid ⟨HK2.out.os, HK2.out.tape, HK2.out.output, HK2.out.size, HK2.out.block⟩⟩
        case measure => simp [intOf]; omega
      · have hbi : ¬ (bpp : Int) ≤ (k : Int) := by omega
        rw [lf_first (by omega), lf_first (by omega)] at hkk
        have HV : Hid (raw k = G k) := Lib.hid (by rw [hkk]; show _ = (raw k + 0) % 256; omega)
        clear hkk HROW2 l0 l1 c0 cc1
        go_wp2_with fail
        go_roundw
        case rel => exact ⟨k + 1, by go_num, by omega, by rw [HV.out]; exact Lib.hid HSET.out, by rw [HV.out]; exact Lib.hid ⟨HK2.out.os, HK2.out.tape, HK2.out.output, HK2.out.size, HK2.out.block⟩⟩
        case measure => simp [intOf]; omega
    · obtain rfl : k = size := by omega
      have hki : ¬ (k : Int) < (k : Int) := by omega
      go_wp2_with fail
      go_ret
      exact ⟨rfl, HR.out, HK.out⟩

set_option maxHeartbeats 4000000 in
set_option maxRecDepth 100000 in
theorem png13_2 (size bpp : Nat) (h1 : 1 ≤ bpp) (hbs : bpp ≤ size) (hs : size ≤ 100000) (raw above : Nat → Int) (hraw : Bytes raw) (habv : Bytes above) (q ba M c1 n2 c2 : Nat) (F A : Nat → Value) (M2 : Nat) (w : World)
    (hr : w.rowIs q 5 M F) (hM : size ≤ M) (hF : ∀ i, i < size → F i = .int .u8 (raw i)) (ha : w.rowIs ba 5 M2 A) (hM2 : size ≤ M2) (hA : ∀ i, i < size → A i = .int .u8 (above i)) (hn2 : size ≤ n2) (hne : ba ≠ q) :
    Calls Tryd.prog 13 #[.int .i64 2, .slice (some ⟨q, 0, none⟩) size c1, .slice (some ⟨ba, 0, none⟩) n2 c2, .int .i64 bpp] w fun e w' =>
      e = .returned (.bool true) ∧ w'.rowIs q 5 M (at8 F 0 size (pv 2 bpp raw above)) ∧ Kept [q] w w' := by
  have hr0 : w.rowIs q 5 M (at8 F 0 0 (pv 2 bpp raw above)) := hr.congr fun i hi => (at8_out (by omega)).symm
  have HR0 := Lib.hid hr0
  have HF := Lib.hid hF
  have HA := Lib.hid hA
  have HRA := Lib.hid ha
  have HW := Lib.hid hraw
  have HB := Lib.hid habv
  have hk := Lib.hid fun j => pv_lf 2 bpp h1 raw above j
  have hge := Lib.hid fun i => pv_ge 2 bpp raw above i
  have hle := Lib.hid fun i => pv_le 2 bpp raw above i
  clear hr hr0 hF ha hA hraw habv
  generalize pv 2 bpp raw above = G at *
  go_enter Tryd.func13, Tryd.ntmps13
  go_wp2_with fail
  go_loopw [15] (fun i wr => ∃ k : Nat, i = .int .i64 (k : Int) ∧ k ≤ size ∧ Hid (wr.rowIs q 5 M (at8 F 0 k G)) ∧ Hid (Kept [q] w wr)) (fun i _ => size - (intOf i).toNat)
  case atStart => exact ⟨0, rfl, by omega, HR0, Lib.hid (Kept.refl _ _)⟩
  case round =>
    obtain ⟨k, rfl, hks, HR, HK⟩ := hrel
    by_cases hlt : k < size
    · have hki : (k : Int) < (size : Int) := by omega
      have hki2 : (k : Int) < (n2 : Int) := by omega
      have hcell : wr.cell? ⟨q, k, none⟩ = some (.int .u8 (raw k)) := by
        rw [HR.out.cell (by omega), at8_out (by omega), HF.out _ hlt]
      have hrow2 := HK.out.row HRA.out (by simpa using hne)
      have hup : wr.cell? ⟨ba, k, none⟩ = some (.int .u8 (above k)) := by
        rw [hrow2.cell (by omega), HA.out _ hlt]
      have hfz := HR.out.frozen k
      have hset := HR.out.set k (.int .u8 (G k))
      have hse := at8_set F 0 k G
      rw [Nat.zero_add] at hse
      rw [hse] at hset
      have HSET := Lib.hid hset
      have HK2 := Lib.hid (HK.out.setCell (p := ⟨q, k, none⟩) (by simp) (.int .u8 (G k)))
      have r0 := HW.out.lo k
      have r1 := HW.out.hi k
      have u0 := HB.out.lo k
      have u1 := HB.out.hi k
      have hkk := hk.out k
      have l0 := lf_ge (bpp := bpp) (j := k) hge.out
      have l1 := lf_le (bpp := bpp) (j := k) hle.out
      have c0 := lf_ge (bpp := bpp) (j := k) HB.out.lo
      have cc1 := lf_le (bpp := bpp) (j := k) HB.out.hi
      have HROW2 := Lib.hid hrow2
      clear hset hse hrow2
      by_cases hb : bpp ≤ k
      · obtain ⟨d, rfl⟩ : ∃ d, k = d + bpp := ⟨k - bpp, by omega⟩
        have hbi : (bpp : Int) ≤ (d : Int) + (bpp : Int) := by omega
        rw [lf_next, lf_next] at hkk
        rw [lf_next] at l0 l1 c0 cc1
        have hleft : wr.cell? ⟨q, d, none⟩ = some (.int .u8 (G d)) := by
          have := HR.out.cell (i := 0 + d) (by omega)
          rw [at8_in (by omega), Nat.zero_add] at this
          exact this
        have hcor : wr.cell? ⟨ba, d, none⟩ = some (.int .u8 (above d)) := by
          rw [HROW2.out.cell (by omega), HA.out _ (by omega)]
        have e1 : IntKind.i64.wrap (((d + bpp : Nat) : Int) - (bpp : Int)) = (d : Int) := by rw [IntWalk.i64_in _ (by omega)]; omega
        have hdi : (d : Int) < (size : Int) := by omega
        have hdi2 : (d : Int) < (n2 : Int) := by omega
        have HV : Hid ((raw (d + bpp) + above (d + bpp)) % 256 = G (d + bpp)) := Lib.hid (by rw [hkk]; rfl)
        clear hkk HROW2
        go_wp2_with fail
        go_quiet (fail)
        go_wp2_with fail
        go_roundw
        case rel => exact ⟨d + bpp + 1, by go_num, by omega, by rw [HV.out]; exact Lib.hid HSET.out, by rw [HV.out]; exact Lib.hid ⟨HK2.out.os, HK2.out.tape, HK2.out.output, HK2.out.size, HK2.out.block⟩⟩
        case measure => simp [intOf]; omega
      · have hbi : ¬ (bpp : Int) ≤ (k : Int) := by omega
        rw [lf_first (by omega), lf_first (by omega)] at hkk
        have HV : Hid ((raw k + above k) % 256 = G k) := Lib.hid (by rw [hkk]; rfl)
        clear hkk HROW2 l0 l1 c0 cc1
        go_wp2_with fail
        go_roundw
        case rel => exact ⟨k + 1, by go_num, by omega, by rw [HV.out]; exact Lib.hid HSET.out, by rw [HV.out]; exact Lib.hid ⟨HK2.out.os, HK2.out.tape, HK2.out.output, HK2.out.size, HK2.out.block⟩⟩
        case measure => simp [intOf]; omega
    · obtain rfl : k = size := by omega
      have hki : ¬ (k : Int) < (k : Int) := by omega
      go_wp2_with fail
      go_ret
      exact ⟨rfl, HR.out, HK.out⟩

set_option maxHeartbeats 4000000 in
set_option maxRecDepth 100000 in
theorem png13_3 (size bpp : Nat) (h1 : 1 ≤ bpp) (hbs : bpp ≤ size) (hs : size ≤ 100000) (raw above : Nat → Int) (hraw : Bytes raw) (habv : Bytes above) (q ba M c1 n2 c2 : Nat) (F A : Nat → Value) (M2 : Nat) (w : World)
    (hr : w.rowIs q 5 M F) (hM : size ≤ M) (hF : ∀ i, i < size → F i = .int .u8 (raw i)) (ha : w.rowIs ba 5 M2 A) (hM2 : size ≤ M2) (hA : ∀ i, i < size → A i = .int .u8 (above i)) (hn2 : size ≤ n2) (hne : ba ≠ q) :
    Calls Tryd.prog 13 #[.int .i64 3, .slice (some ⟨q, 0, none⟩) size c1, .slice (some ⟨ba, 0, none⟩) n2 c2, .int .i64 bpp] w fun e w' =>
      e = .returned (.bool true) ∧ w'.rowIs q 5 M (at8 F 0 size (pv 3 bpp raw above)) ∧ Kept [q] w w' := by
  have hr0 : w.rowIs q 5 M (at8 F 0 0 (pv 3 bpp raw above)) := hr.congr fun i hi => (at8_out (by omega)).symm
  have HR0 := Lib.hid hr0
  have HF := Lib.hid hF
  have HA := Lib.hid hA
  have HRA := Lib.hid ha
  have HW := Lib.hid hraw
  have HB := Lib.hid habv
  have hk := Lib.hid fun j => pv_lf 3 bpp h1 raw above j
  have hge := Lib.hid fun i => pv_ge 3 bpp raw above i
  have hle := Lib.hid fun i => pv_le 3 bpp raw above i
  clear hr hr0 hF ha hA hraw habv
  generalize pv 3 bpp raw above = G at *
  go_enter Tryd.func13, Tryd.ntmps13
  go_wp2_with fail
  go_loopw [15] (fun i wr => ∃ k : Nat, i = .int .i64 (k : Int) ∧ k ≤ size ∧ Hid (wr.rowIs q 5 M (at8 F 0 k G)) ∧ Hid (Kept [q] w wr)) (fun i _ => size - (intOf i).toNat)
  case atStart => exact ⟨0, rfl, by omega, HR0, Lib.hid (Kept.refl _ _)⟩
  case round =>
    obtain ⟨k, rfl, hks, HR, HK⟩ := hrel
    by_cases hlt : k < size
    · have hki : (k : Int) < (size : Int) := by omega
      have hki2 : (k : Int) < (n2 : Int) := by omega
      have hcell : wr.cell? ⟨q, k, none⟩ = some (.int .u8 (raw k)) := by
        rw [HR.out.cell (by omega), at8_out (by omega), HF.out _ hlt]
      have hrow2 := HK.out.row HRA.out (by simpa using hne)
      have hup : wr.cell? ⟨ba, k, none⟩ = some (.int .u8 (above k)) := by
        rw [hrow2.cell (by omega), HA.out _ hlt]
      have hfz := HR.out.frozen k
      have hset := HR.out.set k (.int .u8 (G k))
      have hse := at8_set F 0 k G
      rw [Nat.zero_add] at hse
      rw [hse] at hset
      have HSET := Lib.hid hset
      have HK2 := Lib.hid (HK.out.setCell (p := ⟨q, k, none⟩) (by simp) (.int .u8 (G k)))
      have r0 := HW.out.lo k
      have r1 := HW.out.hi k
      have u0 := HB.out.lo k
      have u1 := HB.out.hi k
      have hkk := hk.out k
      have l0 := lf_ge (bpp := bpp) (j := k) hge.out
      have l1 := lf_le (bpp := bpp) (j := k) hle.out
      have c0 := lf_ge (bpp := bpp) (j := k) HB.out.lo
      have cc1 := lf_le (bpp := bpp) (j := k) HB.out.hi
      have HROW2 := Lib.hid hrow2
      clear hset hse hrow2
      by_cases hb : bpp ≤ k
      · obtain ⟨d, rfl⟩ : ∃ d, k = d + bpp := ⟨k - bpp, by omega⟩
        have hbi : (bpp : Int) ≤ (d : Int) + (bpp : Int) := by omega
        rw [lf_next, lf_next] at hkk
        rw [lf_next] at l0 l1 c0 cc1
        have hleft : wr.cell? ⟨q, d, none⟩ = some (.int .u8 (G d)) := by
          have := HR.out.cell (i := 0 + d) (by omega)
          rw [at8_in (by omega), Nat.zero_add] at this
          exact this
        have hcor : wr.cell? ⟨ba, d, none⟩ = some (.int .u8 (above d)) := by
          rw [HROW2.out.cell (by omega), HA.out _ (by omega)]
        have e1 : IntKind.i64.wrap (((d + bpp : Nat) : Int) - (bpp : Int)) = (d : Int) := by rw [IntWalk.i64_in _ (by omega)]; omega
        have hdi : (d : Int) < (size : Int) := by omega
        have hdi2 : (d : Int) < (n2 : Int) := by omega
        have HV : Hid ((raw (d + bpp) + (G d + above (d + bpp)) / 2) % 256 = G (d + bpp)) := Lib.hid (by rw [hkk]; rfl)
        clear hkk HROW2
        go_wp2_with fail
        go_quiet (fail)
        go_wp2_with fail
        go_roundw
        case rel => exact ⟨d + bpp + 1, by go_num, by omega, by rw [HV.out]; exact Lib.hid HSET.out, by rw [HV.out]; exact Lib.hid ⟨HK2.out.os, HK2.out.tape, HK2.out.output, HK2.out.size, HK2.out.block⟩⟩
        case measure => simp [intOf]; omega
      · have hbi : ¬ (bpp : Int) ≤ (k : Int) := by omega
        rw [lf_first (by omega), lf_first (by omega)] at hkk
        have HV : Hid ((raw k + above k / 2) % 256 = G k) := Lib.hid (by rw [hkk]; show _ = (raw k + (0 + above k) / 2) % 256; rw [Int.zero_add])
        clear hkk HROW2 l0 l1 c0 cc1
        go_wp2_with fail
        go_roundw
        case rel => exact ⟨k + 1, by go_num, by omega, by rw [HV.out]; exact Lib.hid HSET.out, by rw [HV.out]; exact Lib.hid ⟨HK2.out.os, HK2.out.tape, HK2.out.output, HK2.out.size, HK2.out.block⟩⟩
        case measure => simp [intOf]; omega
    · obtain rfl : k = size := by omega
      have hki : ¬ (k : Int) < (k : Int) := by omega
      go_wp2_with fail
      go_ret
      exact ⟨rfl, HR.out, HK.out⟩

set_option maxHeartbeats 4000000 in
set_option maxRecDepth 100000 in
theorem png13_4 (size bpp : Nat) (h1 : 1 ≤ bpp) (hbs : bpp ≤ size) (hs : size ≤ 100000) (raw above : Nat → Int) (hraw : Bytes raw) (habv : Bytes above) (q ba M c1 n2 c2 : Nat) (F A : Nat → Value) (M2 : Nat) (w : World)
    (hr : w.rowIs q 5 M F) (hM : size ≤ M) (hF : ∀ i, i < size → F i = .int .u8 (raw i)) (ha : w.rowIs ba 5 M2 A) (hM2 : size ≤ M2) (hA : ∀ i, i < size → A i = .int .u8 (above i)) (hn2 : size ≤ n2) (hne : ba ≠ q) :
    Calls Tryd.prog 13 #[.int .i64 4, .slice (some ⟨q, 0, none⟩) size c1, .slice (some ⟨ba, 0, none⟩) n2 c2, .int .i64 bpp] w fun e w' =>
      e = .returned (.bool true) ∧ w'.rowIs q 5 M (at8 F 0 size (pv 4 bpp raw above)) ∧ Kept [q] w w' := by
  have hr0 : w.rowIs q 5 M (at8 F 0 0 (pv 4 bpp raw above)) := hr.congr fun i hi => (at8_out (by omega)).symm
  have HR0 := Lib.hid hr0
  have HF := Lib.hid hF
  have HA := Lib.hid hA
  have HRA := Lib.hid ha
  have HW := Lib.hid hraw
  have HB := Lib.hid habv
  have hk := Lib.hid fun j => pv_lf 4 bpp h1 raw above j
  have hge := Lib.hid fun i => pv_ge 4 bpp raw above i
  have hle := Lib.hid fun i => pv_le 4 bpp raw above i
  clear hr hr0 hF ha hA hraw habv
  generalize pv 4 bpp raw above = G at *
  go_enter Tryd.func13, Tryd.ntmps13
  go_wp2_with fail
  go_loopw [15] (fun i wr => ∃ k : Nat, i = .int .i64 (k : Int) ∧ k ≤ size ∧ Hid (wr.rowIs q 5 M (at8 F 0 k G)) ∧ Hid (Kept [q] w wr)) (fun i _ => size - (intOf i).toNat)
  case atStart => exact ⟨0, rfl, by omega, HR0, Lib.hid (Kept.refl _ _)⟩
  case round =>
    obtain ⟨k, rfl, hks, HR, HK⟩ := hrel
    by_cases hlt : k < size
    · have hki : (k : Int) < (size : Int) := by omega
      have hki2 : (k : Int) < (n2 : Int) := by omega
      have hcell : wr.cell? ⟨q, k, none⟩ = some (.int .u8 (raw k)) := by
        rw [HR.out.cell (by omega), at8_out (by omega), HF.out _ hlt]
      have hrow2 := HK.out.row HRA.out (by simpa using hne)
      have hup : wr.cell? ⟨ba, k, none⟩ = some (.int .u8 (above k)) := by
        rw [hrow2.cell (by omega), HA.out _ hlt]
      have hfz := HR.out.frozen k
      have hset := HR.out.set k (.int .u8 (G k))
      have hse := at8_set F 0 k G
      rw [Nat.zero_add] at hse
      rw [hse] at hset
      have HSET := Lib.hid hset
      have HK2 := Lib.hid (HK.out.setCell (p := ⟨q, k, none⟩) (by simp) (.int .u8 (G k)))
      have r0 := HW.out.lo k
      have r1 := HW.out.hi k
      have u0 := HB.out.lo k
      have u1 := HB.out.hi k
      have hkk := hk.out k
      have l0 := lf_ge (bpp := bpp) (j := k) hge.out
      have l1 := lf_le (bpp := bpp) (j := k) hle.out
      have c0 := lf_ge (bpp := bpp) (j := k) HB.out.lo
      have cc1 := lf_le (bpp := bpp) (j := k) HB.out.hi
      have HROW2 := Lib.hid hrow2
      clear hset hse hrow2
      by_cases hb : bpp ≤ k
      · obtain ⟨d, rfl⟩ : ∃ d, k = d + bpp := ⟨k - bpp, by omega⟩
        have hbi : (bpp : Int) ≤ (d : Int) + (bpp : Int) := by omega
        rw [lf_next, lf_next] at hkk
        rw [lf_next] at l0 l1 c0 cc1
        have hleft : wr.cell? ⟨q, d, none⟩ = some (.int .u8 (G d)) := by
          have := HR.out.cell (i := 0 + d) (by omega)
          rw [at8_in (by omega), Nat.zero_add] at this
          exact this
        have hcor : wr.cell? ⟨ba, d, none⟩ = some (.int .u8 (above d)) := by
          rw [HROW2.out.cell (by omega), HA.out _ (by omega)]
        have e1 : IntKind.i64.wrap (((d + bpp : Nat) : Int) - (bpp : Int)) = (d : Int) := by rw [IntWalk.i64_in _ (by omega)]; omega
        have hdi : (d : Int) < (size : Int) := by omega
        have hdi2 : (d : Int) < (n2 : Int) := by omega
        have HV : Hid ((raw (d + bpp) + paeth (G d) (above (d + bpp)) (above d)) % 256 = G (d + bpp)) := Lib.hid (by rw [hkk]; rfl)
        clear hkk HROW2
        have p0 : 0 ≤ paeth (G d) (above (d + bpp)) (above d) := pred_ge 4 _ _ _ (by unfold Tag; omega) (by omega) (by omega) (by omega)
        have p1 : paeth (G d) (above (d + bpp)) (above d) ≤ 255 := pred_le 4 _ _ _ (by unfold Tag; omega) (by omega) (by omega) (by omega)
        go_wp2_with fail
        go_quiet (fail)
        go_wp2_with fail
        obtain ⟨V, hV⟩ : ∃ V, wr.drewN nq = V := ⟨_, rfl⟩
        rw [hV]
        have v1 : V.cell? ⟨q, (d + bpp), none⟩ = some (.int .u8 (raw (d + bpp))) := by rw [← hV]; exact hcell
        have v2 : V.frozen? ⟨q, (d + bpp), none⟩ = false := by rw [← hV]; exact hfz
        have HVV := Lib.hid hV
        clear hcell hfz hV hup
        have i1 : (d : Int) + (bpp : Int) < (size : Int) := by omega
        have i2 : (0 : Int) ≤ (d : Int) + (bpp : Int) := by omega
        have i3 : ((d : Int) + (bpp : Int)).toNat = d + bpp := by omega
        go_region_with (go_at_call 21; refine (paeth21 _ _ _ (by omega) (by omega) (by omega) (by omega) (by omega) (by omega) _).mono ?_; rintro e w2 ⟨rfl, rfl⟩)
        all_goals
          go_wp2_with fail
          go_roundw
          case rel => exact ⟨d + bpp + 1, by go_num, by omega, by rw [HV.out, ← HVV.out]; exact Lib.hid HSET.out, by rw [HV.out, ← HVV.out]; exact Lib.hid ⟨HK2.out.os, HK2.out.tape, HK2.out.output, HK2.out.size, HK2.out.block⟩⟩
          case measure => simp [intOf]; omega
      · have hbi : ¬ (bpp : Int) ≤ (k : Int) := by omega
        rw [lf_first (by omega), lf_first (by omega)] at hkk
        have HV : Hid ((raw k + paeth 0 (above k) 0) % 256 = G k) := Lib.hid (by rw [hkk]; rfl)
        clear hkk HROW2 l0 l1 c0 cc1
        have p0 : 0 ≤ paeth 0 (above k) 0 := pred_ge 4 _ _ _ (by unfold Tag; omega) (by omega) (by omega) (by omega)
        have p1 : paeth 0 (above k) 0 ≤ 255 := pred_le 4 _ _ _ (by unfold Tag; omega) (by omega) (by omega) (by omega)
        go_wp2_with fail
        obtain ⟨V, hV⟩ : ∃ V, wr = V := ⟨_, rfl⟩
        rw [hV]
        have v1 : V.cell? ⟨q, k, none⟩ = some (.int .u8 (raw k)) := by rw [← hV]; exact hcell
        have v2 : V.frozen? ⟨q, k, none⟩ = false := by rw [← hV]; exact hfz
        have HVV := Lib.hid hV
        clear hcell hfz hV hup
        go_region_with (go_at_call 21; refine (paeth21 _ _ _ (by omega) (by omega) (by omega) (by omega) (by omega) (by omega) _).mono ?_; rintro e w2 ⟨rfl, rfl⟩)
        all_goals
          go_wp2_with fail
          go_roundw
          case rel => exact ⟨k + 1, by go_num, by omega, by rw [HV.out, ← HVV.out]; exact Lib.hid HSET.out, by rw [HV.out, ← HVV.out]; exact Lib.hid ⟨HK2.out.os, HK2.out.tape, HK2.out.output, HK2.out.size, HK2.out.block⟩⟩
          case measure => simp [intOf]; omega
    · obtain rfl : k = size := by omega
      have hki : ¬ (k : Int) < (k : Int) := by omega
      go_wp2_with fail
      go_ret
      exact ⟨rfl, HR.out, HK.out⟩

theorem png13 (t : Int) (ht : Tag t) (size bpp : Nat) (h1 : 1 ≤ bpp) (hbs : bpp ≤ size) (hs : size ≤ 100000) (raw above : Nat → Int) (hraw : Bytes raw) (habv : Bytes above) (q ba M c1 n2 c2 : Nat) (F A : Nat → Value) (M2 : Nat) (w : World)
    (hr : w.rowIs q 5 M F) (hM : size ≤ M) (hF : ∀ i, i < size → F i = .int .u8 (raw i)) (ha : w.rowIs ba 5 M2 A) (hM2 : size ≤ M2) (hA : ∀ i, i < size → A i = .int .u8 (above i)) (hn2 : size ≤ n2) (hne : ba ≠ q) :
    Calls Tryd.prog 13 #[.int .i64 t, .slice (some ⟨q, 0, none⟩) size c1, .slice (some ⟨ba, 0, none⟩) n2 c2, .int .i64 bpp] w fun e w' =>
      e = .returned (.bool true) ∧ w'.rowIs q 5 M (at8 F 0 size (pv t bpp raw above)) ∧ Kept [q] w w' := by
  rcases ht with rfl | rfl | rfl | rfl | rfl
  · exact png13_0 size bpp h1 hbs hs raw above hraw habv q ba M c1 n2 c2 F A M2 w hr hM hF ha hM2 hA hn2 hne
  · exact png13_1 size bpp h1 hbs hs raw above hraw habv q ba M c1 n2 c2 F A M2 w hr hM hF ha hM2 hA hn2 hne
  · exact png13_2 size bpp h1 hbs hs raw above hraw habv q ba M c1 n2 c2 F A M2 w hr hM hF ha hM2 hA hn2 hne
  · exact png13_3 size bpp h1 hbs hs raw above hraw habv q ba M c1 n2 c2 F A M2 w hr hM hF ha hM2 hA hn2 hne
  · exact png13_4 size bpp h1 hbs hs raw above hraw habv q ba M c1 n2 c2 F A M2 w hr hM hF ha hM2 hA hn2 hne

set_option maxHeartbeats 2000000 in
set_option maxRecDepth 100000 in
theorem png13_no (t : Int) (ht : ¬ Tag t) (size bpp : Nat) (h1 : 1 ≤ bpp) (hbs : bpp ≤ size) (hs : size ≤ 100000) (raw above : Nat → Int) (q ba c1 n2 c2 : Nat) (w : World)
    (hr : w.cell? ⟨q, 0, none⟩ = some (.int .u8 (raw 0))) (ha : w.cell? ⟨ba, 0, none⟩ = some (.int .u8 (above 0))) (hn2 : size ≤ n2) :
    Calls Tryd.prog 13 #[.int .i64 t, .slice (some ⟨q, 0, none⟩) size c1, .slice (some ⟨ba, 0, none⟩) n2 c2, .int .i64 bpp] w fun e w' =>
      e = .returned (.bool false) ∧ w' = w := by
  have hk : (0 : Int) < (size : Int) := by omega
  have hk2 : (0 : Int) < (n2 : Int) := by omega
  have hk3 : ¬ (bpp : Int) ≤ 0 := by omega
  unfold Tag at ht
  have t0 : (t == 0) = false := by simp; omega
  have t1 : (t == 1) = false := by simp; omega
  have t2 : (t == 2) = false := by simp; omega
  have t3 : (t == 3) = false := by simp; omega
  have t4 : (t == 4) = false := by simp; omega
  go_enter Tryd.func13, Tryd.ntmps13
  go_wp2_with fail
  refine wp_loop_rounds 1 ?_
  rw [rounds_succ]
  go_wp2_with fail
  go_ret
  exact ⟨rfl, rfl⟩
end Go.Proofs.YtmihbmjillcjaaaDoor.up
