/-
  filter.applyHorDiff; processRow at the rows of TIFF's.
-/
import Derived.Test.YtmihbmjillcjaaaDoorUpp
namespace Go.Proofs.YtmihbmjillcjaaaDoor.up
set_option linter.unusedVariables false
set_option linter.unusedSimpArgs false
open Go.RowKit

/-- A row without a tag. -/
def r8 (f : Nat → Int) : Nat → Value := fun j => .int .u8 (f j)
theorem r8_set (f g : Nat → Int) (k : Nat) : (fun j => if j = k then Value.int .u8 (f k) else r8 (mx k f g) j) = r8 (mx (k + 1) f g) := by
  funext j
  unfold r8 mx
  by_cases h : j = k
  · subst h
    rw [if_pos rfl, if_pos (by omega)]
  · rw [if_neg h]
    by_cases h1 : j < k
    · rw [if_pos h1, if_pos (by omega)]
    · rw [if_neg h1, if_neg (by omega)]

set_option maxHeartbeats 4000000 in
set_option maxRecDepth 100000 in
theorem diff40 (colors columns size : Nat) (hsz : size = columns * colors) (h1 : 1 ≤ colors) (h2 : colors ≤ 8) (h3 : 1 ≤ columns) (h4 : columns ≤ 1000) (raw above : Nat → Int) (hraw : Bytes raw) (bc : Nat) (w : World)
    (hc : w.rowIs bc 5 size (r8 raw)) :
    Calls Tryd.prog 40 #[.slice (some ⟨bc, 0, none⟩) size size, .int .i64 colors] w fun e w' =>
      e = .returned (.tuple #[.slice (some ⟨bc, 0, none⟩) size size, .nilIface]) ∧ w'.rowIs bc 5 size (r8 (mx size (pv 1 colors raw above) raw)) ∧ w.grownBy w' (some bc) := by
  have hs : size ≤ 8000 := by rw [hsz]; exact Nat.le_trans (Nat.mul_le_mul h4 h2) (by omega)
  have hdiv : (size : Int) / (colors : Int) = (columns : Int) := by rw [hsz]; push_cast; exact Int.mul_ediv_cancel _ (by omega)
  have hr0 : w.rowIs bc 5 size (r8 (mx colors (pv 1 colors raw above) raw)) := hc.congr fun i hi => by
    unfold r8
    by_cases hic : i < colors
    · rw [mx_lt hic, pv_byte hraw i (by unfold pred; rw [if_pos rfl, dif_neg (by omega)])]
    · rw [mx_ge (by omega)]
  have HR0 := Lib.hid hr0
  have HS := Lib.hid hsz
  have hF := Lib.hid fun d => (pv_far (tag := 1) (raw := raw) (above := above) h1 (by omega : colors ≤ d + colors))
  have hge := Lib.hid fun i => pv_ge 1 colors raw above i
  have hle := Lib.hid fun i => pv_le 1 colors raw above i
  clear hr0 hc hraw hsz
  generalize pv 1 colors raw above = F at *
  go_enter Tryd.func40, Tryd.ntmps40
  go_wp2_with fail
  go_loopw [6] (fun i wr => ∃ q : Nat, i = .int .i64 ((q : Int) + 1) ∧ q + 1 ≤ columns ∧ Hid (wr.rowIs bc 5 size (r8 (mx (q * colors + colors) F raw))) ∧ Hid (w.grownBy wr (some bc))) (fun i _ => columns - (intOf i).toNat)
  case atStart => exact ⟨0, rfl, by omega, by rw [Nat.zero_mul, Nat.zero_add]; exact HR0, Lib.hid (grown_refl _ _)⟩
  case round =>
    obtain ⟨q, rfl, hq, HR, HG⟩ := hrel
    by_cases hlt : q + 1 < columns
    · have hki : (q : Int) + 1 < (columns : Int) := by omega
      obtain ⟨P, hP⟩ : ∃ P, q * colors = P := ⟨_, rfl⟩
      rw [hP] at HR
      have hPs : P + colors + colors ≤ size := by
        rw [HS.out, ← hP]
        have := Nat.mul_le_mul_right colors (show q + 1 + 1 ≤ columns by omega)
        rw [Nat.add_mul, Nat.add_mul] at this
        omega
      have e1 : ((q : Int) + 1) * (colors : Int) = (P : Int) + colors := by rw [Int.add_mul, ← hP]; push_cast; omega
      have e3 : (q : Int) * (colors : Int) = (P : Int) := by rw [← hP]; push_cast; rfl
      have HPq := Lib.hid hP
      clear hP
      go_wp2_with fail
      obtain ⟨wo, rfl⟩ : ∃ wo : World, wo = wr := ⟨_, rfl⟩
      go_loopw [17] (fun i wr => ∃ k : Nat, i = .int .i64 (k : Int) ∧ k ≤ colors ∧ Hid (wr.rowIs bc 5 size (r8 (mx (P + colors + k) F raw))) ∧ Hid (w.grownBy wr (some bc))) (fun i _ => colors - (intOf i).toNat)
      case atStart => exact ⟨0, rfl, by omega, HR, HG⟩
      case round =>
        obtain ⟨k, rfl, hk, HR, HG⟩ := hrel
        by_cases hlt2 : k < colors
        · have hki2 : (k : Int) < (colors : Int) := by omega
          have hcell : wr.cell? ⟨bc, P + colors + k, none⟩ = some (.int .u8 (raw (P + colors + k))) := by
            rw [HR.out.cell (by omega)]
            unfold r8
            rw [mx_ge (by omega)]
          have hcell2 : wr.cell? ⟨bc, P + k, none⟩ = some (.int .u8 (F (P + k))) := by
            rw [HR.out.cell (by omega)]
            unfold r8
            rw [mx_lt (by omega)]
          have hfz := HR.out.frozen (P + colors + k)
          have hset := HR.out.set (P + colors + k) (.int .u8 (F (P + colors + k)))
          rw [r8_set] at hset
          have HSET := Lib.hid hset
          have HG2 := Lib.hid (grown_set HG.out (P + colors + k) (.int .u8 (F (P + colors + k))))
          have hv : Hid ((raw (P + colors + k) + F (P + k)) % 256 = F (P + colors + k)) := Lib.hid (by
            have := hF.out (P + k)
            rw [show P + k + colors = P + colors + k by omega, show P + colors + k - colors = P + k by omega] at this
            exact this.symm)
          have e5 : IntKind.i64.wrap (((q : Int) + 1) * (colors : Int)) = ((P + colors : Nat) : Int) := by rw [e1, IntWalk.i64_in _ (by omega)]; omega
          have e6 : IntKind.i64.wrap ((q : Int) * (colors : Int)) = (P : Int) := by rw [e3, IntWalk.i64_in _ (by omega)]
          have e7 : IntKind.i64.wrap ((q : Int) + 1 - 1) = (q : Int) := by rw [IntWalk.i64_in _ (by omega)]; omega
          have e8 : IntKind.i64.wrap (((P + colors : Nat) : Int) + (k : Int)) = ((P + colors + k : Nat) : Int) := by rw [IntWalk.i64_in _ (by omega)]; omega
          have e9 : IntKind.i64.wrap ((P : Int) + (k : Int)) = ((P + k : Nat) : Int) := by rw [IntWalk.i64_in _ (by omega)]; omega
          clear hset e1 e3
          go_wp2_with fail
          go_region
          go_wp2_with fail
          go_roundw
          case rel => exact ⟨k + 1, by go_num, by omega, by rw [hv.out]; exact Lib.hid HSET.out.drew, by rw [hv.out]; exact Lib.hid (grown_drew HG2.out)⟩
          case measure => simp [intOf]; omega
        · obtain rfl : k = colors := by omega
          have HN : Hid (wr.rowIs bc 5 size (r8 (mx ((q + 1) * k + k) F raw))) := by rw [Nat.add_mul, HPq.out, Nat.one_mul]; exact HR
          go_wp2_with fail
          go_roundw
          case rel => first | exact ⟨q + 1, by go_num, by omega, HN, HG⟩ | ((repeat apply Exists.intro); refine ⟨?_, rfl⟩; exact ⟨q + 1, by go_num, by omega, HN, HG⟩)
          case measure => simp [intOf]; omega
    · obtain rfl : columns = q + 1 := by omega
      have hqc : q * colors + colors = size := by rw [HS.out, Nat.add_mul, Nat.one_mul]
      rw [hqc] at HR
      clear hqc
      go_wp2_with fail
      go_ret2
      exact ⟨rfl, HR.out, HG.out⟩

set_option maxHeartbeats 2000000 in
set_option maxRecDepth 100000 in
theorem row39_tiff (colors columns size : Nat) (bpp : Int) (pr : Value) (hsz : size = columns * colors) (h1 : 1 ≤ colors) (h2 : colors ≤ 8) (h3 : 1 ≤ columns) (h4 : columns ≤ 1000) (raw above : Nat → Int) (hraw : Bytes raw) (bc : Nat) (w : World)
    (hc : w.rowIs bc 5 size (r8 raw)) :
    Calls Tryd.prog 39 #[pr, .slice (some ⟨bc, 0, none⟩) size size, .int .i64 2, .int .i64 colors, .int .i64 bpp] w fun e w' =>
      e = .returned (.tuple #[.slice (some ⟨bc, 0, none⟩) size size, .nilIface]) ∧ w'.rowIs bc 5 size (r8 (mx size (pv 1 colors raw above) raw)) ∧ w.grownBy w' (some bc) := by
  have hP := Lib.hid (diff40 colors columns size hsz h1 h2 h3 h4 raw above hraw bc w hc)
  clear hc hraw hsz
  go_enter Tryd.func39, Tryd.ntmps39
  go_wp2_with (go_at_call 40; refine hP.out.mono ?_; rintro e w1 ⟨rfl, hr1, hg1⟩; refine Hid.out ?_)
  refine Lib.hid ?_
  have HR1 := Lib.hid hr1
  have HG1 := Lib.hid hg1
  clear hr1 hg1
  go_wp2_with fail
  go_ret2
  exact ⟨rfl, HR1.out, HG1.out⟩
end Go.Proofs.YtmihbmjillcjaaaDoor.up
