/-
  filter.processRow: the row's words; PNG's filters but Paeth.
-/
import Derived.Test.YtmihbmjillcjaaaDoorUpm
import Derived.Deep.OwnRows
import Derived.RegionTactic
import Derived.BigRegion
import Derived.ChangeAlike
import Derived.LoopTactic
import Derived.IntWalk
import Derived.Outline
namespace Go.Proofs.YtmihbmjillcjaaaDoor.up
set_option linter.unusedVariables false
set_option linter.unusedSimpArgs false
open Go.RowKit

/-- A row behind its tag. -/
def rw8 (t : Int) (f : Nat → Int) : Nat → Value := fun j => if j = 0 then .int .u8 t else .int .u8 (f (j - 1))
/-- The first n as f says, the others as g says. -/
def mx (n : Nat) (f g : Nat → Int) : Nat → Int := fun j => if j < n then f j else g j
theorem mx_lt {n j : Nat} {f g : Nat → Int} (h : j < n) : mx n f g j = f j := by unfold mx; rw [if_pos h]
theorem mx_ge {n j : Nat} {f g : Nat → Int} (h : n ≤ j) : mx n f g j = g j := by unfold mx; rw [if_neg (by omega)]
theorem rw8_at (t : Int) (f : Nat → Int) (k : Nat) : rw8 t f (1 + k) = .int .u8 (f k) := by
  unfold rw8
  rw [if_neg (by omega), Nat.add_sub_cancel_left]
theorem rw8_set (t : Int) (f g : Nat → Int) (k : Nat) : (fun j => if j = 1 + k then Value.int .u8 (f k) else rw8 t (mx k f g) j) = rw8 t (mx (k + 1) f g) := by
  funext j
  unfold rw8
  by_cases h : j = 1 + k
  · subst h
    rw [if_pos rfl, if_neg (by omega), Nat.add_sub_cancel_left, mx_lt (by omega)]
  · rw [if_neg h]
    by_cases h0 : j = 0
    · rw [if_pos h0, if_pos h0]
    · rw [if_neg h0, if_neg h0]
      unfold mx
      by_cases h1 : j - 1 < k
      · rw [if_pos h1, if_pos (by omega)]
      · rw [if_neg h1, if_neg (by omega)]

/-- Each is a byte. -/
structure Bytes (f : Nat → Int) : Prop where
  lo : ∀ i, 0 ≤ f i
  hi : ∀ i, f i ≤ 255

theorem grown_set {w wr : World} {b : Nat} (h : w.grownBy wr (some b)) (o : Nat) (v : Value) : w.grownBy (wr.setCell ⟨b, o, none⟩ v) (some b) := by
  refine ⟨h.os, h.tape, h.output, by simpa using h.size, fun k hk hne => ?_⟩
  rw [← h.block k hk hne]
  exact Go.Deep.blk_setCell_other _ _ _ _ (fun e => hne (by rw [e]))
theorem grown_refl (w : World) (r : Option Nat) : w.grownBy w r := ⟨rfl, rfl, rfl, Nat.le_refl _, fun _ _ _ => rfl⟩
theorem grown_drewN {w wr : World} {b : Option Nat} (h : w.grownBy wr b) (n : Nat) : w.grownBy (wr.drewN n) b := ⟨h.os, h.tape, h.output, h.size, h.block⟩

theorem grown_drew {w wr : World} {b : Option Nat} (h : w.grownBy wr b) : w.grownBy wr.drew b := ⟨h.os, h.tape, h.output, h.size, h.block⟩
theorem grown_row {w wr : World} {bc b n : Nat} {f : Nat → Value} (h : w.grownBy wr (some bc)) (hr : w.rowIs b 5 n f) (hne : b ≠ bc) : wr.rowIs b 5 n f :=
  hr.of_block (h.block b hr.lt (fun e => hne (Option.some.inj e)))

theorem pv_byte {tag : Int} {bpp : Nat} {raw above : Nat → Int} (hraw : Bytes raw) (i : Nat) (h : pred tag (if _h : 1 ≤ bpp ∧ bpp ≤ i then pv tag bpp raw above (i - bpp) else 0) (above i) (if bpp ≤ i then above (i - bpp) else 0) = 0) : pv tag bpp raw above i = raw i := by
  rw [pv, h, Int.add_zero]
  have := hraw.lo i
  have := hraw.hi i
  omega
theorem row_congr {t : Int} {f g : Nat → Int} {w : World} {b n : Nat} (h : w.rowIs b 5 (n + 1) (rw8 t f)) (e : ∀ i, i < n → f i = g i) : w.rowIs b 5 (n + 1) (rw8 t g) :=
  h.congr fun i hi => by
    unfold rw8
    by_cases h0 : i = 0
    · rw [if_pos h0, if_pos h0]
    · rw [if_neg h0, if_neg h0, e (i - 1) (by omega)]

set_option maxHeartbeats 2000000 in
set_option maxRecDepth 100000 in
theorem row39_none (p colors : Int) (size bpp : Nat) (hp : p ≠ 2) (h1 : 1 ≤ bpp) (hbs : bpp ≤ size) (hs : size ≤ 100000) (raw above : Nat → Int) (hraw : Bytes raw) (habv : Bytes above) (tp : Int) (bc bp : Nat) (w : World)
    (hc : w.rowIs bc 5 (size + 1) (rw8 0 raw)) (hpr : w.rowIs bp 5 (size + 1) (rw8 tp above)) (hne : bp ≠ bc) :
    Calls Tryd.prog 39 #[.slice (some ⟨bp, 0, none⟩) (size + 1) (size + 1), .slice (some ⟨bc, 0, none⟩) (size + 1) (size + 1), .int .i64 p, .int .i64 colors, .int .i64 bpp] w fun e w' =>
      e = .returned (.tuple #[.slice (some ⟨bc, 1, none⟩) size size, .nilIface]) ∧ w'.rowIs bc 5 (size + 1) (rw8 0 (mx size (pv 0 bpp raw above) raw)) ∧ w.grownBy w' (some bc) := by
  have hc0 : w.cell? ⟨bc, 0, none⟩ = some (.int .u8 0) := hc.cell (i := 0) (by omega)
  have hp2 : (p == 2) = false := by simpa using hp
  have hr0 := row_congr hc (g := mx size (pv 0 bpp raw above) raw) fun i hi => by
    rw [mx_lt hi, pv_byte hraw i (by unfold pred; rfl)]
  have HR0 := Lib.hid hr0
  clear hr0 hc hpr hp hraw habv
  go_enter Tryd.func39, Tryd.ntmps39
  go_wp2_with fail
  go_ret2
  exact ⟨rfl, HR0.out, grown_refl _ _⟩

set_option maxHeartbeats 2000000 in
set_option maxRecDepth 100000 in
theorem row39_sub (p colors : Int) (size bpp : Nat) (hp : p ≠ 2) (h1 : 1 ≤ bpp) (hbs : bpp ≤ size) (hs : size ≤ 100000) (raw above : Nat → Int) (hraw : Bytes raw) (habv : Bytes above) (tp : Int) (bc bp : Nat) (w : World)
    (hc : w.rowIs bc 5 (size + 1) (rw8 1 raw)) (hpr : w.rowIs bp 5 (size + 1) (rw8 tp above)) (hne : bp ≠ bc) :
    Calls Tryd.prog 39 #[.slice (some ⟨bp, 0, none⟩) (size + 1) (size + 1), .slice (some ⟨bc, 0, none⟩) (size + 1) (size + 1), .int .i64 p, .int .i64 colors, .int .i64 bpp] w fun e w' =>
      e = .returned (.tuple #[.slice (some ⟨bc, 1, none⟩) size size, .nilIface]) ∧ w'.rowIs bc 5 (size + 1) (rw8 1 (mx size (pv 1 bpp raw above) raw)) ∧ w.grownBy w' (some bc) := by
  have hc0 : w.cell? ⟨bc, 0, none⟩ = some (.int .u8 1) := hc.cell (i := 0) (by omega)
  have hp2 : (p == 2) = false := by simpa using hp
  have hr0 := row_congr hc (g := mx bpp (pv 1 bpp raw above) raw) fun i hi => by
    by_cases h2 : i < bpp
    · rw [mx_lt h2, pv_byte hraw i (by unfold pred; rw [if_pos rfl, dif_neg (by omega)])]
    · rw [mx_ge (by omega)]
  have HR0 := Lib.hid hr0
  clear hr0 hc hpr hp hraw habv
  go_enter Tryd.func39, Tryd.ntmps39
  go_wp2_with fail
  go_loopw [15] (fun i wr => ∃ k : Nat, i = .int .i64 (k : Int) ∧ bpp ≤ k ∧ k ≤ size ∧ Hid (wr.rowIs bc 5 (size + 1) (rw8 1 (mx k (pv 1 bpp raw above) raw))) ∧ Hid (w.grownBy wr (some bc))) (fun i _ => size - (intOf i).toNat)
  case atStart => exact ⟨bpp, rfl, by omega, hbs, HR0, Lib.hid (grown_refl _ _)⟩
  case round =>
    obtain ⟨k, rfl, hbk, hks, HR, HG⟩ := hrel
    by_cases hlt : k < size
    · have hki : (k : Int) < (size : Int) := by omega
      obtain ⟨d, rfl⟩ : ∃ d, k = d + bpp := ⟨k - bpp, by omega⟩
      have hcell : wr.cell? ⟨bc, 1 + (d + bpp), none⟩ = some (.int .u8 (raw (d + bpp))) := by
        rw [HR.out.cell (by omega), rw8_at, mx_ge (by omega)]
      have hcell2 : wr.cell? ⟨bc, 1 + d, none⟩ = some (.int .u8 (pv 1 bpp raw above d)) := by
        rw [HR.out.cell (by omega), rw8_at, mx_lt (by omega)]
      have hfz := HR.out.frozen (1 + (d + bpp))
      have hset := HR.out.set (1 + (d + bpp)) (.int .u8 (pv 1 bpp raw above (d + bpp)))
      rw [rw8_set] at hset
      have HSET := Lib.hid hset
      have HG2 := Lib.hid (grown_set HG.out (1 + (d + bpp)) (.int .u8 (pv 1 bpp raw above (d + bpp))))
      have e1 : IntKind.i64.wrap (((d + bpp : Nat) : Int) - (bpp : Int)) = (d : Int) := by rw [IntWalk.i64_in _ (by omega)]; omega
      have hq0 := pv_ge 1 bpp raw above d
      have hq1 := pv_le 1 bpp raw above d
      have hv : Hid ((raw (d + bpp) + pv 1 bpp raw above d) % 256 = pv 1 bpp raw above (d + bpp)) := Lib.hid (by
        rw [pv_far h1 (by omega : bpp ≤ d + bpp), Nat.add_sub_cancel]
        rfl)
      clear hset
      go_wp2_with fail
      go_region
      go_wp2_with fail
      go_roundw
      case rel => exact ⟨d + bpp + 1, by go_num, by omega, by omega, by rw [hv.out]; exact Lib.hid HSET.out.drew, by rw [hv.out]; exact Lib.hid (grown_drew HG2.out)⟩
      case measure => simp [intOf]; omega
    · obtain rfl : k = size := by omega
      go_wp2_with fail
      go_ret2
      exact ⟨rfl, HR.out, HG.out⟩

set_option maxHeartbeats 2000000 in
set_option maxRecDepth 100000 in
theorem row39_up (p colors : Int) (size bpp : Nat) (hp : p ≠ 2) (h1 : 1 ≤ bpp) (hbs : bpp ≤ size) (hs : size ≤ 100000) (raw above : Nat → Int) (hraw : Bytes raw) (habv : Bytes above) (tp : Int) (bc bp : Nat) (w : World)
    (hc : w.rowIs bc 5 (size + 1) (rw8 2 raw)) (hpr : w.rowIs bp 5 (size + 1) (rw8 tp above)) (hne : bp ≠ bc) :
    Calls Tryd.prog 39 #[.slice (some ⟨bp, 0, none⟩) (size + 1) (size + 1), .slice (some ⟨bc, 0, none⟩) (size + 1) (size + 1), .int .i64 p, .int .i64 colors, .int .i64 bpp] w fun e w' =>
      e = .returned (.tuple #[.slice (some ⟨bc, 1, none⟩) size size, .nilIface]) ∧ w'.rowIs bc 5 (size + 1) (rw8 2 (mx size (pv 2 bpp raw above) raw)) ∧ w.grownBy w' (some bc) := by
  have hc0 : w.cell? ⟨bc, 0, none⟩ = some (.int .u8 2) := hc.cell (i := 0) (by omega)
  have hp2 : (p == 2) = false := by simpa using hp
  have hr0 := row_congr hc (g := mx 0 (pv 2 bpp raw above) raw) fun i hi => (mx_ge (by omega)).symm
  have HR0 := Lib.hid hr0
  have HP := Lib.hid hpr
  have HA := Lib.hid habv
  clear hr0 hc hpr hp hraw habv
  go_enter Tryd.func39, Tryd.ntmps39
  go_wp2_with fail
  go_loopw [64] (fun i wr => ∃ k : Nat, i = .int .i64 (k : Int) ∧  k ≤ size ∧ Hid (wr.rowIs bc 5 (size + 1) (rw8 2 (mx k (pv 2 bpp raw above) raw))) ∧ Hid (w.grownBy wr (some bc))) (fun i _ => size - (intOf i).toNat)
  case atStart => exact ⟨0, rfl, by omega, HR0, Lib.hid (grown_refl _ _)⟩
  case round =>
    obtain ⟨k, rfl, hks, HR, HG⟩ := hrel
    by_cases hlt : k < size
    · have hki : (k : Int) < (size : Int) := by omega
      have hcell : wr.cell? ⟨bc, 1 + k, none⟩ = some (.int .u8 (raw k)) := by
        rw [HR.out.cell (by omega), rw8_at, mx_ge (by omega)]
      have hcell3 : wr.cell? ⟨bp, 1 + k, none⟩ = some (.int .u8 (above k)) := by
        rw [(grown_row HG.out HP.out hne).cell (by omega), rw8_at]
      have ha0 := HA.out.lo k
      have ha1 := HA.out.hi k
      have hfz := HR.out.frozen (1 + k)
      have hset := HR.out.set (1 + k) (.int .u8 (pv 2 bpp raw above k))
      rw [rw8_set] at hset
      have HSET := Lib.hid hset
      have HG2 := Lib.hid (grown_set HG.out (1 + k) (.int .u8 (pv 2 bpp raw above k)))
      have hv : Hid ((raw k + above k) % 256 = pv 2 bpp raw above k) := Lib.hid (by
        rw [pv]
        rfl)
      clear hset
      go_wp2_with fail
      go_roundw
      case rel => exact ⟨k + 1, by go_num, by omega, by rw [hv.out]; exact HSET, by rw [hv.out]; exact HG2⟩
      case measure => simp [intOf]; omega
    · obtain rfl : k = size := by omega
      go_wp2_with fail
      go_ret2
      exact ⟨rfl, HR.out, HG.out⟩

set_option maxHeartbeats 2000000 in
set_option maxRecDepth 100000 in
theorem row39_avg (p colors : Int) (size bpp : Nat) (hp : p ≠ 2) (h1 : 1 ≤ bpp) (hbs : bpp ≤ size) (hs : size ≤ 100000) (raw above : Nat → Int) (hraw : Bytes raw) (habv : Bytes above) (tp : Int) (bc bp : Nat) (w : World)
    (hc : w.rowIs bc 5 (size + 1) (rw8 3 raw)) (hpr : w.rowIs bp 5 (size + 1) (rw8 tp above)) (hne : bp ≠ bc) :
    Calls Tryd.prog 39 #[.slice (some ⟨bp, 0, none⟩) (size + 1) (size + 1), .slice (some ⟨bc, 0, none⟩) (size + 1) (size + 1), .int .i64 p, .int .i64 colors, .int .i64 bpp] w fun e w' =>
      e = .returned (.tuple #[.slice (some ⟨bc, 1, none⟩) size size, .nilIface]) ∧ w'.rowIs bc 5 (size + 1) (rw8 3 (mx size (pv 3 bpp raw above) raw)) ∧ w.grownBy w' (some bc) := by
  have hc0 : w.cell? ⟨bc, 0, none⟩ = some (.int .u8 3) := hc.cell (i := 0) (by omega)
  have hp2 : (p == 2) = false := by simpa using hp
  have hr0 := row_congr hc (g := mx 0 (pv 3 bpp raw above) raw) fun i hi => (mx_ge (by omega)).symm
  have HR0 := Lib.hid hr0
  have HP := Lib.hid hpr
  have HA := Lib.hid habv
  clear hr0 hc hpr hp hraw habv
  go_enter Tryd.func39, Tryd.ntmps39
  go_wp2_with fail
  go_loopw [80] (fun i wr => ∃ k : Nat, i = .int .i64 (k : Int) ∧  k ≤ bpp ∧ Hid (wr.rowIs bc 5 (size + 1) (rw8 3 (mx k (pv 3 bpp raw above) raw))) ∧ Hid (w.grownBy wr (some bc))) (fun i _ => bpp - (intOf i).toNat)
  case atStart => exact ⟨0, rfl, by omega, HR0, Lib.hid (grown_refl _ _)⟩
  case round =>
    obtain ⟨k, rfl, hks, HR, HG⟩ := hrel
    by_cases hlt : k < bpp
    · have hki : (k : Int) < (bpp : Int) := by omega
      have hki2 : (k : Int) < (size : Int) := by omega
      have hcell : wr.cell? ⟨bc, 1 + k, none⟩ = some (.int .u8 (raw k)) := by
        rw [HR.out.cell (by omega), rw8_at, mx_ge (by omega)]
      have hcell3 : wr.cell? ⟨bp, 1 + k, none⟩ = some (.int .u8 (above k)) := by
        rw [(grown_row HG.out HP.out hne).cell (by omega), rw8_at]
      have ha0 := HA.out.lo k
      have ha1 := HA.out.hi k
      have hfz := HR.out.frozen (1 + k)
      have hset := HR.out.set (1 + k) (.int .u8 (pv 3 bpp raw above k))
      rw [rw8_set] at hset
      have HSET := Lib.hid hset
      have HG2 := Lib.hid (grown_set HG.out (1 + k) (.int .u8 (pv 3 bpp raw above k)))
      have hv : Hid ((raw k + above k / 2) % 256 = pv 3 bpp raw above k) := Lib.hid (by
        rw [pv_near hlt]
        show _ = (raw k + (0 + above k) / 2) % 256
        rw [Int.zero_add])
      clear hset
      go_wp2_with fail
      go_region
      go_wp2_with fail
      go_roundw
      case rel => exact ⟨k + 1, by go_num, by omega, by rw [hv.out]; exact Lib.hid HSET.out.drew, by rw [hv.out]; exact Lib.hid (grown_drew HG2.out)⟩
      case measure => simp [intOf]; omega
    · obtain rfl : k = bpp := by omega
      go_wp2_with fail
      obtain ⟨wo, rfl⟩ : ∃ wo : World, wo = wr := ⟨_, rfl⟩
      go_loopw [19] (fun i wr => ∃ k0 : Nat, i = .int .i64 (k0 : Int) ∧ k ≤ k0 ∧ k0 ≤ size ∧ Hid (wr.rowIs bc 5 (size + 1) (rw8 3 (mx k0 (pv 3 k raw above) raw))) ∧ Hid (w.grownBy wr (some bc))) (fun i _ => size - (intOf i).toNat)
      case atStart => exact ⟨k, rfl, by omega, by omega, HR, HG⟩
      case round =>
        obtain ⟨k0, rfl, hbk, hks, HR, HG⟩ := hrel
        by_cases hlt : k0 < size
        · have hki : (k0 : Int) < (size : Int) := by omega
          obtain ⟨d, rfl⟩ : ∃ d, k0 = d + k := ⟨k0 - k, by omega⟩
          have hcell : wr.cell? ⟨bc, 1 + (d + k), none⟩ = some (.int .u8 (raw (d + k))) := by
            rw [HR.out.cell (by omega), rw8_at, mx_ge (by omega)]
          have hcell2 : wr.cell? ⟨bc, 1 + d, none⟩ = some (.int .u8 (pv 3 k raw above d)) := by
            rw [HR.out.cell (by omega), rw8_at, mx_lt (by omega)]
          have hcell3 : wr.cell? ⟨bp, 1 + (d + k), none⟩ = some (.int .u8 (above (d + k))) := by
            rw [(grown_row HG.out HP.out hne).cell (by omega), rw8_at]
          have ha0 := HA.out.lo (d + k)
          have ha1 := HA.out.hi (d + k)
          have hfz := HR.out.frozen (1 + (d + k))
          have hset := HR.out.set (1 + (d + k)) (.int .u8 (pv 3 k raw above (d + k)))
          rw [rw8_set] at hset
          have HSET := Lib.hid hset
          have HG2 := Lib.hid (grown_set HG.out (1 + (d + k)) (.int .u8 (pv 3 k raw above (d + k))))
          have e1 : IntKind.i64.wrap (((d + k : Nat) : Int) - (k : Int)) = (d : Int) := by rw [IntWalk.i64_in _ (by omega)]; omega
          have hq0 := pv_ge 3 k raw above d
          have hq1 := pv_le 3 k raw above d
          have hv : Hid ((raw (d + k) + (pv 3 k raw above d + above (d + k)) / 2) % 256 = pv 3 k raw above (d + k)) := Lib.hid (by
            rw [pv_far h1 (by omega : k ≤ d + k), Nat.add_sub_cancel]
            rfl)
          clear hset
          go_wp2_with fail
          go_region
          go_wp2_with fail
          go_roundw
          case rel => exact ⟨d + k + 1, by go_num, by omega, by omega, by rw [hv.out]; exact Lib.hid HSET.out.drew, by rw [hv.out]; exact Lib.hid (grown_drew HG2.out)⟩
          case measure => simp [intOf]; omega
        · obtain rfl : k0 = size := by omega
          go_wp2_with fail
          go_ret2
          exact ⟨rfl, HR.out, HG.out⟩
end Go.Proofs.YtmihbmjillcjaaaDoor.up
