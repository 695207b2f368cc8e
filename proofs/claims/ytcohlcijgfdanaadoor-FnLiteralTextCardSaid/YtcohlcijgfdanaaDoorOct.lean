/-
  Contracts of ParseUint at base 8 and 16 bits for at most three bytes, and of the functions that lean on it.
-/
import Derived.Test.YtcohlcijgfdanaaDoorRows
import Derived.Lib.Strings
import Derived.Lib.Walk
import Derived.Lib.ConvBytes
import Derived.Lib.Hide
import Derived.Laws.Strings3
import Derived.Laws.Closers25
import Derived.Laws.Closers25b
import Derived.WalkKit
import Derived.BigCall
import Derived.BigGuard
import Derived.Below
namespace Go.Proofs.YtcohlcijgfdanaaDoor
open Go.RowKit

/-- What some bytes are worth as octal digits behind what was read. -/
def octM : Nat → List UInt8 → Option Nat
  | acc, [] => some acc
  | acc, c :: l => if 48 ≤ c.toNat ∧ c.toNat ≤ 55 then octM (acc * 8 + (c.toNat - 48)) l else none

def octV : Option Nat → Value
  | some n => .tuple #[.int .u64 n, .nilIface]
  | none => .tuple #[.int .u64 0, .iface 124 (.int .i64 2)]

theorem lower (c : Int) (w : World) : Calls Tryd.prog 104 #[.int .u8 c] w fun e w' => e = .returned (.int .u8 (bits .or .u8 c 32)) ∧ w' = w := by
  go_enter Tryd.func104, Tryd.ntmps104
  go_wp2
  go_ret
  exact ⟨rfl, rfl⟩

theorem pow8 {k : Nat} (h : k ≤ 3) : 8 ^ k ≤ 512 := by
  have := Nat.pow_le_pow_right (show 0 < 8 by decide) h
  exact Nat.le_trans this (by decide)

set_option maxHeartbeats 32000000 in
set_option maxRecDepth 100000 in
theorem parseUint8 (t : ByteArray) (hne : t.size ≠ 0) (hmax : t.size ≤ 3) (w : World) :
    Calls Tryd.prog 92 #[.string t, .int .i64 8, .int .i64 16] w fun e w' => e = .returned (octV (octM 0 t.data.toList)) ∧ w' = Lib.bytesWorld w 5 t := by
  have hemp : t.toList.isEmpty = false := by
    rw [← decide_eq_emptyBytes]
    exact decide_eq_false (fun h => hne (by rw [h]; rfl))
  have hcv := Lib.run_convert_string_bytes (P := Tryd.prog) w 9 29 5 t (u := .string) Tryd.underlying9 Tryd.underlying29 Tryd.underlying5
  have hB : ∀ j, j < t.size → (Lib.bytesWorld w 5 t).cell? ⟨w.heap.size, j, none⟩ = some (.int .u8 (t.data.toList.getD j 0).toNat) := fun j hj => Lib.bytesWorld_cell w 5 t j hj
  obtain ⟨W1, hW1⟩ : ∃ W1, W1 = Lib.bytesWorld w 5 t := ⟨_, rfl⟩
  rw [← hW1] at hcv hB ⊢
  clear hW1
  obtain ⟨bs, hL⟩ : ∃ bs, bs = t.data.toList := ⟨_, rfl⟩
  have hLn : bs.length = t.size := by rw [hL, Lib.size_eq]
  rw [← hL] at hB ⊢
  clear hL
  have hmv : IntKind.u64.wrap (IntKind.u64.wrap 65536 - 1) = 65535 := by
    rw [IntKind.wrap_u64, IntKind.wrap_u64]
    decide
  go_enter Tryd.func92, Tryd.ntmps92
  go_wp2
  go_loop [12, 13, 101] (fun vu vn vi => ∃ (k acc : Nat) (a : Int), vu = .bool false ∧ vn = .int .u64 a ∧ vi = .int .i64 k ∧ k ≤ t.size ∧ Hid (a = (acc : Int) ∧ acc < 8 ^ k ∧ octM 0 bs = octM acc (bs.drop k)))
    (fun _ _ vi => t.size - (intOf vi).toNat)
  case atStart => exact ⟨0, 0, 0, rfl, rfl, rfl, by omega, rfl, by decide, rfl⟩
  case round =>
    obtain ⟨k, acc, a, rfl, rfl, rfl, hk, hh⟩ := hrel
    obtain ⟨ha, hacc, hdec⟩ := hh.out
    clear hh
    have hk3 : k ≤ 3 := by omega
    have h512 := pow8 hk3
    have a0 : 0 ≤ a := by omega
    have a1 : a < 512 := by omega
    by_cases hkn : k < t.size
    · have hc := hB k hkn
      have hdrop : bs.drop k = bs[k]'(by omega) :: bs.drop (k + 1) := List.drop_eq_getElem_cons (by omega)
      have hget : bs.getD k 0 = bs[k]'(by omega) := by simp [List.getD, List.getElem?_eq_getElem (show k < bs.length by omega)]
      rw [hdrop] at hdec
      rw [hget] at hc
      generalize bs[k]'(by omega) = c at hc hdec
      have hc256 : c.toNat < 256 := c.toNat_lt
      clear hB hdrop hget
      by_cases hdig : 48 ≤ c.toNat ∧ c.toNat ≤ 55
      · obtain ⟨hd0, hd1⟩ := hdig
        have hF : octM acc (c :: bs.drop (k + 1)) = octM (acc * 8 + (c.toNat - 48)) (bs.drop (k + 1)) := by simp [octM, hd0, hd1]
        have HN : Hid (a * 8 + ((c.toNat : Int) - 48) = ((acc * 8 + (c.toNat - 48) : Nat) : Int) ∧ acc * 8 + (c.toNat - 48) < 8 ^ (k + 1) ∧ octM 0 bs = octM (acc * 8 + (c.toNat - 48)) (bs.drop (k + 1))) := Lib.hid ⟨by omega, by rw [Nat.pow_succ]; omega, hdec.trans hF⟩
        have iov : a * 8 + ((c.toNat : Int) - 48) ≤ 65535 := by omega
        clear hacc hF hdec ha h512
        go_wp2
        refine ⟨⟨k + 1, acc * 8 + (c.toNat - 48), a * 8 + ((c.toNat : Int) - 48), rfl, (by first | rfl | (congr 1; omega)), (by first | rfl | (congr 1; omega)), by omega, HN⟩, by simp [intOf]; omega⟩
      · have hF : octM acc (c :: bs.drop (k + 1)) = none := by simp only [octM]; rw [if_neg hdig]
        rw [hF] at hdec
        clear hacc hF ha h512
        have hv0 := bits_lo_u8 .or (c.toNat : Int) 32
        have hv1 := bits_hi_u8 .or (c.toNat : Int) 32
        have hu0 := bits_lo_u8 .or 95 32
        have hu1 := bits_hi_u8 .or 95 32
        go_wp2_with (go_at_call 104; refine (lower _ _).mono ?_; rintro e w' ⟨rfl, rfl⟩)
        all_goals go_ret2
        all_goals first | exact ⟨rfl, rfl⟩ | exact ⟨by rw [hdec]; rfl, rfl⟩
    · have hkk : k = t.size := by omega
      subst hkk
      have hF : octM acc (bs.drop t.size) = some acc := by rw [List.drop_eq_nil_of_le (by omega)]; rfl
      rw [hF] at hdec
      subst ha
      clear hacc hF a0 a1
      go_wp2
      go_ret2
      exact ⟨rfl, rfl⟩
end Go.Proofs.YtcohlcijgfdanaaDoor
