/-
  FnLiteralText: zzContainsRune at the octal digits, escaped, regularChar.
-/
import Derived.Test.YtcohlcijgfdanaaDoorUna
import Derived.WalkKit
import Derived.BigCall
import Derived.BigGuard
import Derived.Below
import Derived.Lib.Hide
import Derived.Laws.RangeAny
import Derived.Lib.OthersKept
import Derived.LoopN
namespace Go.Proofs.YtcohlcijgfdanaaDoor.lt
open Go.RowKit

def octT : ByteArray := ⟨#[48, 49, 50, 51, 52, 53, 54, 55]⟩
theorem octT_dec : ∀ k : Fin 8, Utf8.decode octT k.val = (48 + k.val, 1) := by decide +kernel

set_option maxHeartbeats 1000000 in
set_option maxRecDepth 100000 in
theorem index96 (d : Int) (h0 : 0 ≤ d) (h1 : d ≤ 255) (w : World) :
    Calls Tryd.prog 96 #[.string ⟨#[48, 49, 50, 51, 52, 53, 54, 55]⟩, .int .i32 d] w fun e w' => (∃ r : Int, e = .returned (.int .i64 r) ∧ (0 ≤ r ↔ 48 ≤ d ∧ d ≤ 55)) ∧ Below w.heap.size w w' := by
  have HD := Lib.hid octT_dec
  have hz : octT.size = 8 := rfl
  rw [show (⟨#[48, 49, 50, 51, 52, 53, 54, 55]⟩ : ByteArray) = octT from rfl]
  generalize octT = T at *
  have HZ := Lib.hid hz
  clear hz
  have m0 : d ≠ 65533 := by omega
  have m1 : (d != 65533) = true := by simpa using m0
  have m2 : ¬ d < 0 := by omega
  have m3 : ¬ 1114111 < d := by omega
  have m4 : ¬ 55296 ≤ d := by omega
  clear m0
  go_enter Tryd.func96, Tryd.ntmps96
  go_wp2_with fail
  go_loopw [5] (fun _ wr => ∃ k : Nat, Hid (k ≤ 8) ∧ Hid (∀ j : Nat, j < k → d ≠ 48 + (j : Int)) ∧ wr.heap[w.heap.size]? = some (.stringIter T k) ∧ Hid (Below w.heap.size w wr)) (fun _ wr => T.size - wr.iterPos w.heap.size)
  case atStart => exact ⟨0, Lib.hid (by omega), Lib.hid (fun j hj => by omega), World.iter_heap w T 0, Lib.hid ((Below.refl _ _).alloc (Nat.le_refl _) _)⟩
  case round =>
    obtain ⟨k, hk, hno, hit, HB⟩ := hrel
    by_cases hkS : k < T.size
    · have hnx : ∀ ty, (Instr.next (.pointer (some ⟨w.heap.size, 0, none⟩)) true ty).run Tryd.prog wr = _ := fun ty => Lib.run_next_any_at wr w.heap.size T k ty hit hkS
      have hk8 : k < 8 := by have := HZ.out; omega
      have hd := HD.out ⟨k, hk8⟩
      simp only at hd
      rw [hd] at hnx
      have hit2 := Lib.hid (Lib.iterAt_heap wr w.heap.size T k (k + 1) hit)
      have hbw2 := Lib.hid (Lib.below_iterAt HB.out (k := w.heap.size) (by omega) T (k + 1))
      have HIT := Lib.hid hit
      have HKS := Lib.hid hkS
      have HK8 := Lib.hid hk8
      obtain ⟨x, hx⟩ : ∃ x : Int, x = ((48 + k : Nat) : Int) := ⟨_, rfl⟩
      rw [← hx] at hnx
      have HX := Lib.hid hx
      clear hd hit hkS hk8 hx
      by_cases hxd : x = d
      · subst hxd
        go_wp2_with fail
        go_ret
        have hx := HX.out
        have := HK8.out
        exact ⟨⟨(k : Int), rfl, by omega⟩, hbw2.out⟩
      · have hb : (x == d) = false := by simpa using hxd
        go_wp2_with fail
        go_roundw
        case rel => exact ⟨k + 1, Lib.hid (by have := HK8.out; omega), Lib.hid (fun j hj => by
          by_cases hjk : j = k
          · subst hjk
            have := HX.out
            omega
          · exact hno.out j (by omega)), hit2.out, hbw2⟩
        case measure =>
          have := HKS.out
          have hit := HIT.out
          have hit2 := hit2.out
          simp only [World.iterPos, hit2, hit]
          omega
    · have hnx : ∀ ty, (Instr.next (.pointer (some ⟨w.heap.size, 0, none⟩)) true ty).run Tryd.prog wr = _ := fun ty => Lib.run_next_end_at wr w.heap.size T k ty hit hkS
      have hk8 : k = 8 := by have := HZ.out; have := hk.out; omega
      have HK8 := Lib.hid hk8
      clear hit hkS hk8
      go_wp2_with fail
      go_ret
      refine ⟨⟨-1, rfl, ?_⟩, HB.out⟩
      have hk8 := HK8.out
      have hn := hno.out
      constructor
      · intro h; omega
      · intro h
        exact absurd (show d = 48 + ((d - 48).toNat : Int) by omega) (hn (d - 48).toNat (by omega))

theorem contains71 (c : UInt8) (w : World) :
    Calls Tryd.prog 71 #[.string ⟨#[48, 49, 50, 51, 52, 53, 54, 55]⟩, .int .i32 (c.toNat : Int)] w fun e w' => e = .returned (.bool (od c)) ∧ Below w.heap.size w w' := by
  have hc := c.toNat_lt
  have h96 := index96 (c.toNat : Int) (by omega) (by omega) w
  have ho : od c = decide (48 ≤ (c.toNat : Int) ∧ (c.toNat : Int) ≤ 55) := by
    unfold od
    rw [decide_eq_decide]
    omega
  rw [ho]
  have H96 := Lib.hid h96
  clear h96 hc ho
  generalize (c.toNat : Int) = d at *
  go_enter Tryd.func71, Tryd.ntmps71
  go_wp2_with (go_at_call 96; refine H96.out.mono ?_; rintro e w1 ⟨⟨r, rfl, hr⟩, hb⟩)
  go_ret
  refine ⟨?_, hb⟩
  show Ending.returned (.bool (decide (48 ≤ d) && decide (d ≤ 55))) = _
  rw [Bool.decide_and]


set_option maxHeartbeats 2000000 in
set_option maxRecDepth 100000 in
theorem esc73_oct (d : Int) (h0 : 48 ≤ d) (h1 : d ≤ 55) (w : World) : Calls Tryd.prog 73 #[.int .u8 d] w fun e w' => e = .returned (.tuple #[.bool true, .int .u8 d]) ∧ w = w' := by
  have hd : d = 48 ∨ d = 49 ∨ d = 50 ∨ d = 51 ∨ d = 52 ∨ d = 53 ∨ d = 54 ∨ d = 55 := by omega
  rcases hd with rfl | rfl | rfl | rfl | rfl | rfl | rfl | rfl
  all_goals
    go_enter Tryd.func73, Tryd.ntmps73
    go_wp2
    go_ret2
    exact ⟨rfl, rfl⟩

theorem esc73_110 (w : World) : Calls Tryd.prog 73 #[.int .u8 110] w fun e w' => e = .returned (.tuple #[.bool false, .int .u8 10]) ∧ w = w' := by
  go_enter Tryd.func73, Tryd.ntmps73
  go_wp2
  go_ret2
  exact ⟨rfl, rfl⟩

theorem esc73_114 (w : World) : Calls Tryd.prog 73 #[.int .u8 114] w fun e w' => e = .returned (.tuple #[.bool false, .int .u8 13]) ∧ w = w' := by
  go_enter Tryd.func73, Tryd.ntmps73
  go_wp2
  go_ret2
  exact ⟨rfl, rfl⟩

theorem esc73_116 (w : World) : Calls Tryd.prog 73 #[.int .u8 116] w fun e w' => e = .returned (.tuple #[.bool false, .int .u8 9]) ∧ w = w' := by
  go_enter Tryd.func73, Tryd.ntmps73
  go_wp2
  go_ret2
  exact ⟨rfl, rfl⟩

theorem esc73_98 (w : World) : Calls Tryd.prog 73 #[.int .u8 98] w fun e w' => e = .returned (.tuple #[.bool false, .int .u8 8]) ∧ w = w' := by
  go_enter Tryd.func73, Tryd.ntmps73
  go_wp2
  go_ret2
  exact ⟨rfl, rfl⟩

theorem esc73_102 (w : World) : Calls Tryd.prog 73 #[.int .u8 102] w fun e w' => e = .returned (.tuple #[.bool false, .int .u8 12]) ∧ w = w' := by
  go_enter Tryd.func73, Tryd.ntmps73
  go_wp2
  go_ret2
  exact ⟨rfl, rfl⟩

theorem esc73_40 (w : World) : Calls Tryd.prog 73 #[.int .u8 40] w fun e w' => e = .returned (.tuple #[.bool false, .int .u8 40]) ∧ w = w' := by
  go_enter Tryd.func73, Tryd.ntmps73
  go_wp2
  go_ret2
  exact ⟨rfl, rfl⟩

theorem esc73_41 (w : World) : Calls Tryd.prog 73 #[.int .u8 41] w fun e w' => e = .returned (.tuple #[.bool false, .int .u8 41]) ∧ w = w' := by
  go_enter Tryd.func73, Tryd.ntmps73
  go_wp2
  go_ret2
  exact ⟨rfl, rfl⟩

set_option maxHeartbeats 2000000 in
set_option maxRecDepth 100000 in
theorem esc73_other (d : Int) (n110 : ¬ d = 110) (n114 : ¬ d = 114) (n116 : ¬ d = 116) (n98 : ¬ d = 98) (n102 : ¬ d = 102) (n40 : ¬ d = 40) (n41 : ¬ d = 41) (n48 : ¬ d = 48) (n49 : ¬ d = 49) (n50 : ¬ d = 50) (n51 : ¬ d = 51) (n52 : ¬ d = 52) (n53 : ¬ d = 53) (n54 : ¬ d = 54) (n55 : ¬ d = 55) (w : World) : Calls Tryd.prog 73 #[.int .u8 d] w fun e w' => e = .returned (.tuple #[.bool false, .int .u8 d]) ∧ w = w' := by
  go_enter Tryd.func73, Tryd.ntmps73
  go_wp2
  go_ret2
  exact ⟨rfl, rfl⟩

theorem esc73 (c : UInt8) (h : od c = false) (w : World) : Calls Tryd.prog 73 #[.int .u8 (c.toNat : Int)] w fun e w' => e = .returned (.tuple #[.bool false, .int .u8 ((esv c).toNat : Int)]) ∧ w = w' := by
  by_cases h110 : c = 110
  · subst h110
    exact esc73_110 w
  by_cases h114 : c = 114
  · subst h114
    exact esc73_114 w
  by_cases h116 : c = 116
  · subst h116
    exact esc73_116 w
  by_cases h98 : c = 98
  · subst h98
    exact esc73_98 w
  by_cases h102 : c = 102
  · subst h102
    exact esc73_102 w
  by_cases h40 : c = 40
  · subst h40
    exact esc73_40 w
  by_cases h41 : c = 41
  · subst h41
    exact esc73_41 w
  have he : esv c = c := by
    unfold esv
    rw [if_neg h110, if_neg h114, if_neg h116, if_neg h98, if_neg h102]
  rw [he]
  have hne : ∀ k : UInt8, c ≠ k → ¬ (c.toNat : Int) = (k.toNat : Int) := fun k hk e => hk (UInt8.toNat_inj.1 (by omega))
  have ho : ¬ (48 ≤ c.toNat ∧ c.toNat ≤ 55) := by
    unfold od at h
    simpa using h
  exact esc73_other (c.toNat : Int) (hne 110 h110) (hne 114 h114) (hne 116 h116) (hne 98 h98) (hne 102 h102) (hne 40 h40) (hne 41 h41) (by omega) (by omega) (by omega) (by omega) (by omega) (by omega) (by omega) (by omega) w

theorem reg72 (c : Int) (e : Bool) (w : World) (r : Bool) (hr : (decide (c ≠ 92) && !e) = r) : Calls Tryd.prog 72 #[.int .u8 c, .bool e] w fun x w' => x = .returned (.bool r) ∧ w = w' := by
  subst hr
  by_cases h : c = 92
  · subst h
    go_enter Tryd.func72, Tryd.ntmps72
    go_wp2
    go_ret
    exact ⟨rfl, rfl⟩
  · have hd : decide (c ≠ 92) = true := by simp [h]
    rw [hd]
    have hne : (c != 92) = true := by simp [h]
    cases e
    · go_enter Tryd.func72, Tryd.ntmps72
      go_wp2
      go_ret
      exact ⟨rfl, rfl⟩
    · go_enter Tryd.func72, Tryd.ntmps72
      go_wp2
      go_ret
      exact ⟨rfl, rfl⟩
end Go.Proofs.YtcohlcijgfdanaaDoor.lt
