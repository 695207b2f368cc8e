/-
  FnAttributes: zzIsSpace, strings.indexFunc, strings.TrimLeftFunc, trimLeftSpace at texts of ASCII.
-/
import Derived.Test.YtgibcinbifaooaaDoorAt2
import Derived.Lib.RuneLoops
import Derived.Lib.OthersKept
import Derived.Lib.TrimUEq
namespace Go.Proofs.YtgibcinbifaooaaDoor.att
open Go.RowKit

/-- A decimal digit. -/
def Dig (c : UInt8) : Prop := 48 ≤ c.toNat ∧ c.toNat ≤ 57

set_option maxHeartbeats 1000000 in
theorem isSpace_blank (c : UInt8) (h : bl c = true) (w : World) : Calls Tryd.prog 26 #[.int .i32 (c.toNat : Int)] w fun e w' => e = .returned (.bool true) ∧ w = w' := by
  have hv : c.toNat = 9 ∨ c.toNat = 10 ∨ c.toNat = 13 ∨ c.toNat = 32 := by
    unfold bl at h
    simp only [Bool.or_eq_true, beq_iff_eq] at h
    omega
  clear h
  generalize c.toNat = n at *
  rcases hv with rfl | rfl | rfl | rfl
  all_goals
    go_enter Tryd.func26, Tryd.ntmps26
    go_wp2
    go_ret
    exact ⟨rfl, rfl⟩

set_option maxHeartbeats 1000000 in
set_option maxRecDepth 100000 in
theorem isSpace_no (d : Int) (h0 : 48 ≤ d) (h1 : d ≤ 57) (w : World) : Calls Tryd.prog 26 #[.int .i32 d] w fun e w' => e = .returned (.bool false) ∧ w = w' := by
  have n1 : ¬ d = 9 := by omega
  have n2 : ¬ d = 10 := by omega
  have n3 : ¬ d = 11 := by omega
  have n4 : ¬ d = 12 := by omega
  have n5 : ¬ d = 13 := by omega
  have n6 : ¬ d = 32 := by omega
  have n7 : ¬ d = 133 := by omega
  have n8 : ¬ d = 160 := by omega
  have n9 : ¬ d = 5760 := by omega
  have n10 : ¬ d = 8232 := by omega
  have n11 : ¬ d = 8233 := by omega
  have n12 : ¬ d = 8239 := by omega
  have n13 : ¬ d = 8287 := by omega
  have n14 : ¬ d = 12288 := by omega
  have n15 : ¬ 8192 ≤ d := by omega
  go_enter Tryd.func26, Tryd.ntmps26
  go_wp2
  go_ret
  exact ⟨rfl, rfl⟩

theorem white_blank (c : UInt8) (h : bl c = true) (w : World) : Calls Tryd.prog 31 #[.int .i32 (c.toNat : Int)] w fun e w' => e = .returned (.bool true) ∧ w = w' := by
  have hc := Lib.hid (isSpace_blank c h w)
  clear h
  go_enter Tryd.func31, Tryd.ntmps31
  go_wp2_with (go_at_call 26; refine hc.out.mono ?_; rintro e w1 ⟨rfl, rfl⟩)
  go_ret
  exact ⟨rfl, rfl⟩
theorem white_no (d : Int) (h0 : 48 ≤ d) (h1 : d ≤ 57) (w : World) : Calls Tryd.prog 31 #[.int .i32 d] w fun e w' => e = .returned (.bool false) ∧ w = w' := by
  have hc := Lib.hid (isSpace_no d h0 h1 w)
  have hne : ¬ d = 0 := by omega
  have hne2 : (d == 0) = false := by simpa using hne
  clear h0 h1
  go_enter Tryd.func31, Tryd.ntmps31
  go_wp2_with (go_at_call 26; refine hc.out.mono ?_; rintro e w1 ⟨rfl, rfl⟩)
  go_ret
  exact ⟨rfl, rfl⟩

theorem decode_ascii (l : List UInt8) (k : Nat) (c : UInt8) (h : l[k]? = some c) (hc : c.toNat < 128) : Utf8.decode (mkS l) k = (c.toNat, 1) := by
  rw [Lib.decode_N, mkS_list, List.getD_eq_getElem?_getD, h]
  show Lib.decodeN _ c.toNat _ _ _ = _
  unfold Lib.decodeN
  rw [if_pos hc]

theorem bl_lt (c : UInt8) (h : bl c = true) : c.toNat < 128 := by
  unfold bl at h
  simp only [Bool.or_eq_true, beq_iff_eq] at h
  omega

set_option maxHeartbeats 1000000 in
/-- strings.indexFunc(s, whitespace, false): behind the blanks. -/
theorem index44 (pre rest : List UInt8) (c : UInt8) (hp : pre.all bl = true) (hc : Dig c) (w : World) :
    Calls Tryd.prog 44 #[.string (mkS (pre ++ c :: rest)), .func (.func 31) #[] #[], .bool false] w fun e w' => e = .returned (.int .i64 (pre.length : Int)) ∧ Below w.heap.size w w' := by
  obtain ⟨S, hS⟩ : ∃ S, mkS (pre ++ c :: rest) = S := ⟨_, rfl⟩
  have hz : S.size = pre.length + (rest.length + 1) := by rw [← hS, mkS_size]; simp
  have HD : Hid (∀ k b, (pre ++ c :: rest)[k]? = some b → b.toNat < 128 → Utf8.decode S k = (b.toNat, 1)) := Lib.hid fun k b h1 h2 => by rw [← hS]; exact decode_ascii _ k b h1 h2
  have HP : Hid (∀ b ∈ pre, bl b = true) := Lib.hid fun b hb => List.all_eq_true.1 hp b hb
  have HZ := Lib.hid hz
  rw [hS]
  clear hS hp hz
  go_enter Tryd.func44, Tryd.ntmps44
  go_wp2_with fail
  go_loopw [8] (fun _ wr => ∃ k : Nat, Hid (k ≤ pre.length) ∧ wr.heap[w.heap.size]? = some (.stringIter S k) ∧ Hid (Below w.heap.size w wr)) (fun _ wr => S.size - wr.iterPos w.heap.size)
  case atStart => exact ⟨0, Lib.hid (by omega), World.iter_heap w S 0, Lib.hid ((Below.refl _ _).alloc (Nat.le_refl _) _)⟩
  case round =>
    obtain ⟨k, hk, hit, HB⟩ := hrel
    have hkS : k < S.size := by have := HZ.out; have := hk.out; omega
    have hnx : ∀ ty, (Instr.next (.pointer (some ⟨w.heap.size, 0, none⟩)) true ty).run Tryd.prog wr = _ := fun ty => Lib.run_next_any_at wr w.heap.size S k ty hit hkS
    have hit2 := Lib.iterAt_heap wr w.heap.size S k (k + 1) hit
    have hbw2 := Lib.hid (Lib.below_iterAt HB.out (k := w.heap.size) (by omega) S (k + 1))
    by_cases hka : k < pre.length
    · obtain ⟨p, hpk⟩ : ∃ p, pre[k]? = some p := ⟨pre[k], List.getElem?_eq_getElem hka⟩
      have hg : (pre ++ c :: rest)[k]? = some p := by rw [List.getElem?_append_left hka]; exact hpk
      have hbl := HP.out _ (List.mem_of_getElem? hpk)
      have hd := HD.out k p hg (bl_lt _ hbl)
      rw [hd] at hnx
      have hcall := Lib.hid fun w => white_blank p hbl w
      have HIT := Lib.hid hit
      have HIT2 := Lib.hid hit2
      have HKS := Lib.hid hkS
      have HKA := Lib.hid hka
      generalize (p.toNat : Int) = d at *
      clear hg hbl hd hpk hit hit2 hkS hka
      go_wp2_with (go_at_call 31; refine (hcall.out _).mono ?_; rintro e w1 ⟨rfl, rfl⟩)
      go_roundw
      case rel => exact ⟨k + 1, Lib.hid (by have := HKA.out; omega), HIT2.out, hbw2⟩
      case measure =>
        have := HKS.out
        have hit := HIT.out
        have hit2 := HIT2.out
        simp only [World.iterPos, hit2, hit]
        omega
    · have hkp : k = pre.length := by have := hk.out; omega
      have hg : (pre ++ c :: rest)[k]? = some c := by rw [hkp]; simp
      have hd := HD.out k c hg (by unfold Dig at hc; omega)
      rw [hd] at hnx
      have hcall := Lib.hid fun w => white_no (c.toNat : Int) (by unfold Dig at hc; omega) (by unfold Dig at hc; omega) w
      have HKP := Lib.hid hkp
      generalize (c.toNat : Int) = d at *
      clear hg hd hit hit2 hkS hka hkp hc
      go_wp2_with (go_at_call 31; refine (hcall.out _).mono ?_; rintro e w1 ⟨rfl, rfl⟩)
      go_ret
      have := HKP.out
      subst this
      exact ⟨rfl, hbw2.out⟩
end Go.Proofs.YtgibcinbifaooaaDoor.att
