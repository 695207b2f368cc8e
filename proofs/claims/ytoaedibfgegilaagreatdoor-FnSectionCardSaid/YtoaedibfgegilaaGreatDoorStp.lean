/-
  spec.Text, spec.padded, spec.in.
-/
import Derived.Test.YtoaedibfgegilaaGreatDoorStx
import Derived.Lib.SmallJoins
import Derived.Lib.AppendIntMem
namespace Go.Proofs.YtoaedibfgegilaaGreatDoor.st
open Go.RowKit
set_option linter.unusedVariables false
set_option linter.unusedSimpArgs false

theorem gPow : Tryz.prog.globalNamed "internal/strconv.uint64pow10" = some 4 := by kernel_rfl
/-- strconv's table of powers lies there. -/
def Tab (w : World) : Prop := Lib.TabIs Tryz.prog w "internal/strconv.uint64pow10" .u64 Lib.pow10Tab
theorem Tab.kept {w w' : World} (h : Tab w) (k : Kept [] w w') : Tab w' := by
  exact Go.Joins.tab_stays gPow h (k.below (Nat.le_refl _) (by simp)) (Nat.le_refl _)
theorem str_cat (a b : List UInt8) : str a ++ str b = str (a ++ b) := by
  apply ByteArray.ext
  simp [str, ByteArray.data_append]
theorem text9 (n : Int) (h0 : 0 ≤ n) (h1 : n ≤ 1000000000000) (w : World) (hT : Tab w) : Calls Tryz.prog 9 #[.int .i64 n] w fun e w' => e = .returned (.string (str (Lib.itoa n))) ∧ Kept [] w w' := by
  have hc := Lib.hid (Tryz.strconv_Itoa n (by omega) (by omega) w hT)
  have HD : Hid ((⟨(Lib.itoa n).toArray⟩ : ByteArray) = str (Lib.itoa n)) := Lib.hid rfl
  generalize (⟨(Lib.itoa n).toArray⟩ : ByteArray) = D at *
  go_enter Tryz.func9, Tryz.ntmps9
  go_wp2_with (go_at_call 15; refine hc.out.mono ?_; rintro e w1 ⟨rfl, k, os, rfl⟩)
  go_ret
  exact ⟨by rw [HD.out]; rfl, Kept.of_below (Lib.below_grow _ _ (Nat.le_refl _) _ _) []⟩

theorem padded16 (n : Int) (k : Nat) (h0 : 0 ≤ n) (h1 : n ≤ 1000000000000) (hk : k ≤ 20) (w : World) (hT : Tab w) : Calls Tryz.prog 16 #[.int .i64 n, .int .i64 (k : Int)] w fun e w' => e = .returned (.string (str (pad n k))) ∧ Kept [] w w' := by
  have H9 := Lib.hid (text9 n h0 h1 w hT)
  have hl := itoa_le h0 13 (by omega) (by simp; omega)
  obtain ⟨L, hL⟩ : ∃ L, Lib.itoa n = L := ⟨_, rfl⟩
  have HP : Hid (pad n k = List.replicate (k - L.length) 48 ++ L) := Lib.hid (by unfold pad; rw [hL])
  rw [hL] at H9 hl
  clear hL h0 h1 hT
  go_enter Tryz.func16, Tryz.ntmps16
  go_wp2_with (go_at_call 9; refine H9.out.mono ?_; rintro e V ⟨rfl, hkv⟩; refine Hid.out ?_)
  refine Lib.hid ?_
  have HK := Lib.hid hkv
  clear hkv
  go_wp2_with fail
  go_loopg [5] (k - L.length) (fun gk s wr => ∃ i : Nat, gk = k - L.length - i ∧ s = .string (str (List.replicate i 48 ++ L)) ∧ i ≤ k - L.length ∧ wr = V)
  case atStart => exact ⟨0, rfl, rfl, Nat.zero_le _, rfl⟩
  case round =>
    obtain ⟨i, rfl, rfl, hi, rfl⟩ := hrel
    have hs : (str (List.replicate i 48 ++ L)).size = i + L.length := by rw [str_size]; simp
    have hcat : (⟨#[48]⟩ : ByteArray) ++ str (List.replicate i 48 ++ L) = str (List.replicate (i + 1) 48 ++ L) := by
      rw [show (⟨#[48]⟩ : ByteArray) = str [48] from rfl, str_cat]
      rfl
    have HE : Hid (i = k - L.length → str (List.replicate i 48 ++ L) = str (pad n k)) := Lib.hid fun e => by rw [HP.out, e]
    obtain ⟨S, hS⟩ : ∃ S, str (List.replicate i 48 ++ L) = S := ⟨_, rfl⟩
    obtain ⟨S', hS'⟩ : ∃ S', str (List.replicate (i + 1) 48 ++ L) = S' := ⟨_, rfl⟩
    rw [hS, hS'] at hcat
    rw [hS] at hs HE ⊢
    have HS := Lib.hid hS'
    clear hS hS'
    rcases Nat.lt_or_ge i (k - L.length) with hlt | hge
    · have h0 : S.size ≤ 100 := by omega
      go_wp2_with fail
      go_roundg (k - L.length - (i + 1))
      case measure => omega
      case rel => exact ⟨i + 1, rfl, by rw [HS.out, ← hcat], by omega, rfl⟩
    · go_wp2_with fail
      go_ret
      exact ⟨by rw [HE.out (by omega)]; rfl, HK.out⟩

def kindS (e : Ent) : ByteArray := str [kindB e]
theorem in8_no (v : Value) (n : Nat) (z : Nat → Int) (x : Int) (w : World) (hD : IntsV w v n z) (hm : ∀ i, i < n → z i ≠ x) (hn : (n : Int) ≤ 2147483647) : Calls Tryz.prog 8 #[v, .int .i64 x] w fun e w' => e = .returned (.bool false) ∧ w' = w := by
  obtain ⟨a, C, rfl⟩ := hD.slice
  have HD := Lib.hid hD
  have HM := Lib.hid hm
  clear hD hm
  go_enter Tryz.func8, Tryz.ntmps8
  go_wp2_with fail
  go_loopw [9] (fun i wr => ∃ k : Nat, i = .int .i64 (k : Int) ∧ k ≤ n ∧ wr = w) (fun i _ => n - (intOf i).toNat)
  case atStart => exact ⟨0, rfl, by omega, rfl⟩
  case round =>
    obtain ⟨k, rfl, hk, rfl⟩ := hrel
    by_cases hlt : k < n
    · obtain ⟨b, o, rfl, hc⟩ := HD.out.cells (by omega)
      have c0 := hc k hlt
      have e1 : (z k == x) = false := by simpa using HM.out k hlt
      clear hc
      go_wp2_with fail
      go_roundw
      case rel => exact ⟨k + 1, by go_num, by omega, trivial⟩
      case measure => simp [intOf]; omega
    · go_wp2_with fail
      go_ret
      exact ⟨rfl, rfl⟩
/-- in: a number that is there, in a longer list. -/
theorem in8_yes (v : Value) (n : Nat) (z : Nat → Int) (x : Int) (w : World) (hD : IntsV w v n z) (hm : ∃ i, i < n ∧ z i = x) (hn : (n : Int) ≤ 2147483647) : Calls Tryz.prog 8 #[v, .int .i64 x] w fun e w' => e = .returned (.bool true) ∧ w' = w := by
  obtain ⟨a, C, rfl⟩ := hD.slice
  obtain ⟨m, hmn, hmx⟩ := hm
  obtain ⟨b, o, rfl, hc⟩ := hD.cells (by omega)
  have HC := Lib.hid hc
  have HM := Lib.hid hmx
  clear hD hc hmx
  go_enter Tryz.func8, Tryz.ntmps8
  go_wp2_with fail
  go_loopw [9] (fun i wr => ∃ k : Nat, i = .int .i64 (k : Int) ∧ k ≤ m ∧ wr = w) (fun i _ => n - (intOf i).toNat)
  case atStart => exact ⟨0, rfl, by omega, rfl⟩
  case round =>
    obtain ⟨k, rfl, hk, rfl⟩ := hrel
    have c0 := HC.out k (by omega)
    by_cases hx : z k = x
    · have e1 : (x == x) = true := by simp
      rw [hx] at c0
      go_wp2_with fail
      go_ret
      exact ⟨rfl, rfl⟩
    · have e1 : (z k == x) = false := by simpa using hx
      have hkm : k ≠ m := fun e => hx (by rw [e]; exact HM.out)
      go_wp2_with fail
      go_roundw
      case rel => exact ⟨k + 1, by go_num, by omega, trivial⟩
      case measure => simp [intOf]; omega
end Go.Proofs.YtoaedibfgegilaaGreatDoor.st
