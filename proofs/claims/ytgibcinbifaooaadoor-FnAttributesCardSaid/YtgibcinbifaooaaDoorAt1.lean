/-
  FnAttributes: spec.Blanks, spec.Spaces, spec.Trimmed.
-/
import Derived.Test.YtgibcinbifaooaaDoorRows
import Derived.WalkKit
import Derived.BigCall
import Derived.BigGuard
import Derived.Below
import Derived.Lib.Hide
import Derived.Laws.Strings2
import Derived.Laws.Strings3
import Derived.Laws.RangeAny
import Derived.Deep.QuietTactic
import Derived.BigQuiet
import Derived.LoopN
import Derived.Lib.MapLaws
namespace Go.Proofs.YtgibcinbifaooaaDoor.att
open Go.RowKit

def bl (b : UInt8) : Bool := b.toNat == 9 || b.toNat == 10 || b.toNat == 13 || b.toNat == 32
def blanksB (l : List UInt8) : Bool := l.all bl && decide (l.length ≤ 100)
def sp (b : UInt8) : Bool := b.toNat == 32
def spacesB (l : List UInt8) : Bool := l.all sp && (decide (l ≠ []) && decide (l.length ≤ 100))

theorem get_at (s : ByteArray) (l : List UInt8) (hl : s.data.toList = l) (k : Nat) (h : k < s.size) : ∃ c, l[k]? = some c ∧ s[k] = c := by
  subst hl
  refine ⟨s[k], ?_, rfl⟩
  rw [List.getElem?_eq_getElem (by rw [← Lib.size_eq]; exact h)]
  simp
  rfl

theorem all_step (p : UInt8 → Bool) (l : List UInt8) (k : Nat) (c : UInt8) (h : l[k]? = some c) : (l.take (k + 1)).all p = ((l.take k).all p && p c) := by
  obtain ⟨hk, rfl⟩ := List.getElem?_eq_some_iff.1 h
  rw [List.take_succ_eq_append_getElem hk, List.all_append]
  simp
theorem all_no (p : UInt8 → Bool) (l : List UInt8) (k : Nat) (c : UInt8) (h : l[k]? = some c) (hp : p c = false) : l.all p = false := by
  rw [Bool.eq_false_iff]
  intro e
  rw [List.all_eq_true] at e
  have := e c (List.mem_of_getElem? h)
  rw [hp] at this
  cases this

theorem ret_b {a b : Bool} (h : a = b) : Ending.returned (.bool a) = .returned (.bool b) := by rw [h]

set_option maxHeartbeats 1000000 in
theorem blanks4 (s : ByteArray) (hs : s.size ≤ 2147483647) (w : World) : Calls Tryd.prog 4 #[.string s] w fun e w' => e = .returned (.bool (blanksB s.data.toList)) ∧ w = w' := by
  obtain ⟨l, hl⟩ : ∃ l, s.data.toList = l := ⟨_, rfl⟩
  have hsz : Hid (s.size = l.length) := Lib.hid (by rw [← hl, Lib.size_eq])
  have HG := Lib.hid fun k h => get_at s l hl k h
  rw [hl]
  clear hl
  go_enter Tryd.func4, Tryd.ntmps4
  go_wp2_with fail
  go_loopw [6] (fun i wr => ∃ k : Nat, i = .int .i64 (k : Int) ∧ k ≤ s.size ∧ Hid ((l.take k).all bl = true) ∧ w = wr) (fun i _ => s.size - (intOf i).toNat)
  case atStart => exact ⟨0, rfl, by omega, Lib.hid (by simp), rfl⟩
  case round =>
    obtain ⟨k, rfl, hk, hall, rfl⟩ := hrel
    by_cases hkn : k < s.size
    · obtain ⟨c, hc, hg⟩ := HG.out k hkn
      have hst := Lib.hid (all_step bl l k c hc)
      by_cases hb : bl c = true
      · have HA : Hid ((l.take (k + 1)).all bl = true) := Lib.hid (by rw [hst.out, hall.out, hb]; rfl)
        have hv : c.toNat = 9 ∨ c.toNat = 10 ∨ c.toNat = 13 ∨ c.toNat = 32 := by
          unfold bl at hb
          simp only [Bool.or_eq_true, beq_iff_eq] at hb
          omega
        clear hb hc
        rcases hv with hv | hv | hv | hv
        all_goals
          go_wp2_with fail
          all_goals
            go_roundw
            case rel => exact ⟨k + 1, by go_num, by omega, HA, trivial⟩
            case measure => simp [intOf]; omega
      · have hb' : bl c = false := by simpa using hb
        have hno := Lib.hid (all_no bl l k c hc hb')
        have n9 : ¬ c.toNat = 9 := by intro e; simp [bl, e] at hb'
        have n10 : ¬ c.toNat = 10 := by intro e; simp [bl, e] at hb'
        have n13 : ¬ c.toNat = 13 := by intro e; simp [bl, e] at hb'
        have n32 : ¬ c.toNat = 32 := by intro e; simp [bl, e] at hb'
        have m9 : ¬ (c.toNat : Int) = 9 := by omega
        have m10 : ¬ (c.toNat : Int) = 10 := by omega
        have m13 : ¬ (c.toNat : Int) = 13 := by omega
        have m32 : ¬ (c.toNat : Int) = 32 := by omega
        have b9 : ((c.toNat : Int) != 9) = true := by simpa using m9
        have b10 : ((c.toNat : Int) != 10) = true := by simpa using m10
        have b13 : ((c.toNat : Int) != 13) = true := by simpa using m13
        have b32 : ((c.toNat : Int) != 32) = true := by simpa using m32
        clear hb hb' hc n9 n10 n13 n32 m9 m10 m13 m32
        go_wp2_with fail
        go_ret
        refine ⟨ret_b ?_, rfl⟩
        unfold blanksB
        rw [hno.out]
        rfl
    · have hk2 : k = s.size := by omega
      subst hk2
      go_wp2_with fail
      go_ret
      refine ⟨ret_b ?_, rfl⟩
      have h := hall.out
      rw [hsz.out, List.take_length] at h
      unfold blanksB
      rw [h, hsz.out]
      simp
      omega

set_option maxHeartbeats 1000000 in
theorem spaces5 (s : ByteArray) (hs : s.size ≤ 2147483647) (w : World) : Calls Tryd.prog 5 #[.string s] w fun e w' => e = .returned (.bool (spacesB s.data.toList)) ∧ w = w' := by
  obtain ⟨l, hl⟩ : ∃ l, s.data.toList = l := ⟨_, rfl⟩
  have hsz : Hid (s.size = l.length) := Lib.hid (by rw [← hl, Lib.size_eq])
  have HG := Lib.hid fun k h => get_at s l hl k h
  have HL := Lib.hid hl
  rw [hl]
  clear hl
  go_enter Tryd.func5, Tryd.ntmps5
  go_wp2_with fail
  go_loopw [6] (fun i wr => ∃ k : Nat, i = .int .i64 (k : Int) ∧ k ≤ s.size ∧ Hid ((l.take k).all sp = true) ∧ w = wr) (fun i _ => s.size - (intOf i).toNat)
  case atStart => exact ⟨0, rfl, by omega, Lib.hid (by simp), rfl⟩
  case round =>
    obtain ⟨k, rfl, hk, hall, rfl⟩ := hrel
    by_cases hkn : k < s.size
    · obtain ⟨c, hc, hg⟩ := HG.out k hkn
      have hst := Lib.hid (all_step sp l k c hc)
      by_cases hb : sp c = true
      · have HA : Hid ((l.take (k + 1)).all sp = true) := Lib.hid (by rw [hst.out, hall.out, hb]; rfl)
        have hv : c.toNat = 32 := by
          unfold sp at hb
          simpa using hb
        clear hb hc
        go_wp2_with fail
        go_roundw
        case rel => exact ⟨k + 1, by go_num, by omega, HA, trivial⟩
        case measure => simp [intOf]; omega
      · have hb' : sp c = false := by simpa using hb
        have hno := Lib.hid (all_no sp l k c hc hb')
        have n32 : ¬ c.toNat = 32 := by intro e; simp [sp, e] at hb'
        have m32 : ¬ (c.toNat : Int) = 32 := by omega
        clear hb hb' hc
        go_wp2_with fail
        go_ret
        refine ⟨ret_b ?_, rfl⟩
        unfold spacesB
        rw [hno.out]
        rfl
    · have hk2 : k = s.size := by omega
      subst hk2
      have h := hall.out
      rw [hsz.out, List.take_length] at h
      have HA := Lib.hid h
      clear h hall
      cases l with
      | nil =>
        have hs0 : s = ⟨#[]⟩ := by
          apply ByteArray.ext
          apply Array.toList_inj.1
          rw [HL.out]
        subst hs0
        go_wp2_with fail
        go_ret
        exact ⟨rfl, rfl⟩
      | cons a l =>
        have hne : ¬ s.toList = [] := by
          intro e
          have h1 := hsz.out
          have h2 := HL.out
          rw [← Lib.toList_data] at h2
          rw [e] at h2
          cases h2
        go_wp2_with fail
        go_ret
        refine ⟨ret_b ?_, rfl⟩
        have hne' : s.toList.isEmpty = false := by simpa using hne
        unfold spacesB
        rw [HA.out, hsz.out]
        simp [hne']
        omega
end Go.Proofs.YtgibcinbifaooaaDoor.att
