/-
  FnIsUTF16: the law's walk.
-/
import Derived.Test.YtcohlcijgfdanaaDoorU16f
import Derived.Test.YtcohlcijgfdanaaDoorShelfL
namespace Go.Proofs.YtcohlcijgfdanaaDoor.u16
open Go.RowKit

theorem get_of (t : ByteArray) (l : List UInt8) (ht : t.data.toList = l) (k : Nat) (h : k < t.size) (c : UInt8) (hc : l[k]? = some c) : t[k] = c := by
  rw [← ht] at hc
  have : t.data.toList[k]? = some (t[k]) := by
    rw [List.getElem?_eq_getElem (by rw [← Lib.size_eq]; exact h)]
    simp
    rfl
  rw [this] at hc
  exact Option.some.inj hc

/-- Does a string begin with the mark. -/
def mk (l : List UInt8) : Bool := match l with
  | a :: b :: _ => a == 254 && b == 255
  | _ => false
theorem mk_prefix (l : List UInt8) : Lib.hasPrefix l [254, 255] = mk l := by
  match l with
  | [] => rfl
  | [a] => simp [Lib.hasPrefix, List.isPrefixOf, mk]
  | a :: b :: l =>
    rw [Bool.eq_iff_iff]
    simp only [Lib.hasPrefix, List.isPrefixOf, mk, Bool.and_true, Bool.and_eq_true, beq_iff_eq]
    exact ⟨fun h => ⟨h.1.symm, h.2.symm⟩, fun h => ⟨h.1.symm, h.2.symm⟩⟩

theorem is34 (s : ByteArray) (w : World) : Calls Tryd.prog 34 #[.string s] w fun e w' => e = .returned (.bool (mk s.data.toList)) ∧ w = w' := by
  have hc := Tryd.strings_HasPrefix s ⟨#[254, 255]⟩ w
  rw [show (⟨#[254, 255]⟩ : ByteArray).data.toList = [254, 255] from rfl, mk_prefix] at hc
  have HC := Lib.hid hc
  clear hc
  go_enter Tryd.func34, Tryd.ntmps34
  go_wp2_with (go_at_call 61; refine HC.out.mono ?_; rintro e w' ⟨rfl, hw⟩; obtain rfl := hw.symm)
  go_ret
  exact ⟨rfl, rfl⟩
theorem is14 (s : ByteArray) (w : World) : Calls Tryd.prog 14 #[.string s] w fun e w' => e = .returned (.bool (mk s.data.toList)) ∧ w = w' := by
  have HC := Lib.hid (is34 s w)
  go_enter Tryd.func14, Tryd.ntmps14
  go_wp2_with (go_at_call 34; refine HC.out.mono ?_; rintro e w' ⟨rfl, rfl⟩)
  go_ret
  exact ⟨rfl, rfl⟩

theorem ret_b {a b : Bool} (h : a = b) : Ending.returned (.bool a) = .returned (.bool b) := by rw [h]

theorem marked (s : ByteArray) (w : World) : Calls Tryd.prog 15 #[.string s] w fun e w' => e = .returned (.bool (mk s.data.toList)) ∧ w = w' := by
  obtain ⟨l, hl⟩ : ∃ l, s.data.toList = l := ⟨_, rfl⟩
  have hsz : s.size = l.length := by rw [← hl, Lib.size_eq]
  rw [hl]
  match l, hl, hsz with
  | [], hl, hsz =>
    have hz : s.size = 0 := hsz
    have h2 : ¬ (2 : Int) ≤ (s.size : Int) := by omega
    clear hz
    clear hl hsz
    go_enter Tryd.func15, Tryd.ntmps15
    go_wp2
    go_ret
    exact ⟨rfl, rfl⟩
  | [a], hl, hsz =>
    have hz : s.size = 1 := hsz
    have h2 : ¬ (2 : Int) ≤ (s.size : Int) := by omega
    clear hz
    clear hl hsz
    go_enter Tryd.func15, Tryd.ntmps15
    go_wp2
    go_ret
    exact ⟨rfl, rfl⟩
  | a :: b :: l, hl, hsz =>
    have h2 : (2 : Int) ≤ (s.size : Int) := by simp at hsz; omega
    have k0 : 0 < s.size := by omega
    have k1 : 1 < s.size := by omega
    have g0 := get_of s _ hl 0 k0 a rfl
    have g1 := get_of s _ hl 1 k1 b rfl
    have ha : (a == 254) = ((a.toNat : Int) == 254) := by
      rw [Bool.eq_iff_iff]; simp only [beq_iff_eq]
      constructor
      · intro h; rw [h]; rfl
      · intro h; exact UInt8.toNat_inj.1 (by have : a.toNat = 254 := by omega
                                             rw [this]; rfl)
    have hb : (b == 255) = ((b.toNat : Int) == 255) := by
      rw [Bool.eq_iff_iff]; simp only [beq_iff_eq]
      constructor
      · intro h; rw [h]; rfl
      · intro h; exact UInt8.toNat_inj.1 (by have : b.toNat = 255 := by omega
                                             rw [this]; rfl)
    have HR : Hid (mk (a :: b :: l) = (((a.toNat : Int) == 254) && ((b.toNat : Int) == 255))) := Lib.hid (by unfold mk; simp only; rw [ha, hb])
    clear hl hsz ha hb
    cases e0 : ((a.toNat : Int) == 254)
    · rw [e0] at HR
      go_enter Tryd.func15, Tryd.ntmps15
      go_wp2
      go_ret
      exact ⟨ret_b HR.out.symm, rfl⟩
    · rw [e0] at HR
      go_enter Tryd.func15, Tryd.ntmps15
      go_wp2
      all_goals
        go_ret
        refine ⟨ret_b ?_, rfl⟩
        rw [HR.out]
        simp [*]

set_option maxHeartbeats 2000000 in
theorem widens (w : World) : Calls Tryd.prog 16 #[] w fun e w' => e = .returned (.bool true) ∧ Below w.heap.size w w' := by
  have c1 := Lib.hid from6
  have c2 := Lib.hid of97
  have c3 : Hid (∀ w, Calls Tryd.prog 14 #[.string ⟨#[254, 255, 0, 97]⟩] w fun e w' => e = .returned (.bool true) ∧ w = w') := Lib.hid fun w => is14 ⟨#[254, 255, 0, 97]⟩ w
  go_enter Tryd.func16, Tryd.ntmps16
  go_wp2_with (first
    | (go_at_call 19; refine (c1.out _).mono ?_; rintro e w1 ⟨rfl, hb1⟩)
    | (go_at_call 20; refine (c2.out _).mono ?_; rintro e w2 ⟨rfl, hb2⟩)
    | (go_at_call 14; refine (c3.out _).mono ?_; rintro e w3 ⟨rfl, rfl⟩))
  go_ret
  exact ⟨rfl, hb1.trans (hb2.mono hb1.size)⟩

theorem isUTF16_walk (s : ByteArray) (w : World) : Calls Tryd.prog 4 #[.string s] w fun e w' => e = .returned (.bool true) ∧ Below w.heap.size w w' := by
  by_cases hs : (2147483647 : Int) < (s.size : Int)
  · go_enter Tryd.func4, Tryd.ntmps4
    go_wp2_with fail
    go_ret
    exact ⟨rfl, Below.refl _ _⟩
  · have c1 := Lib.hid fun w => is14 s w
    have c2 := Lib.hid fun w => marked s w
    have c3 := Lib.hid widens
    generalize mk s.data.toList = b at c1 c2
    cases b
    · go_enter Tryd.func4, Tryd.ntmps4
      go_wp2_with (first
        | (go_at_call 14; refine (c1.out _).mono ?_; rintro e w1 ⟨rfl, rfl⟩)
        | (go_at_call 15; refine (c2.out _).mono ?_; rintro e w1 ⟨rfl, rfl⟩)
        | (go_at_call 16; refine (c3.out _).mono ?_; rintro e w3 ⟨rfl, hb⟩))
      go_ret
      exact ⟨rfl, hb⟩
    · go_enter Tryd.func4, Tryd.ntmps4
      go_wp2_with (first
        | (go_at_call 14; refine (c1.out _).mono ?_; rintro e w1 ⟨rfl, rfl⟩)
        | (go_at_call 15; refine (c2.out _).mono ?_; rintro e w1 ⟨rfl, rfl⟩)
        | (go_at_call 16; refine (c3.out _).mono ?_; rintro e w3 ⟨rfl, hb⟩))
      go_ret
      exact ⟨rfl, hb⟩
end Go.Proofs.YtcohlcijgfdanaaDoor.u16

namespace Go.Proofs.YtcohlcijgfdanaaDoor
open Go.RowKit
def fnIsUTF16Tab (_ : World) : Prop := True
theorem fnIsUTF16_tab {W : World} (_ : laidMetH Tryd.prog Rows.fnIsUTF16Row.laid W) : fnIsUTF16Tab W := trivial
theorem fnIsUTF16_walk (s : ByteArray) (w : World) (_ : fnIsUTF16Tab w) (_ : s.size ≤ maxLen) :
    Calls Tryd.prog 4 #[.string s] w fun e w' => e = .returned (.bool true) ∧ Below w.heap.size w w' := u16.isUTF16_walk s w
end Go.Proofs.YtcohlcijgfdanaaDoor
