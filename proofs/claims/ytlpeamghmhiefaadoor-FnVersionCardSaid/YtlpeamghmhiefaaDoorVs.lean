/-
  FnVersion: it returns true for every two numbers.
-/
import Derived.Test.YtlpeamghmhiefaaDoorRows
import Derived.Test.YtlpeamghmhiefaaDoorShelf
import Derived.Lib.Strings
import Derived.Lib.Walk
import Derived.Lib.Hide
import Derived.Laws.Strings3
import Derived.WalkKit
import Derived.WalkSpells
import Derived.BigCall
import Derived.BigGuard
import Derived.Below
namespace Go.Proofs.YtlpeamghmhiefaaDoor
open Go.RowKit

/-- A number's digits, up to 99. -/
def dig (n : Nat) : List UInt8 := if n < 10 then [UInt8.ofNat (48 + n)] else [UInt8.ofNat (48 + n / 10), UInt8.ofNat (48 + n % 10)]
theorem dec_dig (n : Nat) (h : n < 100) : Lib.decDigits n = dig n := by
  unfold dig
  split
  · exact Lib.decDigits_one (by assumption)
  · exact Lib.decDigits_two (by assumption) h
/-- A version's name. -/
def nameL (a b : Nat) : List UInt8 := dig a ++ [46] ++ dig b
def known (a b : Nat) : Bool := (a == 1 && decide (b ≤ 7)) || (a == 2 && b == 0)

theorem unknown : ∀ a b : Fin 100, known a.val b.val = false → (nameL a.val b.val == [49, 46, 48]) = false ∧ (nameL a.val b.val == [49, 46, 49]) = false ∧ (nameL a.val b.val == [49, 46, 50]) = false ∧ (nameL a.val b.val == [49, 46, 51]) = false ∧
    (nameL a.val b.val == [49, 46, 52]) = false ∧ (nameL a.val b.val == [49, 46, 53]) = false ∧ (nameL a.val b.val == [49, 46, 54]) = false ∧ (nameL a.val b.val == [49, 46, 55]) = false ∧ (nameL a.val b.val == [50, 46, 48]) = false := by
  decide +kernel

theorem text (n : Nat) (h : n < 100) (w : World) : Calls Tryd.prog 7 #[.int .i64 n] w fun e w' => e = .returned (.string ⟨(dig n).toArray⟩) ∧ w' = w := by
  have hc := Tryd.strconv_Itoa_small n h w
  rw [dec_dig n h] at hc
  go_enter Tryd.func7, Tryd.ntmps7
  go_wp2_with (go_at_call 20; refine hc.mono ?_; rintro e w' ⟨rfl, rfl⟩)
  go_ret
  exact ⟨rfl, rfl⟩

theorem pdf0 (w : World) : Calls Tryd.prog 21 #[.string ⟨#[49, 46, 48]⟩] w fun e w' => e = .returned (.tuple #[.int .i64 0, .nilIface]) ∧ w' = w := by
  go_enter Tryd.func21, Tryd.ntmps21
  go_wp2
  go_ret2
  exact ⟨rfl, rfl⟩
theorem pdf1 (w : World) : Calls Tryd.prog 21 #[.string ⟨#[49, 46, 49]⟩] w fun e w' => e = .returned (.tuple #[.int .i64 1, .nilIface]) ∧ w' = w := by
  go_enter Tryd.func21, Tryd.ntmps21
  go_wp2
  go_ret2
  exact ⟨rfl, rfl⟩
theorem pdf8 (w : World) : Calls Tryd.prog 21 #[.string ⟨#[50, 46, 48]⟩] w fun e w' => e = .returned (.tuple #[.int .i64 8, .nilIface]) ∧ w' = w := by
  go_enter Tryd.func21, Tryd.ntmps21
  go_wp2
  go_ret2
  exact ⟨rfl, rfl⟩

theorem pdfNone (s : ByteArray) (w : World) (h0 : (s.toList == [49, 46, 48]) = false) (h1 : (s.toList == [49, 46, 49]) = false) (h2 : (s.toList == [49, 46, 50]) = false) (h3 : (s.toList == [49, 46, 51]) = false) (h4 : (s.toList == [49, 46, 52]) = false) (h5 : (s.toList == [49, 46, 53]) = false) (h6 : (s.toList == [49, 46, 54]) = false) (h7 : (s.toList == [49, 46, 55]) = false) (h8 : (s.toList == [50, 46, 48]) = false) :
    Calls Tryd.prog 21 #[.string s] w fun e w' => e = .returned (.tuple #[.int .i64 (-1), .iface 137 (.pointer (some ⟨w.heap.size, 0, none⟩))]) ∧ Below w.heap.size w w' := by
  go_enter Tryd.func21, Tryd.ntmps21
  go_wp2
  go_ret2
  exact ⟨rfl, (Below.refl _ _).alloc (Nat.le_refl _) _⟩
end Go.Proofs.YtlpeamghmhiefaaDoor
