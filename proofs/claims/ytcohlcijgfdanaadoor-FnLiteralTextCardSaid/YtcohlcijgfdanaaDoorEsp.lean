/-
  FnEscape, the plain law: a string's bytes and how they are written between parentheses.
-/
import Derived.Lib.Strings
namespace Go.Proofs.YtcohlcijgfdanaaDoor.esc

/-- Is a byte written with a reverse solidus. -/
def sp (c : Nat) : Bool := c == 10 || c == 13 || c == 9 || c == 8 || c == 12 || c == 92 || c == 40 || c == 41
/-- What stands behind the reverse solidus. -/
def escN (c : Nat) : Nat := if c = 10 then 110 else if c = 13 then 114 else if c = 9 then 116 else if c = 8 then 98 else if c = 12 then 102 else c
def escC (c : UInt8) : UInt8 := UInt8.ofNat (escN c.toNat)
def esc1 (c : UInt8) : List UInt8 := if sp c.toNat then [92, escC c] else [c]
def escL (l : List UInt8) : List UInt8 := l.flatMap esc1

theorem escL_append (a b : List UInt8) : escL (a ++ b) = escL a ++ escL b := by simp [escL]
theorem escL_cons (c : UInt8) (b : List UInt8) : escL (c :: b) = esc1 c ++ escL b := by simp [escL]
theorem escL_nil : escL [] = [] := rfl

theorem facts : ∀ n : Fin 256, (sp n.val = true → (UInt8.ofNat (escN n.val)).toNat = escN n.val ∧ ((n.val = 10 ∧ escN n.val = 110) ∨ (n.val = 13 ∧ escN n.val = 114) ∨ (n.val = 9 ∧ escN n.val = 116) ∨ (n.val = 8 ∧ escN n.val = 98) ∨ (n.val = 12 ∧ escN n.val = 102) ∨ (n.val = 92 ∧ escN n.val = 92) ∨ (n.val = 40 ∧ escN n.val = 40) ∨ (n.val = 41 ∧ escN n.val = 41))) ∧
    (sp n.val = false → n.val ≠ 10 ∧ n.val ≠ 13 ∧ n.val ≠ 9 ∧ n.val ≠ 8 ∧ n.val ≠ 12 ∧ n.val ≠ 92 ∧ n.val ≠ 40 ∧ n.val ≠ 41) := by
  decide +kernel

/-- The eight bytes, and what is written for them. -/
def Pair (c x : Nat) : Prop := (c = 10 ∧ x = 110) ∨ (c = 13 ∧ x = 114) ∨ (c = 9 ∧ x = 116) ∨ (c = 8 ∧ x = 98) ∨ (c = 12 ∧ x = 102) ∨ (c = 92 ∧ x = 92) ∨ (c = 40 ∧ x = 40) ∨ (c = 41 ∧ x = 41)

theorem of_sp (c : UInt8) (h : sp c.toNat = true) : esc1 c = [92, escC c] ∧ Pair c.toNat (escC c).toNat := by
  obtain ⟨h1, h2⟩ := (facts ⟨c.toNat, c.toNat_lt⟩).1 h
  refine ⟨by unfold esc1; rw [if_pos h], ?_⟩
  unfold Pair escC
  simp only at h1 h2
  rw [h1]
  exact h2
theorem of_plain (c : UInt8) (h : sp c.toNat = false) : esc1 c = [c] ∧ c.toNat ≠ 10 ∧ c.toNat ≠ 13 ∧ c.toNat ≠ 9 ∧ c.toNat ≠ 8 ∧ c.toNat ≠ 12 ∧ c.toNat ≠ 92 ∧ c.toNat ≠ 40 ∧ c.toNat ≠ 41 :=
  ⟨by unfold esc1; rw [h]; rfl, (facts ⟨c.toNat, c.toNat_lt⟩).2 h⟩
theorem esc1_length (c : UInt8) : 1 ≤ (esc1 c).length ∧ (esc1 c).length ≤ 2 := by
  unfold esc1
  split <;> simp
theorem escL_length (l : List UInt8) : l.length ≤ (escL l).length ∧ (escL l).length ≤ 2 * l.length := by
  induction l with
  | nil => simp [escL]
  | cons c l ih =>
    have := esc1_length c
    rw [escL_cons]; simp; omega
end Go.Proofs.YtcohlcijgfdanaaDoor.esc
