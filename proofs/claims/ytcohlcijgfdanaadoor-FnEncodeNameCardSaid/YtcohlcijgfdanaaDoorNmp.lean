/-
  FnEncodeName, the plain law: a name's bytes and how they are written.
-/
import Derived.Lib.HexFns2
import Derived.Lib.HexFns
namespace Go.Proofs.YtcohlcijgfdanaaDoor
open Go.Lib

/-- Is a byte written as a hexadecimal sequence in a name. -/
def needs (c : Nat) : Bool := c == 40 || c == 41 || c == 60 || c == 62 || c == 91 || c == 93 || c == 123 || c == 125 || c == 47 || c == 37 || c == 35 || decide (c < 33) || decide (126 < c)
/-- How one byte is written. -/
def enc1 (c : UInt8) : List UInt8 := if needs c.toNat then 35 :: Hx.encode [c] else [c]
def enc (l : List UInt8) : List UInt8 := l.flatMap enc1

theorem enc_append (a b : List UInt8) : enc (a ++ b) = enc a ++ enc b := by simp [enc]
theorem enc_cons (c : UInt8) (b : List UInt8) : enc (c :: b) = enc1 c ++ enc b := by simp [enc]
theorem enc_nil : enc [] = [] := rfl

/-- What a hexadecimal digit is worth. -/
def hexd (c : Nat) : Int := if 48 ≤ c ∧ c ≤ 57 then (c : Int) - 48 else if 97 ≤ c ∧ c ≤ 102 then (c : Int) - 97 + 10 else if 65 ≤ c ∧ c ≤ 70 then (c : Int) - 65 + 10 else -1

/-- A byte of a written name. -/
def good (c : Nat) : Bool := decide (33 ≤ c) && decide (c ≤ 126) && !(c == 40 || c == 41 || c == 60 || c == 62 || c == 91 || c == 93 || c == 123 || c == 125 || c == 47 || c == 37)

theorem facts : ∀ n : Fin 256, let c := UInt8.ofNat n.val
    (needs n.val = true → ∃ p q : UInt8, Hx.encode [c] = [p, q] ∧ good p.toNat = true ∧ good q.toNat = true ∧ hexd p.toNat * 16 + hexd q.toNat = n.val ∧ 0 ≤ hexd p.toNat ∧ 0 ≤ hexd q.toNat ∧ hexd p.toNat < 16 ∧ hexd q.toNat < 16 ∧ Hx.decode [p, q] = ([c], .ok)) ∧ (needs n.val = false → good n.val = true ∧ n.val ≠ 35 ∧ n.val ≠ 0) := by
  intro n
  have h : ∀ n : Fin 256, (needs n.val = true → good (Hx.digit (n.val / 16)).toNat = true ∧ good (Hx.digit (n.val % 16)).toNat = true ∧ hexd (Hx.digit (n.val / 16)).toNat * 16 + hexd (Hx.digit (n.val % 16)).toNat = n.val ∧ 0 ≤ hexd (Hx.digit (n.val / 16)).toNat ∧ 0 ≤ hexd (Hx.digit (n.val % 16)).toNat ∧ hexd (Hx.digit (n.val / 16)).toNat < 16 ∧ hexd (Hx.digit (n.val % 16)).toNat < 16 ∧ ¬ 15 < Hx.v (Hx.digit (n.val / 16)) ∧ ¬ 15 < Hx.v (Hx.digit (n.val % 16)) ∧ UInt8.ofNat (Hx.v (Hx.digit (n.val / 16)) * 16 + Hx.v (Hx.digit (n.val % 16))) = UInt8.ofNat n.val) ∧ (needs n.val = false → good n.val = true ∧ n.val ≠ 35 ∧ n.val ≠ 0) := by
    decide +kernel
  obtain ⟨h1, h2⟩ := h n
  refine ⟨fun hn => ?_, h2⟩
  obtain ⟨a1, a2, a3, a4, a5, a6, a7, a8, a9, a10⟩ := h1 hn
  have e : (UInt8.ofNat n.val).toNat = n.val := by simp
  refine ⟨_, _, by rw [Hx.encode_cons, e]; rfl, a1, a2, a3, a4, a5, a6, a7, ?_⟩
  rw [Hx.decode_two, if_neg a8, if_neg a9, a10, Hx.decode_nil]

/-- The two digits of a byte that needs them. -/
theorem of_needs (c : UInt8) (h : needs c.toNat = true) : ∃ p q : UInt8, enc1 c = [35, p, q] ∧ Hx.encode [c] = [p, q] ∧ good p.toNat = true ∧ good q.toNat = true ∧ hexd p.toNat * 16 + hexd q.toNat = c.toNat ∧ 0 ≤ hexd p.toNat ∧ 0 ≤ hexd q.toNat ∧ hexd p.toNat < 16 ∧ hexd q.toNat < 16 ∧ Hx.decode [p, q] = ([c], .ok) := by
  have hc : UInt8.ofNat c.toNat = c := by simp
  obtain ⟨p, q, h1, h2, h3, h4, h5, h6, h7, h8, h9⟩ := (facts ⟨c.toNat, c.toNat_lt⟩).1 h
  simp only [hc] at h1 h9
  exact ⟨p, q, by unfold enc1; rw [if_pos h, h1], h1, h2, h3, h4, h5, h6, h7, h8, h9⟩
theorem of_plain (c : UInt8) (h : needs c.toNat = false) : enc1 c = [c] ∧ good c.toNat = true ∧ c.toNat ≠ 35 ∧ c.toNat ≠ 0 := by
  obtain ⟨h1, h2⟩ := (facts ⟨c.toNat, c.toNat_lt⟩).2 h
  exact ⟨by unfold enc1; rw [h]; rfl, h1, h2⟩

theorem enc1_length (c : UInt8) : 1 ≤ (enc1 c).length ∧ (enc1 c).length ≤ 3 := by
  cases h : needs c.toNat
  · rw [(of_plain c h).1]; simp
  · obtain ⟨p, q, h1, _⟩ := of_needs c h
    rw [h1]; simp
theorem enc_length (l : List UInt8) : l.length ≤ (enc l).length ∧ (enc l).length ≤ 3 * l.length := by
  induction l with
  | nil => simp [enc]
  | cons c l ih =>
    have := enc1_length c
    rw [enc_cons]; simp; omega

theorem enc_good (l : List UInt8) : ∀ x ∈ enc l, good x.toNat = true := by
  intro x hx
  obtain ⟨c, _, hc⟩ := List.mem_flatMap.1 hx
  cases h : needs c.toNat
  · obtain ⟨h1, h2, _⟩ := of_plain c h
    rw [h1] at hc
    simp at hc
    subst hc
    exact h2
  · obtain ⟨p, q, h1, _, h2, h3, _⟩ := of_needs c h
    rw [h1] at hc
    simp at hc
    rcases hc with rfl | rfl | rfl
    · decide
    · exact h2
    · exact h3
end Go.Proofs.YtcohlcijgfdanaaDoor
