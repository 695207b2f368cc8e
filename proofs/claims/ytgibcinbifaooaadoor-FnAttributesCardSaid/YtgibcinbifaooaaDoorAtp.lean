/-
  Numerals of decimal digits: plain laws.
-/
import Derived.Lib.Atoi
import Derived.Lib.ItoaNum
import Derived.Lib.ItoaMem
namespace Go.Proofs.YtgibcinbifaooaaDoor.att
open Go.Lib

theorem decFrom_snoc : ∀ (l : List UInt8) (acc m : Nat) (b : UInt8) (d : Nat), decFrom acc l = some m → digitVal b = some d → decFrom acc (l ++ [b]) = some (m * 10 + d)
  | [], acc, m, b, d, h, hb => by
    simp only [decFrom, Option.some.injEq] at h
    subst h
    simp [decFrom, hb]
  | x :: l, acc, m, b, d, h, hb => by
    simp only [decFrom, List.cons_append] at h ⊢
    cases hx : digitVal x with
    | none => rw [hx] at h; cases h
    | some v =>
      rw [hx] at h
      exact decFrom_snoc l _ m b d h hb

theorem digit_of (d : Nat) (h : d < 10) : (UInt8.ofNat (48 + d)).toNat = 48 + d := by rw [UInt8.toNat_ofNat']; omega
theorem digitVal_of (d : Nat) (h : d < 10) : digitVal (UInt8.ofNat (48 + d)) = some d := by
  unfold digitVal
  rw [digit_of d h, if_pos (by omega)]
  congr 1
  omega

theorem dd_step (u : Nat) (h : ¬ u < 10) : decDigits u = decDigits (u / 10) ++ [UInt8.ofNat (48 + u % 10)] := by
  rw [decDigits, dif_neg h]

theorem dd_ind {p : Nat → Prop} (h0 : ∀ u, u < 10 → p u) (hs : ∀ u, ¬ u < 10 → p (u / 10) → p u) : ∀ u, p u := by
  intro u
  induction u using Nat.strongRecOn with
  | _ u ih =>
    by_cases h : u < 10
    · exact h0 u h
    · exact hs u h (ih (u / 10) (by omega))

theorem dd_dec : ∀ u : Nat, decFrom 0 (decDigits u) = some u := by
  refine dd_ind (fun u h => ?_) fun u h ih => ?_
  · rw [decDigits_one h]
    show (match digitVal (UInt8.ofNat (48 + u)) with | some d => decFrom (0 * 10 + d) [] | none => none) = some u
    rw [digitVal_of u h]
    simp [decFrom]
  · rw [dd_step u h, decFrom_snoc _ _ _ _ _ ih (digitVal_of (u % 10) (by omega))]
    congr 1
    omega

theorem dd_digit : ∀ u : Nat, ∀ b ∈ decDigits u, 48 ≤ b.toNat ∧ b.toNat ≤ 57 := by
  refine dd_ind (fun u h b hb => ?_) fun u h ih b hb => ?_
  · rw [decDigits_one h] at hb
    obtain rfl := List.mem_singleton.1 hb
    rw [digit_of u h]
    omega
  · rw [dd_step u h] at hb
    rcases List.mem_append.1 hb with hb | hb
    · exact ih b hb
    · obtain rfl := List.mem_singleton.1 hb
      rw [digit_of _ (by omega)]
      omega

theorem dd_ne (u : Nat) : decDigits u ≠ [] := by
  intro e
  have h1 := decDigits_length u
  have h2 := nDigits_pos u
  rw [e] at h1
  simp at h1
  omega

theorem dd_len : ∀ (k u : Nat), u < 10 ^ (k + 1) → (decDigits u).length ≤ k + 1
  | 0, u, h => by rw [decDigits_one (by omega)]; simp
  | k + 1, u, h => by
    by_cases hu : u < 10
    · rw [decDigits_one hu]; simp
    · rw [dd_step u hu, List.length_append]
      have := dd_len k (u / 10) (by
        have : 10 ^ (k + 1 + 1) = 10 * 10 ^ (k + 1) := by rw [Nat.pow_succ]; omega
        omega)
      simp
      omega

theorem atoi_dd (u : Nat) : atoi (decDigits u) = some (u : Int) := by
  have hd := dd_dec u
  have hn := dd_ne u
  have hg := dd_digit u
  generalize decDigits u = l at *
  cases l with
  | nil => exact absurd rfl hn
  | cons b r =>
    have hb := hg b (by simp)
    have h1 : (b == 45) = false := by
      simp only [beq_eq_false_iff_ne, ne_eq]
      intro e; subst e; simp at hb
    have h2 : (b == 43) = false := by
      simp only [beq_eq_false_iff_ne, ne_eq]
      intro e; subst e; simp at hb
    simp only [atoi, h1, h2, Bool.false_eq_true, if_false]
    unfold decNat
    simp [hd]
end Go.Proofs.YtgibcinbifaooaaDoor.att
