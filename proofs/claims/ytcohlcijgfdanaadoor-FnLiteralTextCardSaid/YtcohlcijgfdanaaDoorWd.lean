/-
  Runes of a valid text, its units of UTF-16 and its bytes: plain laws.
-/
import Derived.Lib.MapLaws
import Derived.Lib.ValidLaws
namespace Go.Proofs.YtcohlcijgfdanaaDoor.wd
open Go.Lib

def runesF : Nat → List UInt8 → List Nat
  | 0, _ => []
  | n + 1, l => if l = [] then [] else (decodeL l).1 :: runesF n (l.drop (decodeL l).2)
/-- The runes of a text, one behind the other. -/
def runes (l : List UInt8) : List Nat := runesF l.length l

theorem runesF_nil (n : Nat) : runesF n [] = [] := by cases n <;> simp [runesF]
theorem runesF_fuel : ∀ (n m : Nat) (l : List UInt8), l.length ≤ n → l.length ≤ m → runesF n l = runesF m l
  | 0, m, l, h, _ => by
    obtain rfl : l = [] := List.length_eq_zero_iff.1 (by omega)
    rw [runesF_nil, runesF_nil]
  | n + 1, 0, l, _, h => by
    obtain rfl : l = [] := List.length_eq_zero_iff.1 (by omega)
    rw [runesF_nil, runesF_nil]
  | n + 1, m + 1, l, hn, hm => by
    by_cases hl : l = []
    · subst hl; rw [runesF_nil, runesF_nil]
    · have hw := decodeL_width l
      have hp : 0 < l.length := List.length_pos_iff.2 hl
      simp only [runesF, if_neg hl]
      rw [runesF_fuel n m _ (by rw [List.length_drop]; omega) (by rw [List.length_drop]; omega)]
theorem runes_nil : runes [] = [] := rfl
theorem runes_step (l : List UInt8) (h : l ≠ []) : runes l = (decodeL l).1 :: runes (l.drop (decodeL l).2) := by
  have hp : 0 < l.length := List.length_pos_iff.2 h
  have hw := decodeL_width l
  unfold runes
  obtain ⟨n, hn⟩ : ∃ n, l.length = n + 1 := ⟨l.length - 1, by omega⟩
  rw [hn]
  simp only [runesF, if_neg h]
  rw [runesF_fuel n _ _ (by rw [List.length_drop]; omega) (Nat.le_refl _)]

/-- A code point that is no half of a pair. -/
def Scal (c : Nat) : Prop := c < 55296 ∨ (57344 ≤ c ∧ c ≤ 1114111)
theorem scal_decode (l : List UInt8) : Scal (decodeL l).1 := by
  rw [decodeL_N]
  have h0 := (l.getD 0 0).toNat_lt
  generalize (l.getD 0 0).toNat = a at *
  generalize (l.getD 1 0).toNat = b
  generalize (l.getD 2 0).toNat = c
  generalize (l.getD 3 0).toNat = d
  unfold Scal decodeN
  repeat' split
  all_goals simp only
  all_goals omega

theorem runes_ind {p : List UInt8 → Prop} (h0 : p []) (hs : ∀ l, l ≠ [] → p (l.drop (decodeL l).2) → p l) : ∀ l, p l := by
  have key : ∀ n (l : List UInt8), l.length ≤ n → p l := by
    intro n
    induction n with
    | zero =>
      intro l hl
      obtain rfl : l = [] := List.length_eq_zero_iff.1 (by omega)
      exact h0
    | succ n ih =>
      intro l hl
      by_cases h : l = []
      · subst h; exact h0
      · have hw := decodeL_width l
        exact hs l h (ih _ (by rw [List.length_drop]; omega))
  exact fun l => key l.length l (Nat.le_refl _)

theorem runes_scal : ∀ l : List UInt8, ∀ c ∈ runes l, Scal c := by
  refine runes_ind (by simp [runes_nil]) fun l hl ih c hc => ?_
  rw [runes_step l hl] at hc
  rcases List.mem_cons.1 hc with rfl | h
  · exact scal_decode l
  · exact ih c h

theorem runes_enc : ∀ l : List UInt8, validD l = true → (runes l).flatMap (fun (c : Nat) => encodeRune (c : Int)) = l := by
  refine runes_ind (fun _ => rfl) fun l hl ih hv => ?_
  rw [validD_step l hl] at hv
  split at hv
  · cases hv
  · rename_i hn
    rw [runes_step l hl, List.flatMap_cons, ih hv, encode_decode l hl hn, List.take_append_drop]

def unit (c : Nat) : List Nat := if c < 65536 then [c] else [55296 + (c - 65536) / 1024, 56320 + (c - 65536) % 1024]
def be (u : Nat) : List UInt8 := [UInt8.ofNat (u / 256), UInt8.ofNat (u % 256)]
def units (cs : List Nat) : List Nat := cs.flatMap unit
def bytes (us : List Nat) : List UInt8 := us.flatMap be
def wide (cs : List Nat) : List UInt8 := [254, 255] ++ bytes (units cs)

theorem unit_len (c : Nat) : 1 ≤ (unit c).length ∧ (unit c).length ≤ 2 := by unfold unit; split <;> simp
theorem unit_lt (c : Nat) (h : Scal c) : ∀ u ∈ unit c, u < 65536 := by
  intro u hu
  unfold unit at hu
  unfold Scal at h
  split at hu
  · simp at hu; omega
  · simp at hu; omega
theorem units_lt (cs : List Nat) (h : ∀ c ∈ cs, Scal c) : ∀ u ∈ units cs, u < 65536 := by
  intro u hu
  obtain ⟨c, hc, h1⟩ := List.mem_flatMap.1 hu
  exact unit_lt c (h c hc) u h1
theorem units_len (cs : List Nat) : (units cs).length ≤ 2 * cs.length := by
  induction cs with
  | nil => simp [units]
  | cons c cs ih =>
    have := (unit_len c).2
    simp only [units, List.flatMap_cons, List.length_append, List.length_cons] at ih ⊢
    omega
theorem bytes_len (us : List Nat) : (bytes us).length = 2 * us.length := by
  induction us with
  | nil => rfl
  | cons u us ih =>
    have hb : (be u).length = 2 := rfl
    simp only [bytes, List.flatMap_cons, List.length_append, List.length_cons] at ih ⊢
    omega
theorem runes_len : ∀ l : List UInt8, (runes l).length ≤ l.length := by
  refine runes_ind (by simp [runes_nil]) fun l hl ih => ?_
  have hw := decodeL_width l
  have hp : 0 < l.length := List.length_pos_iff.2 hl
  rw [runes_step l hl, List.length_cons]
  rw [List.length_drop] at ih
  omega
theorem wide_len (l : List UInt8) : (wide (runes l)).length ≤ 2 + 4 * l.length := by
  have h1 := runes_len l
  have h2 := units_len (runes l)
  unfold wide
  rw [List.length_append, bytes_len]
  simp
  omega
end Go.Proofs.YtcohlcijgfdanaaDoor.wd
