/-
  FnLiteralText: what a text is without its escapes: plain laws.
-/
import Derived.Test.YtcohlcijgfdanaaDoorOct2
namespace Go.Proofs.YtcohlcijgfdanaaDoor.lt

/-- A digit of base 8. -/
def od (c : UInt8) : Bool := decide (48 ≤ c.toNat ∧ c.toNat ≤ 55)
/-- What a byte behind a reverse solidus is. -/
def esv (c : UInt8) : UInt8 := if c = 110 then 10 else if c = 114 then 13 else if c = 116 then 9 else if c = 98 then 8 else if c = 102 then 12 else c
def octB (l : List UInt8) : UInt8 := UInt8.ofNat (ob l)

/-- A text without its escapes (no carriage returns are in it). -/
def unescF : Nat → List UInt8 → List UInt8
  | 0, _ => []
  | _ + 1, [] => []
  | n + 1, c :: r => if c = 92 then
      match r with
      | [] => []
      | d :: r2 => if d = 10 then unescF n r2 else if od d = true then
          match r2 with
          | [] => [octB [d]]
          | e :: r3 => if od e = true then
              match r3 with
              | [] => [octB [d, e]]
              | f :: r4 => if od f = true then octB [d, e, f] :: unescF n r4 else octB [d, e] :: unescF n (f :: r4)
            else octB [d] :: unescF n (e :: r3)
        else esv d :: unescF n r2
    else c :: unescF n r

theorem fuel : ∀ (n m : Nat) (l : List UInt8), l.length ≤ n → l.length ≤ m → unescF n l = unescF m l
  | 0, m, l, h, _ => by
    obtain rfl : l = [] := List.length_eq_zero_iff.1 (by omega)
    cases m <;> rfl
  | n + 1, 0, l, _, h => by
    obtain rfl : l = [] := List.length_eq_zero_iff.1 (by omega)
    rfl
  | n + 1, m + 1, [], _, _ => rfl
  | n + 1, m + 1, c :: r, hn, hm => by
    simp only [List.length_cons] at hn hm
    simp only [unescF]
    split
    · split
      · rfl
      · rename_i d r2
        simp only [List.length_cons] at hn hm
        split
        · exact fuel n m r2 (by omega) (by omega)
        · split
          · split
            · rfl
            · rename_i e r3
              simp only [List.length_cons] at hn hm
              split
              · split
                · rfl
                · rename_i f r4
                  simp only [List.length_cons] at hn hm
                  split
                  · rw [fuel n m r4 (by omega) (by omega)]
                  · rw [fuel n m (f :: r4) (by simp; omega) (by simp; omega)]
              · rw [fuel n m (e :: r3) (by simp; omega) (by simp; omega)]
          · rw [fuel n m r2 (by omega) (by omega)]
    · rw [fuel n m r (by omega) (by omega)]

def unesc (l : List UInt8) : List UInt8 := unescF l.length l
theorem un_fuel (n : Nat) (l : List UInt8) (h : l.length ≤ n) : unescF n l = unesc l := fuel _ _ l h (Nat.le_refl _)

theorem un_nil : unesc [] = [] := rfl
theorem un_plain (c : UInt8) (r : List UInt8) (h : c ≠ 92) : unesc (c :: r) = c :: unesc r := by
  show unescF (r.length + 1) (c :: r) = _
  simp only [unescF, if_neg h]
  rfl
theorem un_end : unesc [92] = [] := rfl
theorem un_nl (r : List UInt8) : unesc (92 :: 10 :: r) = unesc r := by
  show unescF (r.length + 1 + 1) (92 :: 10 :: r) = _
  simp only [unescF, if_true]
  exact un_fuel _ _ (by omega)
theorem un_esc (d : UInt8) (r : List UInt8) (h : d ≠ 10) (ho : od d = false) : unesc (92 :: d :: r) = esv d :: unesc r := by
  show unescF (r.length + 1 + 1) (92 :: d :: r) = _
  simp only [unescF, if_true, if_neg h, ho, Bool.false_eq_true, if_false]
  rw [un_fuel _ _ (by omega)]
theorem od_ne (d : UInt8) (h : od d = true) : d ≠ 10 := fun e => by subst e; revert h; decide
/-- Octal digits, as many as there are, at most three. -/
theorem un_oct (ds r : List UInt8) (h : ∀ d ∈ ds, od d = true) (h1 : ds ≠ []) (h3 : ds.length ≤ 3) (hr : ds.length = 3 ∨ ∀ c r', r = c :: r' → od c = false) : unesc (92 :: (ds ++ r)) = octB ds :: unesc r := by
  match ds, h, h1, h3, hr with
  | [d], h, _, _, hr =>
    have hd := h d (by simp)
    show unescF (r.length + 1 + 1) (92 :: d :: r) = _
    rw [unescF.eq_def]
    simp only [if_true, if_neg (od_ne d hd), hd]
    cases r with
    | nil => rfl
    | cons e r =>
      have he : od e = false := by
        rcases hr with hr | hr
        · simp at hr
        · exact hr e r rfl
      simp only [he, Bool.false_eq_true, if_false]
      rw [un_fuel _ _ (by simp; try omega)]
  | [d, e], h, _, _, hr =>
    have hd := h d (by simp)
    have he := h e (by simp)
    show unescF (r.length + 1 + 1 + 1) (92 :: d :: e :: r) = _
    rw [unescF.eq_def]
    simp only [if_true, if_neg (od_ne d hd), hd, he]
    cases r with
    | nil => rfl
    | cons f r =>
      have hf : od f = false := by
        rcases hr with hr | hr
        · simp at hr
        · exact hr f r rfl
      simp only [hf, Bool.false_eq_true, if_false]
      rw [un_fuel _ _ (by simp; try omega)]
  | [d, e, f], h, _, _, _ =>
    have hd := h d (by simp)
    have he := h e (by simp)
    have hf := h f (by simp)
    show unescF (r.length + 1 + 1 + 1 + 1) (92 :: d :: e :: f :: r) = _
    rw [unescF.eq_def]
    simp only [if_true, if_neg (od_ne d hd), hd, he, hf]
    rw [un_fuel _ _ (by omega)]

theorem ob_lt (l : List UInt8) : ob l < 256 := by
  unfold ob
  split
  · omega
  · split
    · omega
    · omega
theorem octB_nat (l : List UInt8) : (octB l).toNat = ob l := by
  unfold octB
  rw [UInt8.toNat_ofNat']
  have := ob_lt l
  omega
end Go.Proofs.YtcohlcijgfdanaaDoor.lt
