/-
  The model's doubles as rational numbers: plain laws, over the model's own operations (no program in sight): what a word stands for, exact and rounded operations, comparisons, conversions.
-/
import Derived.Laws.FloatArith
namespace Go.Proofs.Ytmaphdfhoddnmaa.Fl
open Ieee

/-- The number that a datum's three parts stand for. -/
def V (s : Bool) (m : Nat) (e : Int) : Rat := (if s then -(m : Rat) else (m : Rat)) * (2 : Rat) ^ e

/-- A word is the finite number v (a zero of either sign is 0). -/
def IsV (b : Nat) (v : Rat) : Prop := ∃ s m e, double.read b = .number s m e ∧ V s m e = v

theorem two_ne : (2 : Rat) ≠ 0 := by decide
theorem pw_pos (e : Int) : (0 : Rat) < (2 : Rat) ^ e := Rat.zpow_pos (by decide)
theorem pw_add (a b : Int) : (2 : Rat) ^ (a + b) = (2 : Rat) ^ a * (2 : Rat) ^ b := Rat.zpow_add two_ne a b
theorem pw_nat (n : Nat) : (2 : Rat) ^ (n : Int) = ((2 ^ n : Nat) : Rat) := by
  rw [Rat.zpow_natCast, Rat.natCast_pow]; rfl
theorem pw_le {a b : Int} (h : a ≤ b) : (2 : Rat) ^ a ≤ (2 : Rat) ^ b := by
  obtain ⟨n, rfl⟩ : ∃ n : Nat, b = a + n := ⟨(b - a).toNat, by omega⟩
  rw [pw_add, pw_nat]
  have h1 : (1 : Rat) ≤ ((2 ^ n : Nat) : Rat) := by
    have : 1 ≤ 2 ^ n := Nat.one_le_two_pow
    exact_mod_cast (Rat.natCast_le_natCast.2 this)
  have := Rat.mul_le_mul_of_nonneg_left (c := (2 : Rat) ^ a) h1 (Rat.le_of_lt (pw_pos a))
  rwa [Rat.mul_one] at this
theorem pw_lt {a b : Int} (h : a < b) : (2 : Rat) ^ a < (2 : Rat) ^ b := by
  have h1 : (2 : Rat) ^ (a + 1) ≤ (2 : Rat) ^ b := pw_le (by omega)
  have h2 : (2 : Rat) ^ (a + 1) = (2 : Rat) ^ a * 2 := by rw [pw_add, Rat.zpow_one]
  have := pw_pos a
  grind

theorem signed_val (s : Bool) (m : Nat) (up : Nat) : ((signed s m up : Int) : Rat) = V s m (up : Int) := by
  unfold signed V
  rw [pw_nat]
  cases s <;> simp [Nat.shiftLeft_eq, Rat.intCast_natCast] <;> grind

theorem V_shift (s : Bool) (m : Nat) (e : Int) (k : Nat) : V s m (e + k) = V s (m * 2 ^ k) e := by
  unfold V
  rw [pw_add, pw_nat]
  cases s <;> simp <;> grind

theorem signed_base (s : Bool) (m : Nat) (i base : Int) (h : base ≤ i) : ((signed s m (i - base).toNat : Int) : Rat) * (2 : Rat) ^ base = V s m i := by
  rw [signed_val]
  have e : ((i - base).toNat : Int) = i - base := Int.toNat_of_nonneg (by omega)
  rw [e]
  unfold V
  have : i = (i - base) + base := by omega
  rw [Rat.mul_assoc, ← pw_add, ← this]

theorem V_natAbs (t : Int) (s : Bool) (e : Int) (h : t ≠ 0 → s = decide (t < 0)) : V s t.natAbs e = (t : Rat) * (2 : Rat) ^ e := by
  unfold V
  by_cases h0 : t = 0
  · subst h0; cases s <;> simp
  · rw [h h0]
    by_cases hn : t < 0
    · have e1 : (t : Rat) = -((t.natAbs : Nat) : Rat) := by
        have : t = -((t.natAbs : Nat) : Int) := by omega
        conv => lhs; rw [this]
        rw [Rat.intCast_neg, Rat.intCast_natCast]
      simp only [hn, decide_true, if_true]
      rw [e1]
    · have e1 : (t : Rat) = ((t.natAbs : Nat) : Rat) := by
        have : t = ((t.natAbs : Nat) : Int) := by omega
        conv => lhs; rw [this]
        rw [Rat.intCast_natCast]
      simp only [hn, decide_false]
      rw [e1]; rfl

/-- The exact sum. -/
theorem sum_val {s t : Bool} {m n : Nat} {i j : Int} : ∃ u q k, (Datum.number s m i).sum (.number t n j) = some (.number u q k) ∧ V u q k = V s m i + V t n j := by
  refine ⟨_, _, _, rfl, ?_⟩
  have h1 := signed_base s m i (min i j) (by omega)
  have h2 := signed_base t n j (min i j) (by omega)
  rw [← h1, ← h2, ← Rat.add_mul, ← Rat.intCast_add]
  apply V_natAbs
  intro h
  simp [h]

theorem prod_val {s t : Bool} {m n : Nat} {i j : Int} : ∃ u q k, (Datum.number s m i).product (.number t n j) = some (.number u q k) ∧ V u q k = V s m i * V t n j := by
  refine ⟨_, _, _, rfl, ?_⟩
  unfold V
  rw [pw_add]
  cases s <;> cases t <;> simp <;> grind

theorem opp_val (s : Bool) (m : Nat) (i : Int) : V (!s) m i = -V s m i := by
  unfold V; cases s <;> simp <;> grind


theorem binade_eq : double.binade = 2 ^ 52 := rfl
theorem least_eq : double.leastPlace = -1074 := by decide
theorem inf_eq : double.infRung = 2047 * 2 ^ 52 := by decide
theorem sw_eq : double.signWeight = 2 ^ 63 := rfl

theorem read_word (neg : Bool) (L k : Nat) (h : k ≤ 2 ^ 53) (hk : 0 < L → 2 ^ 52 ≤ k) (hL : L ≤ 2044) :
    ∃ m e, double.read (double.word neg (L * 2 ^ 52 + k)) = .number neg m e ∧ V neg m e = V neg k (-1074 + (L : Int)) := by
  have hr : L * 2 ^ 52 + k < 2 ^ 63 := by omega
  have hneg : (double.word neg (L * 2 ^ 52 + k) / 2 ^ 63 % 2 == 1) = neg := by
    unfold Format.word
    rw [sw_eq]
    cases neg
    · simp only [Bool.false_eq_true, if_false]
      rw [Nat.div_eq_of_lt hr]; rfl
    · simp only [if_true]
      have : (2 ^ 63 + (L * 2 ^ 52 + k)) / 2 ^ 63 = 1 := by omega
      rw [this]; rfl
  have hrung : double.word neg (L * 2 ^ 52 + k) % 2 ^ 63 = L * 2 ^ 52 + k := by
    unfold Format.word
    rw [sw_eq]
    cases neg
    · simp only [Bool.false_eq_true, if_false]; omega
    · simp only [if_true]; omega
  unfold Format.read
  simp only [sw_eq, binade_eq, least_eq, inf_eq, hneg, hrung]
  by_cases h1 : L * 2 ^ 52 + k < 2 ^ 52
  · have hL0 : L = 0 := by omega
    subst hL0
    rw [if_pos h1]
    refine ⟨_, _, rfl, ?_⟩
    simp
  · rw [if_neg h1, if_pos (by omega)]
    refine ⟨_, _, rfl, ?_⟩
    by_cases h2 : k < 2 ^ 52
    · omega
    · by_cases h3 : k = 2 ^ 53
      · subst h3
        have e1 : (L * 2 ^ 52 + 2 ^ 53) % 2 ^ 52 = 0 := by omega
        have e2 : (L * 2 ^ 52 + 2 ^ 53) / 2 ^ 52 - 1 = L + 1 := by omega
        rw [e1, e2]
        have := V_shift neg (2 ^ 52) (-1074 + (L : Int)) 1
        have e3 : (-1074 + (L : Int)) + ((1 : Nat) : Int) = -1074 + ((L + 1 : Nat) : Int) := by omega
        rw [e3] at this
        rw [Nat.add_zero, this]
      · have e1 : (L * 2 ^ 52 + k) % 2 ^ 52 = k - 2 ^ 52 := by omega
        have e2 : (L * 2 ^ 52 + k) / 2 ^ 52 - 1 = L := by omega
        rw [e1, e2]
        have e3 : 2 ^ 52 + (k - 2 ^ 52) = k := by omega
        rw [e3]

theorem cut_zero (neg : Bool) (n : Nat) : Toward.even.cut neg n 0 = n := by
  unfold Toward.cut
  simp [Nat.mod_one]

theorem cut_spec (neg : Bool) (n d : Nat) (h0 : n ≠ 0) :
    (2 * (Toward.even.cut neg n d * 2 ^ d) ≤ 2 * n + 2 ^ d) ∧ (2 * n ≤ 2 * (Toward.even.cut neg n d * 2 ^ d) + 2 ^ d) ∧
    (2 ^ d ∣ n → Toward.even.cut neg n d * 2 ^ d = n) ∧ n / 2 ^ d ≤ Toward.even.cut neg n d ∧ Toward.even.cut neg n d ≤ n / 2 ^ d + 1 := by
  have hl : n < 2 ^ (n.log2 + 1) := Nat.lt_log2_self
  unfold Toward.cut
  simp only [Nat.one_shiftLeft]
  by_cases hd : d ≤ n.log2 + 2
  · rw [Nat.min_eq_left hd]
    have hdm := Nat.div_add_mod n (2 ^ d)
    have hlt : n % 2 ^ d < 2 ^ d := Nat.mod_lt _ (Nat.two_pow_pos d)
    have hc : 2 ^ d * (n / 2 ^ d) = n / 2 ^ d * 2 ^ d := Nat.mul_comm _ _
    refine ⟨?_, ?_, ?_, by omega, ?_⟩
    · rw [Nat.add_mul]
      by_cases hb : (decide (2 ^ d < 2 * (n % 2 ^ d)) || (2 ^ d == 2 * (n % 2 ^ d) && n / 2 ^ d % 2 == 1)) = true
      · have : 2 ^ d ≤ 2 * (n % 2 ^ d) := by
          simp at hb
          omega
        rw [hb]; simp only [Bool.toNat_true, Nat.one_mul]; omega
      · rw [Bool.not_eq_true] at hb
        rw [hb]; simp only [Bool.toNat_false, Nat.zero_mul]; omega
    · rw [Nat.add_mul]
      by_cases hb : (decide (2 ^ d < 2 * (n % 2 ^ d)) || (2 ^ d == 2 * (n % 2 ^ d) && n / 2 ^ d % 2 == 1)) = true
      · rw [hb]; simp only [Bool.toNat_true, Nat.one_mul]; omega
      · rw [Bool.not_eq_true] at hb
        have : 2 * (n % 2 ^ d) ≤ 2 ^ d := by
          simp at hb
          omega
        rw [hb]; simp only [Bool.toNat_false, Nat.zero_mul]; omega
    · intro hdv
      have hz : n % 2 ^ d = 0 := Nat.mod_eq_zero_of_dvd hdv
      have hp : 0 < 2 ^ d := Nat.two_pow_pos d
      have hb : (decide (2 ^ d < 2 * (n % 2 ^ d)) || (2 ^ d == 2 * (n % 2 ^ d) && n / 2 ^ d % 2 == 1)) = false := by
        rw [hz]; simp
      rw [hb]; simp only [Bool.toNat_false, Nat.add_zero]; omega
    · have := Bool.toNat_le (decide (2 ^ d < 2 * (n % 2 ^ d)) || (2 ^ d == 2 * (n % 2 ^ d) && n / 2 ^ d % 2 == 1))
      omega
  · have hmin : min d (n.log2 + 2) = n.log2 + 2 := by omega
    rw [hmin]
    have h2 : 2 ^ (n.log2 + 2) = 2 * 2 ^ (n.log2 + 1) := by rw [Nat.pow_succ]; omega
    have hle : 2 ^ (n.log2 + 2) ≤ 2 ^ d := Nat.pow_le_pow_right (by decide) (by omega)
    have e1 : n / 2 ^ (n.log2 + 2) = 0 := Nat.div_eq_of_lt (by omega)
    have e2 : n % 2 ^ (n.log2 + 2) = n := Nat.mod_eq_of_lt (by omega)
    have e3 : n / 2 ^ d = 0 := Nat.div_eq_of_lt (by omega)
    rw [e1, e2, e3]
    have hb : (decide (2 ^ (n.log2 + 2) < 2 * n) || (2 ^ (n.log2 + 2) == 2 * n && 0 % 2 == 1)) = false := by
      simp; omega
    rw [hb]
    simp only [Bool.toNat_false, Nat.add_zero, Nat.zero_mul, Nat.mul_zero]
    refine ⟨by omega, by omega, ?_, by omega, by omega⟩
    intro hdv
    have := Nat.le_of_dvd (by omega) hdv
    omega


theorem V_false (m : Nat) (e : Int) : V false m e = (m : Rat) * (2 : Rat) ^ e := rfl

theorem near_spec (neg : Bool) (m : Nat) (p : Int) (hm : m ≠ 0) (hhi : p + (m.log2 : Int) ≤ 1000) :
    ∃ k last, last = max (p + (m.log2 : Int) - 52) (-1074) ∧ IsV (double.nearest neg m p) (V neg k last) ∧
      2 * V false k last ≤ 2 * V false m p + (2 : Rat) ^ last ∧ 2 * V false m p ≤ 2 * V false k last + (2 : Rat) ^ last ∧
      ((∃ q : Nat, V false m p = V false q last) → V false k last = V false m p) := by
  have hlt : m < 2 ^ (m.log2 + 1) := Nat.lt_log2_self
  have hge : 2 ^ m.log2 ≤ m := Nat.log2_self_le hm
  obtain ⟨last, hlast⟩ : ∃ last, last = max (p + (m.log2 : Int) - 52) (-1074) := ⟨_, rfl⟩
  obtain ⟨L, hL⟩ : ∃ L : Nat, last = -1074 + (L : Int) := ⟨(last + 1074).toNat, by omega⟩
  have hword : ∀ k, k = Toward.even.cut neg (m <<< (p - last).toNat) (last - p).toNat → k ≤ 2 ^ 53 → double.nearest neg m p = double.word neg (L * 2 ^ 52 + k) := by
    intro k hk hk53
    unfold Format.nearest
    rw [if_neg hm]
    simp only [least_eq, binade_eq, inf_eq]
    have e1 : max (p + (m.log2 : Int) - (double.fractionBits : Nat)) (-1074) = last := hlast.symm
    rw [e1, ← hk]
    have e2 : (last - -1074).toNat = L := by omega
    rw [e2]
    congr 1
    rw [Nat.min_eq_left]
    omega
  by_cases hp : last ≤ p
  · -- nothing is dropped
    obtain ⟨u, hu⟩ : ∃ u : Nat, p = last + (u : Int) := ⟨(p - last).toNat, by omega⟩
    have e1 : (p - last).toNat = u := by omega
    have e2 : (last - p).toNat = 0 := by omega
    have hk : m * 2 ^ u = Toward.even.cut neg (m <<< (p - last).toNat) (last - p).toNat := by
      rw [e1, e2, cut_zero, Nat.shiftLeft_eq]
    have hk53 : m * 2 ^ u < 2 ^ 53 := by
      have h1 : m * 2 ^ u < 2 ^ (m.log2 + 1) * 2 ^ u := Nat.mul_lt_mul_of_pos_right hlt (Nat.two_pow_pos u)
      rw [← Nat.pow_add] at h1
      have h2 : 2 ^ (m.log2 + 1 + u) ≤ 2 ^ 53 := Nat.pow_le_pow_right (by decide) (by omega)
      omega
    have hk52 : 0 < L → 2 ^ 52 ≤ m * 2 ^ u := by
      intro hLp
      have h1 : 2 ^ m.log2 * 2 ^ u ≤ m * 2 ^ u := Nat.mul_le_mul_right _ hge
      rw [← Nat.pow_add] at h1
      have h2 : 2 ^ 52 ≤ 2 ^ (m.log2 + u) := Nat.pow_le_pow_right (by decide) (by omega)
      omega
    obtain ⟨m', e', hr, hv⟩ := read_word neg L (m * 2 ^ u) (by omega) hk52 (by omega)
    have hVe : V false (m * 2 ^ u) last = V false m p := by rw [hu, V_shift]
    refine ⟨m * 2 ^ u, last, hlast, ⟨neg, m', e', ?_, ?_⟩, ?_, ?_, fun _ => hVe⟩
    · rw [hword _ hk (by omega), hr]
    · rw [hv, ← hL]
    · rw [hVe]; have := pw_pos last; grind
    · rw [hVe]; have := pw_pos last; grind
  · obtain ⟨d, hd⟩ : ∃ d : Nat, last = p + (d : Int) := ⟨(last - p).toNat, by omega⟩
    have e1 : (p - last).toNat = 0 := by omega
    have e2 : (last - p).toNat = d := by omega
    obtain ⟨k, hkd⟩ : ∃ k, k = Toward.even.cut neg m d := ⟨_, rfl⟩
    obtain ⟨c1, c2, c3, c4, c5⟩ := cut_spec neg m d hm
    rw [← hkd] at c1 c2 c3 c4 c5
    have hk : k = Toward.even.cut neg (m <<< (p - last).toNat) (last - p).toNat := by rw [e1, e2, Nat.shiftLeft_zero, hkd]
    have hk53 : k ≤ 2 ^ 53 := by
      have h1 : m / 2 ^ d < 2 ^ 53 := by
        apply Nat.div_lt_of_lt_mul
        rw [← Nat.pow_add]
        have h2 : 2 ^ (m.log2 + 1) ≤ 2 ^ (d + 53) := Nat.pow_le_pow_right (by decide) (by omega)
        omega
      omega
    have hk52 : 0 < L → 2 ^ 52 ≤ k := by
      intro hLp
      have h1 : 2 ^ 52 ≤ m / 2 ^ d := by
        rw [Nat.le_div_iff_mul_le (Nat.two_pow_pos d), ← Nat.pow_add]
        have h2 : 2 ^ (52 + d) ≤ 2 ^ m.log2 := Nat.pow_le_pow_right (by decide) (by omega)
        omega
      omega
    obtain ⟨m', e', hr, hv⟩ := read_word neg L k hk53 hk52 (by omega)
    have hVk : V false k last = V false (k * 2 ^ d) p := by rw [hd, V_shift]
    have hpd : (2 : Rat) ^ last = ((2 ^ d : Nat) : Rat) * (2 : Rat) ^ p := by rw [hd, pw_add, pw_nat, Rat.mul_comm]
    have hpp := pw_pos p
    refine ⟨k, last, hlast, ⟨neg, m', e', ?_, ?_⟩, ?_, ?_, ?_⟩
    · rw [hword _ hk hk53, hr]
    · rw [hv, ← hL]
    · rw [hVk, hpd, V_false, V_false]
      have c1' : ((2 * (k * 2 ^ d) : Nat) : Rat) ≤ ((2 * m + 2 ^ d : Nat) : Rat) := Rat.natCast_le_natCast.2 c1
      have := Rat.mul_le_mul_of_nonneg_right c1' (Rat.le_of_lt hpp)
      simp only [Rat.natCast_add, Rat.natCast_mul] at this ⊢
      grind
    · rw [hVk, hpd, V_false, V_false]
      have c1' : ((2 * m : Nat) : Rat) ≤ ((2 * (k * 2 ^ d) + 2 ^ d : Nat) : Rat) := Rat.natCast_le_natCast.2 c2
      have := Rat.mul_le_mul_of_nonneg_right c1' (Rat.le_of_lt hpp)
      simp only [Rat.natCast_add, Rat.natCast_mul] at this ⊢
      grind
    · rintro ⟨q, hq⟩
      have hq2 : m = q * 2 ^ d := by
        have h1 : V false q last = V false (q * 2 ^ d) p := by rw [hd, V_shift]
        rw [h1, V_false, V_false] at hq
        have h2 : (m : Rat) = ((q * 2 ^ d : Nat) : Rat) := by
          have h3 := congrArg (· * ((2 : Rat) ^ p)⁻¹) hq
          simp only [Rat.mul_assoc, Rat.mul_inv_cancel _ (Rat.ne_of_gt hpp), Rat.mul_one] at h3
          exact h3
        exact Rat.natCast_inj.1 h2
      have := c3 ⟨q, by rw [hq2]; exact Nat.mul_comm _ _⟩
      rw [hVk, this]


/-- A rational that a double tells exactly. -/
def Rep (v : Rat) : Prop := ∃ (n : Int) (k : Int), v = (n : Rat) * (2 : Rat) ^ k ∧ n.natAbs < 2 ^ 53 ∧ -1074 ≤ k ∧ k ≤ 900

theorem V_neg_eq (s : Bool) (m : Nat) (e : Int) : V s m e = if s then -V false m e else V false m e := by
  unfold V; cases s <;> simp <;> grind

theorem V_zero (s : Bool) (e : Int) : V s 0 e = 0 := by
  unfold V; cases s <;> simp

theorem near_zero (s : Bool) (p : Int) : IsV (double.nearest s 0 p) 0 := by
  unfold Format.nearest
  rw [if_pos rfl]
  obtain ⟨m, e, hr, hv⟩ := read_word s 0 0 (by decide) (by omega) (by decide)
  rw [Nat.zero_mul, Nat.zero_add] at hr
  exact ⟨s, m, e, hr, by rw [hv, V_zero]⟩

theorem pow_le_of_V {m : Nat} (hm : m ≠ 0) (p : Int) : (2 : Rat) ^ (p + (m.log2 : Int)) ≤ V false m p := by
  have hge : 2 ^ m.log2 ≤ m := Nat.log2_self_le hm
  rw [pw_add, pw_nat, V_false, Rat.mul_comm]
  exact Rat.mul_le_mul_of_nonneg_right (Rat.natCast_le_natCast.2 hge) (Rat.le_of_lt (pw_pos p))

theorem exp_lt_of {a b : Int} (h : (2 : Rat) ^ a < (2 : Rat) ^ b) : a < b := by
  apply Decidable.byContradiction
  intro hn
  have := pw_le (show b ≤ a by omega)
  grind
theorem exp_le_of {a b : Int} (h : (2 : Rat) ^ a ≤ (2 : Rat) ^ b) : a ≤ b := by
  apply Decidable.byContradiction
  intro hn
  have := pw_lt (show b < a by omega)
  grind

theorem intCast_natAbs (n : Int) : (n : Rat) = if n < 0 then -((n.natAbs : Nat) : Rat) else ((n.natAbs : Nat) : Rat) := by
  by_cases hn : n < 0
  · rw [if_pos hn]
    have : n = -((n.natAbs : Nat) : Int) := by omega
    conv => lhs; rw [this]
    rw [Rat.intCast_neg, Rat.intCast_natCast]
  · rw [if_neg hn]
    have : n = ((n.natAbs : Nat) : Int) := by omega
    conv => lhs; rw [this]
    rw [Rat.intCast_natCast]

theorem V_nonneg (m : Nat) (e : Int) : 0 ≤ V false m e := by
  rw [V_false]; exact Rat.mul_nonneg Rat.natCast_nonneg (Rat.le_of_lt (pw_pos e))
theorem V_pos {m : Nat} (hm : m ≠ 0) (e : Int) : 0 < V false m e := by
  have := pow_le_of_V hm e
  have := pw_pos (e + (m.log2 : Int))
  grind

theorem near_exact {s : Bool} {m : Nat} {p : Int} {v : Rat} (hv : V s m p = v) (hr : Rep v) : IsV (double.nearest s m p) v := by
  by_cases hm : m = 0
  · subst hm
    rw [V_zero] at hv
    rw [← hv]; exact near_zero s p
  · obtain ⟨n, k, hn, hlt, hk1, hk2⟩ := hr
    have hpos := V_pos hm p
    have habs : V false m p = ((n.natAbs : Nat) : Rat) * (2 : Rat) ^ k := by
      have h1 := intCast_natAbs n
      have h2 := V_neg_eq s m p
      have h3 := pw_pos k
      have h4 : (0 : Rat) ≤ ((n.natAbs : Nat) : Rat) * (2 : Rat) ^ k := Rat.mul_nonneg Rat.natCast_nonneg (Rat.le_of_lt h3)
      rw [hv, hn, h1] at h2
      by_cases hneg : n < 0
      · rw [if_pos hneg] at h2
        cases s
        · simp at h2; grind
        · simp at h2; grind
      · rw [if_neg hneg] at h2
        cases s
        · simp at h2; grind
        · simp at h2; grind
    have hlog : p + (m.log2 : Int) < 53 + k := by
      apply exp_lt_of
      have h1 := pow_le_of_V hm p
      have h2 : (2 : Rat) ^ (53 + k) = ((2 ^ 53 : Nat) : Rat) * (2 : Rat) ^ k := by rw [pw_add, ← pw_nat]; rfl
      have h3 : ((n.natAbs : Nat) : Rat) * (2 : Rat) ^ k < ((2 ^ 53 : Nat) : Rat) * (2 : Rat) ^ k := Rat.mul_lt_mul_of_pos_right (Rat.natCast_lt_natCast.2 hlt) (pw_pos k)
      rw [h2]
      grind
    obtain ⟨q, last, hl, hI, _, _, hex⟩ := near_spec s m p hm (by omega)
    have hle : last ≤ k := by omega
    have := hex ⟨n.natAbs * 2 ^ (k - last).toNat, by
      rw [habs, ← V_false, ← V_shift]
      congr 1
      omega⟩
    rw [V_neg_eq, this, ← V_neg_eq, hv] at hI
    exact hI

theorem near_err {s : Bool} {m : Nat} {p : Int} {v A : Rat} (hv : V s m p = v) (h1 : v ≤ A) (h2 : -v ≤ A) (hA : A ≤ (2 : Rat) ^ (900 : Int)) :
    ∃ r, IsV (double.nearest s m p) r ∧ r ≤ v + (A * (2 : Rat) ^ (-53 : Int) + (2 : Rat) ^ (-1075 : Int)) ∧ v ≤ r + (A * (2 : Rat) ^ (-53 : Int) + (2 : Rat) ^ (-1075 : Int)) := by
  have t1 := pw_pos (-53)
  have t2 := pw_pos (-1075)
  by_cases hm : m = 0
  · subst hm
    rw [V_zero] at hv
    subst hv
    have := Rat.mul_nonneg (show 0 ≤ A by grind) (Rat.le_of_lt t1)
    exact ⟨0, near_zero s p, by grind, by grind⟩
  · have hpos := V_pos hm p
    have hVA : V false m p ≤ A := by
      have h3 := V_neg_eq s m p
      cases s <;> simp at h3 <;> grind
    have hpl := pow_le_of_V hm p
    have hlog : p + (m.log2 : Int) ≤ 900 := by
      apply exp_le_of; grind
    obtain ⟨q, last, hl, hI, e1, e2, _⟩ := near_spec s m p hm (by omega)
    have hlast : (2 : Rat) ^ last ≤ 2 * (A * (2 : Rat) ^ (-53 : Int) + (2 : Rat) ^ (-1075 : Int)) := by
      have h5 : (2 : Rat) ^ (p + (m.log2 : Int) - 52) = (2 : Rat) ^ (p + (m.log2 : Int)) * (2 * (2 : Rat) ^ (-53 : Int)) := by
        have : p + (m.log2 : Int) - 52 = (p + (m.log2 : Int)) + (1 + (-53)) := by omega
        rw [this, pw_add (p + (m.log2 : Int)), pw_add 1 (-53), Rat.zpow_one]
      have h6 : (2 : Rat) ^ (-1074 : Int) = 2 * (2 : Rat) ^ (-1075 : Int) := by
        have : (-1074 : Int) = 1 + (-1075) := by omega
        rw [this, pw_add, Rat.zpow_one]
      have h7 := Rat.mul_le_mul_of_nonneg_right (show (2 : Rat) ^ (p + (m.log2 : Int)) ≤ A by grind) (Rat.le_of_lt t1)
      have h8 := Rat.mul_nonneg (show 0 ≤ A by grind) (Rat.le_of_lt t1)
      by_cases hc : p + (m.log2 : Int) - 52 ≤ -1074
      · have : last = -1074 := by omega
        rw [this, h6]; grind
      · have : last = p + (m.log2 : Int) - 52 := by omega
        rw [this, h5]; grind
    refine ⟨_, hI, ?_, ?_⟩
    · have a1 := V_neg_eq s q last
      have a2 := V_neg_eq s m p
      cases s <;> simp at a1 a2 <;> grind
    · have a1 := V_neg_eq s q last
      have a2 := V_neg_eq s m p
      cases s <;> simp at a1 a2 <;> grind


/-- What IEEE's operations give of finite numbers. -/
theorem add_ex {x y : Nat} {a b : Rat} (hx : IsV x a) (hy : IsV y b) (hr : Rep (a + b)) : ∃ r, double.add x y = some r ∧ IsV r (a + b) := by
  obtain ⟨s, m, i, h1, rfl⟩ := hx
  obtain ⟨t, n, j, h2, rfl⟩ := hy
  obtain ⟨u, q, k, h3, h4⟩ := sum_val (s := s) (t := t) (m := m) (n := n) (i := i) (j := j)
  exact ⟨_, by unfold Format.add; rw [h1, h2, h3]; rfl, near_exact h4 hr⟩

theorem sub_ex {x y : Nat} {a b : Rat} (hx : IsV x a) (hy : IsV y b) (hr : Rep (a - b)) : ∃ r, double.sub x y = some r ∧ IsV r (a - b) := by
  obtain ⟨s, m, i, h1, rfl⟩ := hx
  obtain ⟨t, n, j, h2, rfl⟩ := hy
  obtain ⟨u, q, k, h3, h4⟩ := sum_val (s := s) (t := !t) (m := m) (n := n) (i := i) (j := j)
  rw [opp_val, ← Rat.sub_eq_add_neg] at h4
  exact ⟨_, by unfold Format.sub; rw [h1, h2]; show (Datum.sum _ (.number (!t) n j)).map _ = _; rw [h3]; rfl, near_exact h4 hr⟩

theorem mul_ex {x y : Nat} {a b : Rat} (hx : IsV x a) (hy : IsV y b) (hr : Rep (a * b)) : ∃ r, double.mul x y = some r ∧ IsV r (a * b) := by
  obtain ⟨s, m, i, h1, rfl⟩ := hx
  obtain ⟨t, n, j, h2, rfl⟩ := hy
  obtain ⟨u, q, k, h3, h4⟩ := prod_val (s := s) (t := t) (m := m) (n := n) (i := i) (j := j)
  exact ⟨_, by unfold Format.mul; rw [h1, h2, h3]; rfl, near_exact h4 hr⟩

/-- The bound of one rounding. -/
def E (A : Rat) : Rat := A * (2 : Rat) ^ (-53 : Int) + (2 : Rat) ^ (-1075 : Int)

theorem add_err {x y : Nat} {a b A : Rat} (hx : IsV x a) (hy : IsV y b) (h1 : a + b ≤ A) (h2 : -(a + b) ≤ A) (hA : A ≤ (2 : Rat) ^ (900 : Int)) :
    ∃ r v, double.add x y = some r ∧ IsV r v ∧ v ≤ a + b + E A ∧ a + b ≤ v + E A := by
  obtain ⟨s, m, i, k1, rfl⟩ := hx
  obtain ⟨t, n, j, k2, rfl⟩ := hy
  obtain ⟨u, q, k, h3, h4⟩ := sum_val (s := s) (t := t) (m := m) (n := n) (i := i) (j := j)
  obtain ⟨v, hv, e1, e2⟩ := near_err h4 h1 h2 hA
  exact ⟨_, v, by unfold Format.add; rw [k1, k2, h3]; rfl, hv, e1, e2⟩

theorem sub_err {x y : Nat} {a b A : Rat} (hx : IsV x a) (hy : IsV y b) (h1 : a - b ≤ A) (h2 : -(a - b) ≤ A) (hA : A ≤ (2 : Rat) ^ (900 : Int)) :
    ∃ r v, double.sub x y = some r ∧ IsV r v ∧ v ≤ a - b + E A ∧ a - b ≤ v + E A := by
  obtain ⟨s, m, i, k1, rfl⟩ := hx
  obtain ⟨t, n, j, k2, rfl⟩ := hy
  obtain ⟨u, q, k, h3, h4⟩ := sum_val (s := s) (t := !t) (m := m) (n := n) (i := i) (j := j)
  rw [opp_val, ← Rat.sub_eq_add_neg] at h4
  obtain ⟨v, hv, e1, e2⟩ := near_err h4 h1 h2 hA
  exact ⟨_, v, by unfold Format.sub; rw [k1, k2]; show (Datum.sum _ (.number (!t) n j)).map _ = _; rw [h3]; rfl, hv, e1, e2⟩

theorem mul_err {x y : Nat} {a b A : Rat} (hx : IsV x a) (hy : IsV y b) (h1 : a * b ≤ A) (h2 : -(a * b) ≤ A) (hA : A ≤ (2 : Rat) ^ (900 : Int)) :
    ∃ r v, double.mul x y = some r ∧ IsV r v ∧ v ≤ a * b + E A ∧ a * b ≤ v + E A := by
  obtain ⟨s, m, i, k1, rfl⟩ := hx
  obtain ⟨t, n, j, k2, rfl⟩ := hy
  obtain ⟨u, q, k, h3, h4⟩ := prod_val (s := s) (t := t) (m := m) (n := n) (i := i) (j := j)
  obtain ⟨v, hv, e1, e2⟩ := near_err h4 h1 h2 hA
  exact ⟨_, v, by unfold Format.mul; rw [k1, k2, h3]; rfl, hv, e1, e2⟩

theorem order_lt {x y : Nat} {a b : Rat} (hx : IsV x a) (hy : IsV y b) (h : a < b) : double.order x y = some .lt := by
  obtain ⟨s, m, i, k1, rfl⟩ := hx
  obtain ⟨t, n, j, k2, rfl⟩ := hy
  unfold Format.order
  rw [k1, k2]
  show some (compare _ _) = _
  congr 1
  rw [Int.compare_eq_lt]
  rw [← signed_base s m i (min i j) (by omega), ← signed_base t n j (min i j) (by omega)] at h
  exact Rat.intCast_lt_intCast.1 ((Rat.mul_lt_mul_right (pw_pos _)).1 h)

theorem order_gt {x y : Nat} {a b : Rat} (hx : IsV x a) (hy : IsV y b) (h : b < a) : double.order x y = some .gt := by
  obtain ⟨s, m, i, k1, rfl⟩ := hx
  obtain ⟨t, n, j, k2, rfl⟩ := hy
  unfold Format.order
  rw [k1, k2]
  show some (compare _ _) = _
  congr 1
  rw [Int.compare_eq_gt]
  rw [← signed_base s m i (min i j) (by omega), ← signed_base t n j (min i j) (by omega)] at h
  exact Rat.intCast_lt_intCast.1 ((Rat.mul_lt_mul_right (pw_pos _)).1 h)

theorem order_eq {x y : Nat} {a b : Rat} (hx : IsV x a) (hy : IsV y b) (h : a = b) : double.order x y = some .eq := by
  obtain ⟨s, m, i, k1, rfl⟩ := hx
  obtain ⟨t, n, j, k2, rfl⟩ := hy
  unfold Format.order
  rw [k1, k2]
  show some (compare _ _) = _
  congr 1
  rw [Int.compare_eq_eq]
  rw [← signed_base s m i (min i j) (by omega), ← signed_base t n j (min i j) (by omega)] at h
  have h3 := congrArg (· * ((2 : Rat) ^ (min i j))⁻¹) h
  simp only [Rat.mul_assoc, Rat.mul_inv_cancel _ (Rat.ne_of_gt (pw_pos _)), Rat.mul_one] at h3
  exact Rat.intCast_inj.1 h3


theorem tri (a b : Rat) : a < b ∨ a = b ∨ b < a := by grind

/-- The comparisons, as Go's operators ask them. -/
theorem lss {x y : Nat} {a b : Rat} (hx : IsV x a) (hy : IsV y b) : (double.order x y == some .lt) = decide (a < b) := by
  rcases tri a b with h | h | h
  · rw [order_lt hx hy h]; simp [h]
  · rw [order_eq hx hy h]; simp [h, Rat.lt_irrefl]
  · rw [order_gt hx hy h]; have : ¬ a < b := by grind
    simp [this]
theorem gtr {x y : Nat} {a b : Rat} (hx : IsV x a) (hy : IsV y b) : (double.order x y == some .gt) = decide (b < a) := by
  rcases tri a b with h | h | h
  · rw [order_lt hx hy h]; have : ¬ b < a := by grind
    simp [this]
  · rw [order_eq hx hy h]; simp [h, Rat.lt_irrefl]
  · rw [order_gt hx hy h]; simp [h]
theorem eql {x y : Nat} {a b : Rat} (hx : IsV x a) (hy : IsV y b) : (double.order x y == some .eq) = decide (a = b) := by
  rcases tri a b with h | h | h
  · rw [order_lt hx hy h]; have : ¬ a = b := by grind
    simp [this]
  · rw [order_eq hx hy h]; simp [h]
  · rw [order_gt hx hy h]; have : ¬ a = b := by grind
    simp [this]
theorem neq {x y : Nat} {a b : Rat} (hx : IsV x a) (hy : IsV y b) : (double.order x y != some .eq) = decide (a ≠ b) := by
  have := eql hx hy
  unfold bne
  rw [this]; by_cases h : a = b <;> simp [h]
theorem leq {x y : Nat} {a b : Rat} (hx : IsV x a) (hy : IsV y b) : (double.order x y == some .lt || double.order x y == some .eq) = decide (a ≤ b) := by
  rw [lss hx hy, eql hx hy]
  rcases tri a b with h | h | h
  · have h2 : a ≤ b := by grind
    simp [h, h2]
  · subst h; simp
  · have h1 : ¬ a < b := by grind
    have h2 : ¬ a = b := by grind
    have h3 : ¬ a ≤ b := by grind
    simp [h1, h2, h3]
theorem geq {x y : Nat} {a b : Rat} (hx : IsV x a) (hy : IsV y b) : (double.order x y == some .gt || double.order x y == some .eq) = decide (b ≤ a) := by
  rw [gtr hx hy, eql hx hy]
  rcases tri a b with h | h | h
  · have h1 : ¬ b < a := by grind
    have h2 : ¬ a = b := by grind
    have h3 : ¬ b ≤ a := by grind
    simp [h1, h2, h3]
  · subst h; simp
  · have h2 : b ≤ a := by grind
    simp [h, h2]

theorem log2_shift {b : Nat} (hb : b ≠ 0) (k : Nat) : (b * 2 ^ k).log2 = b.log2 + k := by
  have h1 : 2 ^ b.log2 ≤ b := Nat.log2_self_le hb
  have h2 : b < 2 ^ (b.log2 + 1) := Nat.lt_log2_self
  have hp := Nat.two_pow_pos k
  rw [Nat.log2_eq_iff (by have := Nat.mul_pos (Nat.pos_of_ne_zero hb) hp; omega)]
  constructor
  · rw [Nat.pow_add]; exact Nat.mul_le_mul_right _ h1
  · have : b.log2 + k + 1 = (b.log2 + 1) + k := by omega
    rw [this, Nat.pow_add]; exact Nat.mul_lt_mul_of_pos_right h2 hp

/-- The quotient: nearly, and exactly where the two are equal. -/
theorem quot_val {s t : Bool} {m n : Nat} {i j : Int} (hn : n ≠ 0) : ∃ u q k, (Datum.number s m i).quotient 54 (.number t n j) = some (.number u q k) ∧
    V u q k * V t n j ≤ V s m i + V false m i * (2 : Rat) ^ (-53 : Int) ∧ V s m i ≤ V u q k * V t n j + V false m i * (2 : Rat) ^ (-53 : Int) ∧ (V s m i = V t n j → V u q k = 1) := by
  obtain ⟨more, hmore⟩ : ∃ more, more = 54 + n.log2 - m.log2 := ⟨_, rfl⟩
  obtain ⟨D, hD⟩ : ∃ D, D = m <<< more := ⟨_, rfl⟩
  obtain ⟨Q, hQ⟩ : ∃ Q, Q = 2 * (D / n) + (D % n != 0).toNat := ⟨_, rfl⟩
  refine ⟨s ^^ t, Q, i - j - more - 1, ?_, ?_⟩
  · show (if n = 0 then _ else _) = _
    rw [if_neg hn]
    simp only [← hmore, ← hD, ← hQ]
  have hD2 : D = m * 2 ^ more := by rw [hD, Nat.shiftLeft_eq]
  have hdm := Nat.div_add_mod D n
  have hml : D % n < n := Nat.mod_lt _ (by omega)
  -- |Q n - 2 D| ≤ n, and nothing where D % n = 0
  have hc : n * (D / n) = D / n * n := Nat.mul_comm _ _
  have hQn : Q * n ≤ 2 * D + n ∧ 2 * D ≤ Q * n + n ∧ (D % n = 0 → Q * n = 2 * D) := by
    rw [hQ, Nat.add_mul, Nat.mul_assoc]
    by_cases h0 : D % n = 0
    · rw [h0]; simp only [bne_self_eq_false, Bool.toNat_false, Nat.zero_mul]; omega
    · have : (D % n != 0) = true := by simp [h0]
      rw [this]; simp only [Bool.toNat_true, Nat.one_mul]; omega
  have hnD : m ≠ 0 → n * 2 ^ 53 ≤ D := by
    intro hm
    have h1 : 2 ^ m.log2 ≤ m := Nat.log2_self_le hm
    have h2 : n < 2 ^ (n.log2 + 1) := Nat.lt_log2_self
    have h3 : 2 ^ m.log2 * 2 ^ more ≤ m * 2 ^ more := Nat.mul_le_mul_right _ h1
    rw [← Nat.pow_add] at h3
    have h4 : 2 ^ (n.log2 + 1 + 53) ≤ 2 ^ (m.log2 + more) := Nat.pow_le_pow_right (by decide) (by omega)
    have h5 : n * 2 ^ 53 ≤ 2 ^ (n.log2 + 1) * 2 ^ 53 := Nat.mul_le_mul_right _ (by omega)
    rw [← Nat.pow_add] at h5
    omega
  -- the value of the product, without its sign
  have hprod : V false Q (i - j - more - 1) * V false n j = ((Q * n : Nat) : Rat) * (2 : Rat) ^ (i - more - 1) := by
    have : i - (more : Int) - 1 = (i - j - more - 1) + j := by omega
    rw [V_false, V_false, this, pw_add, Rat.natCast_mul]; grind
  have hmD : V false m i = ((2 * D : Nat) : Rat) * (2 : Rat) ^ (i - more - 1) := by
    have : i = (i - (more : Int) - 1) + ((more + 1 : Nat) : Int) := by omega
    conv => lhs; rw [this]
    rw [V_shift, V_false, hD2, Nat.pow_succ]
    congr 2
    grind
  have hp := pw_pos (i - (more : Int) - 1)
  have hsmall : ((n : Nat) : Rat) * (2 : Rat) ^ (i - (more : Int) - 1) ≤ V false m i * (2 : Rat) ^ (-53 : Int) ∨ m = 0 := by
    by_cases hm : m = 0
    · exact .inr hm
    · left
      have h1 : ((n * 2 ^ 53 : Nat) : Rat) ≤ ((2 * D : Nat) : Rat) := Rat.natCast_le_natCast.2 (by have := hnD hm; omega)
      have h2 : (2 : Rat) ^ (53 : Int) = ((2 ^ 53 : Nat) : Rat) := pw_nat 53
      have h3 : (2 : Rat) ^ (53 : Int) * (2 : Rat) ^ (-53 : Int) = 1 := by rw [← pw_add]; rfl
      have h4 := Rat.mul_le_mul_of_nonneg_right (Rat.mul_le_mul_of_nonneg_right h1 (Rat.le_of_lt hp)) (Rat.le_of_lt (pw_pos (-53)))
      rw [← hmD, Rat.natCast_mul, ← h2] at h4
      grind
  obtain ⟨q1, q2, q3⟩ := hQn
  have b1 : V false Q (i - j - more - 1) * V false n j ≤ V false m i + V false m i * (2 : Rat) ^ (-53 : Int) := by
    rcases hsmall with h | h
    · have h1 : ((Q * n : Nat) : Rat) ≤ ((2 * D + n : Nat) : Rat) := Rat.natCast_le_natCast.2 q1
      have h2 := Rat.mul_le_mul_of_nonneg_right h1 (Rat.le_of_lt hp)
      rw [← hprod, Rat.natCast_add, Rat.add_mul, ← hmD] at h2
      grind
    · have hD0 : D = 0 := by rw [hD2, h, Nat.zero_mul]
      have hq0 : Q * n = 0 := by have := q3 (by rw [hD0, Nat.zero_mod]); omega
      rw [hprod, hq0, hmD, hD0]; simp; grind
  have b2 : V false m i ≤ V false Q (i - j - more - 1) * V false n j + V false m i * (2 : Rat) ^ (-53 : Int) := by
    rcases hsmall with h | h
    · have h1 : ((2 * D : Nat) : Rat) ≤ ((Q * n + n : Nat) : Rat) := Rat.natCast_le_natCast.2 q2
      have h2 := Rat.mul_le_mul_of_nonneg_right h1 (Rat.le_of_lt hp)
      rw [← hmD, Rat.natCast_add, Rat.add_mul, ← hprod] at h2
      grind
    · have hD0 : D = 0 := by rw [hD2, h, Nat.zero_mul]
      have hq0 : Q * n = 0 := by have := q3 (by rw [hD0, Nat.zero_mod]); omega
      rw [hprod, hq0, hmD, hD0]; simp; grind
  have g1 := V_neg_eq (s ^^ t) Q (i - j - more - 1)
  have g2 := V_neg_eq t n j
  have g3 := V_neg_eq s m i
  refine ⟨?_, ?_, ?_⟩
  · rw [g1, g2, g3]; cases s <;> cases t <;> simp <;> grind
  · rw [g1, g2, g3]; cases s <;> cases t <;> simp <;> grind
  · intro he
    have hnp := V_pos hn j
    have hmp := V_nonneg m i
    -- the two are equal without their signs
    have he2 : V false m i = V false n j := by
      rw [g2, g3] at he; cases s <;> cases t <;> simp at he <;> grind
    have hst : m ≠ 0 → s = t := by
      intro hm
      have := V_pos hm i
      rw [g2, g3] at he; cases s <;> cases t <;> simp at he <;> first | rfl | grind
    have hm : m ≠ 0 := by
      intro hm; subst hm; rw [V_zero] at he2; grind
    have hdiv : D % n = 0 := by
      have hln : ∀ (a b : Nat) (u v : Int), a ≠ 0 → b ≠ 0 → V false a u = V false b v → u ≤ v → a = b * 2 ^ (v - u).toNat ∧ a.log2 = b.log2 + (v - u).toNat := by
        intro a b u v ha hb hab huv
        have e1 : v = u + ((v - u).toNat : Int) := by omega
        rw [e1, V_shift, V_false, V_false] at hab
        have h3 := congrArg (· * ((2 : Rat) ^ u)⁻¹) hab
        simp only [Rat.mul_assoc, Rat.mul_inv_cancel _ (Rat.ne_of_gt (pw_pos _)), Rat.mul_one] at h3
        have h4 := Rat.natCast_inj.1 h3
        refine ⟨h4, ?_⟩
        rw [h4, log2_shift hb]
      rcases Int.le_total i j with h | h
      · obtain ⟨h1, h2⟩ := hln m n i j hm hn he2 h
        rw [hD2, h1, Nat.mul_assoc]; exact Nat.mul_mod_right _ _
      · obtain ⟨h1, h2⟩ := hln n m j i hn hm he2.symm h
        rw [hD2, hmore, h2]
        rw [h1]
        apply Nat.mod_eq_zero_of_dvd
        apply Nat.mul_dvd_mul_left
        apply Nat.pow_dvd_pow
        omega
    have hQn := q3 hdiv
    have h5 : V false Q (i - j - more - 1) * V false n j = V false n j := by rw [hprod, hQn, ← hmD, he2]
    have h6 : V false Q (i - j - more - 1) = 1 := by
      have h7 := congrArg (· * (V false n j)⁻¹) h5
      simp only [Rat.mul_assoc, Rat.mul_inv_cancel _ (Rat.ne_of_gt hnp), Rat.mul_one] at h7
      exact h7
    rw [g1, h6, hst hm]; simp


theorem div_err {x y : Nat} {a b A B : Rat} (hx : IsV x a) (hy : IsV y b) (hb : 0 < b) (h1 : a ≤ A) (h2 : -a ≤ A) (hq : A * 2 ≤ B * b) (hB : B ≤ (2 : Rat) ^ (900 : Int)) :
    ∃ r v, double.div x y = some r ∧ IsV r v ∧ v * b ≤ a + A * (2 : Rat) ^ (-53 : Int) + E B * b ∧ a ≤ v * b + A * (2 : Rat) ^ (-53 : Int) + E B * b := by
  obtain ⟨s, m, i, k1, rfl⟩ := hx
  obtain ⟨t, n, j, k2, rfl⟩ := hy
  have hn : n ≠ 0 := by intro h; subst h; rw [V_zero] at hb; exact Rat.lt_irrefl hb
  obtain ⟨u, q, k, h3, e1, e2, _⟩ := quot_val (s := s) (t := t) (m := m) (i := i) (j := j) hn
  have hVA : V false m i ≤ A := by
    have h3 := V_neg_eq s m i
    cases s <;> simp at h3 <;> grind
  have hV0 := V_nonneg m i
  have t1 := pw_pos (-53)
  have t2 : (2 : Rat) ^ (-53 : Int) ≤ 1 := by decide +kernel
  have hm1 := Rat.mul_le_mul_of_nonneg_right hVA (Rat.le_of_lt t1)
  have hm2 : A * (2 : Rat) ^ (-53 : Int) ≤ A := by
    have := Rat.mul_le_mul_of_nonneg_left t2 (show 0 ≤ A by grind)
    grind
  have hQ1 : V u q k ≤ B := by
    apply Rat.le_of_mul_le_mul_right _ hb
    grind
  have hQ2 : -V u q k ≤ B := by
    apply Rat.le_of_mul_le_mul_right _ hb
    rw [Rat.neg_mul]
    grind
  obtain ⟨v, hv, r1, r2⟩ := near_err (s := u) (m := q) (p := k) rfl hQ1 hQ2 hB
  have r3 := Rat.mul_le_mul_of_nonneg_right r1 (Rat.le_of_lt hb)
  have r4 := Rat.mul_le_mul_of_nonneg_right r2 (Rat.le_of_lt hb)
  rw [Rat.add_mul] at r3 r4
  refine ⟨_, v, by unfold Format.div; rw [k1, k2]; show (Datum.quotient 54 _ _).map _ = _; rw [h3]; rfl, hv, ?_, ?_⟩
  · unfold E; grind
  · unfold E; grind

theorem div_one {x y : Nat} {a b : Rat} (hx : IsV x a) (hy : IsV y b) (hb : b ≠ 0) (h : a = b) : ∃ r, double.div x y = some r ∧ IsV r 1 := by
  obtain ⟨s, m, i, k1, rfl⟩ := hx
  obtain ⟨t, n, j, k2, rfl⟩ := hy
  have hn : n ≠ 0 := by intro h; subst h; rw [V_zero] at hb; exact hb rfl
  obtain ⟨u, q, k, h3, _, _, e3⟩ := quot_val (s := s) (t := t) (m := m) (i := i) (j := j) hn
  refine ⟨_, by unfold Format.div; rw [k1, k2]; show (Datum.quotient 54 _ _).map _ = _; rw [h3]; rfl, near_exact (e3 h) ⟨1, 0, ?_, by decide, by decide, by decide⟩⟩
  decide +kernel

def parts (neg : Bool) (rung : Nat) : Datum :=
  if rung < double.binade then .number neg rung double.leastPlace
  else if rung < double.infRung then .number neg (double.binade + rung % double.binade) (double.leastPlace + (rung / double.binade - 1 : Nat))
  else if rung = double.infRung then .infinity neg else .nan neg (rung - double.infRung)
theorem read_parts (b : Nat) : double.read b = parts (b / 2 ^ 63 % 2 == 1) (b % 2 ^ 63) := rfl
theorem parts_opp (neg : Bool) (rung : Nat) {s : Bool} {m : Nat} {e : Int} (h : parts neg rung = .number s m e) : parts (!neg) rung = .number (!s) m e := by
  unfold parts at h ⊢
  by_cases c1 : rung < double.binade
  · rw [if_pos c1] at h ⊢; cases h; rfl
  · rw [if_neg c1] at h ⊢
    by_cases c2 : rung < double.infRung
    · rw [if_pos c2] at h ⊢; cases h; rfl
    · rw [if_neg c2] at h
      by_cases c3 : rung = double.infRung
      · rw [if_pos c3] at h; cases h
      · rw [if_neg c3] at h; cases h

/-- A word whose sign is turned. -/
theorem neg_val {b : Nat} {v : Rat} (h : IsV b v) : IsV (Go.Op.negFloat .f64 b) (-v) := by
  obtain ⟨s, m, e, hr, rfl⟩ := h
  refine ⟨!s, m, e, ?_, opp_val s m e⟩
  have h1 : (b ^^^ 2 ^ 63) % 2 ^ 63 = b % 2 ^ 63 := by
    rw [Nat.xor_mod_two_pow, Nat.mod_self, Nat.xor_zero]
  have h2 : (b ^^^ 2 ^ 63) / 2 ^ 63 % 2 = 1 - b / 2 ^ 63 % 2 := by
    have h4 := Nat.xor_mod_two_pow (a := b / 2 ^ 63) (b := 1) (n := 1)
    rw [Nat.xor_div_two_pow, Nat.div_self (Nat.two_pow_pos 63)]
    rw [Nat.pow_one] at h4
    rw [h4]
    rcases Nat.mod_two_eq_zero_or_one (b / 2 ^ 63) with h | h <;> rw [h] <;> rfl
  have h3 : ((b ^^^ 2 ^ 63) / 2 ^ 63 % 2 == 1) = !(b / 2 ^ 63 % 2 == 1) := by
    rw [h2]
    rcases Nat.mod_two_eq_zero_or_one (b / 2 ^ 63) with h | h <;> rw [h] <;> rfl
  show double.read (b ^^^ 2 ^ 63) = _
  rw [read_parts] at hr ⊢
  rw [h1, h3]
  exact parts_opp _ _ hr

/-- float64(n). -/
theorem ofInt_val {n : Int} (h : n.natAbs < 2 ^ 53) : IsV (Go.floatOfInt .f64 n) (n : Rat) := by
  have h1 : V (decide (n < 0)) n.natAbs 0 = (n : Rat) := by
    rw [V_natAbs n _ 0 (fun _ => rfl), Rat.zpow_zero, Rat.mul_one]
  exact near_exact h1 ⟨n, 0, by rw [Rat.zpow_zero, Rat.mul_one], h, by decide, by decide⟩

/-- int(x). -/
theorem toInt_val {b : Nat} {v : Rat} (h : IsV b v) : ∃ z : Int, ((Go.FloatKind.f64).decode b).toInt .zero = some z ∧ ((z.natAbs : Nat) : Rat) ≤ (if v < 0 then -v else v) ∧ (∀ k : Int, v = (k : Rat) → z = k) := by
  obtain ⟨s, m, i, hr, rfl⟩ := h
  have hd : (Go.FloatKind.f64).decode b = .number s m i := hr
  rw [hd]
  refine ⟨_, rfl, ?_⟩
  obtain ⟨c, hc⟩ : ∃ c, c = Toward.zero.cut s (m <<< i.toNat) (-i).toNat := ⟨_, rfl⟩
  rw [← hc]
  have habs : (if V s m i < 0 then -V s m i else V s m i) = V false m i := by
    have h1 := V_neg_eq s m i
    have h2 := V_nonneg m i
    cases s <;> simp at h1 <;> grind
  have hsz : (signed s c 0).natAbs = c := by unfold signed; cases s <;> simp
  have hsv : ∀ k : Int, V s c 0 = (k : Rat) → signed s c 0 = k := by
    intro k hk
    have := signed_val s c 0
    have h2 : ((signed s c 0 : Int) : Rat) = (k : Rat) := by rw [this]; exact hk
    exact Rat.intCast_inj.1 h2
  rw [habs, hsz]
  by_cases hi : 0 ≤ i
  · have hcm : c = m * 2 ^ i.toNat := by
      have e0 : (-i).toNat = 0 := by omega
      rw [hc, e0]
      unfold Toward.cut
      simp [Nat.shiftLeft_eq]
    have e1 : V false m i = V false c 0 := by
      rw [hcm, ← V_shift]; congr 1; omega
    refine ⟨?_, ?_⟩
    · rw [e1, V_false, Rat.zpow_zero, Rat.mul_one]; exact Rat.le_refl
    · intro k hk
      apply hsv
      rw [V_neg_eq, ← e1, ← V_neg_eq]; exact hk
  · obtain ⟨d, hdi⟩ : ∃ d : Nat, i = -(d : Int) := ⟨(-i).toNat, by omega⟩
    have hcm : c = m / 2 ^ d := by
      have e0 : (-i).toNat = d := by omega
      have e1 : i.toNat = 0 := by omega
      rw [hc, e0, e1, Nat.shiftLeft_zero]
      unfold Toward.cut
      simp only [Bool.toNat_false, Nat.add_zero, Nat.one_shiftLeft]
      by_cases hdd : d ≤ m.log2 + 2
      · rw [Nat.min_eq_left hdd]
      · have hl : m < 2 ^ (m.log2 + 1) := Nat.lt_log2_self
        have h2 : 2 ^ (m.log2 + 1) ≤ 2 ^ (m.log2 + 2) := Nat.pow_le_pow_right (by decide) (by omega)
        have h3 : 2 ^ (m.log2 + 1) ≤ 2 ^ d := Nat.pow_le_pow_right (by decide) (by omega)
        rw [Nat.min_eq_right (by omega), Nat.div_eq_of_lt (by omega), Nat.div_eq_of_lt (by omega)]
    have hVm : V false m i * ((2 ^ d : Nat) : Rat) = (m : Rat) := by
      rw [V_false, hdi, ← pw_nat, Rat.mul_assoc, ← pw_add]
      have : -(d : Int) + (d : Int) = 0 := by omega
      rw [this, Rat.zpow_zero, Rat.mul_one]
    have hp : (0 : Rat) < ((2 ^ d : Nat) : Rat) := Rat.natCast_pos.2 (Nat.two_pow_pos d)
    refine ⟨?_, ?_⟩
    · apply Rat.le_of_mul_le_mul_right _ hp
      rw [hVm, ← Rat.natCast_mul]
      apply Rat.natCast_le_natCast.2
      rw [hcm]; exact Nat.div_mul_le_self m (2 ^ d)
    · intro k hk
      apply hsv
      have h5 : V false m i = ((k.natAbs : Nat) : Rat) := by
        have h1 := V_neg_eq s m i
        have h2 := V_nonneg m i
        have h3 := intCast_natAbs k
        have h4 : (0 : Rat) ≤ ((k.natAbs : Nat) : Rat) := Rat.natCast_nonneg
        rw [hk, h3] at h1
        by_cases hkn : k < 0
        · rw [if_pos hkn] at h1; cases s <;> simp at h1 <;> grind
        · rw [if_neg hkn] at h1; cases s <;> simp at h1 <;> grind
      have h6 : m = k.natAbs * 2 ^ d := by
        rw [h5, ← Rat.natCast_mul] at hVm
        exact (Rat.natCast_inj.1 hVm).symm
      have h7 : c = k.natAbs := by rw [hcm, h6, Nat.mul_div_cancel _ (Nat.two_pow_pos d)]
      rw [V_neg_eq, V_false, Rat.zpow_zero, Rat.mul_one, h7, ← h5, ← V_neg_eq]
      exact hk

/-- A word is a NaN, an infinity, or a number. -/
theorem cases_of (b : Nat) : (∀ y, double.order b y = none) ∨ (∃ s, double.read b = .infinity s) ∨ ∃ v, IsV b v := by
  cases h : double.read b with
  | nan s f => left; intro y; unfold Format.order; rw [h]; rfl
  | infinity s => exact .inr (.inl ⟨s, rfl⟩)
  | number s m e => exact .inr (.inr ⟨_, s, m, e, h, rfl⟩)

theorem inf_order {b y : Nat} {s : Bool} {v : Rat} (h : double.read b = .infinity s) (hy : IsV y v) : double.order b y = some (if s then .lt else .gt) := by
  obtain ⟨t, m, i, k1, rfl⟩ := hy
  unfold Format.order
  rw [h, k1]; rfl
theorem inf_self {b : Nat} {s : Bool} (h : double.read b = .infinity s) : double.order b b = some .eq := by
  unfold Format.order
  rw [h]; cases s <;> rfl
theorem order_inf {b y : Nat} {s : Bool} {v : Rat} (h : double.read b = .infinity s) (hy : IsV y v) : double.order y b = some (if s then .gt else .lt) := by
  obtain ⟨t, m, i, k1, rfl⟩ := hy
  unfold Format.order
  rw [h, k1]; rfl

theorem rep_of {v : Rat} {n : Int} {d : Nat} (h : v * ((2 ^ d : Nat) : Rat) = (n : Rat)) (hb : n.natAbs < 2 ^ 53) (hd : d ≤ 1000) : Rep v := by
  refine ⟨n, -(d : Int), ?_, hb, by omega, by omega⟩
  rw [← h, ← pw_nat, Rat.mul_assoc, ← pw_add]
  have : (d : Int) + -(d : Int) = 0 := by omega
  rw [this, Rat.zpow_zero, Rat.mul_one]


/-- What a word reads as is told by at most 53 digits. -/
theorem isv_rep {b : Nat} {v : Rat} (h : IsV b v) : ∃ (n : Int) (k : Int), v = (n : Rat) * (2 : Rat) ^ k ∧ n.natAbs < 2 ^ 53 ∧ -1074 ≤ k ∧ k ≤ 971 := by
  obtain ⟨s, m, e, hr, rfl⟩ := h
  have hm : m < 2 ^ 53 ∧ -1074 ≤ e ∧ e ≤ 971 := by
    rw [read_parts] at hr
    unfold parts at hr
    have hlt : b % 2 ^ 63 < 2 ^ 63 := Nat.mod_lt _ (Nat.two_pow_pos 63)
    obtain ⟨r, hrr⟩ : ∃ r, r = b % 2 ^ 63 := ⟨_, rfl⟩
    rw [← hrr] at hr hlt
    by_cases c1 : r < double.binade
    · rw [if_pos c1] at hr; cases hr
      rw [binade_eq] at c1
      rw [least_eq]; omega
    · rw [if_neg c1] at hr
      by_cases c2 : r < double.infRung
      · rw [if_pos c2] at hr; cases hr
        rw [inf_eq] at c2
        rw [binade_eq] at c1 ⊢
        rw [least_eq]; omega
      · rw [if_neg c2] at hr
        by_cases c3 : r = double.infRung
        · rw [if_pos c3] at hr; cases hr
        · rw [if_neg c3] at hr; cases hr
  refine ⟨if s then -(m : Int) else m, e, ?_, ?_, hm.2⟩
  · unfold V; cases s <;> simp [Rat.intCast_natCast]
  · cases s <;> simp <;> omega

/-- A zero has a sign. -/
def negZero (b : Nat) : Prop := ∃ e, double.read b = .number true 0 e

theorem zero_read {b : Nat} (h : IsV b 0) : ∃ s e, double.read b = .number s 0 e := by
  obtain ⟨s, m, e, hr, hv⟩ := h
  by_cases hm : m = 0
  · subst hm; exact ⟨s, e, hr⟩
  · have := V_pos hm e
    have h2 := V_neg_eq s m e
    cases s <;> simp at h2 <;> grind

/-- 1 / 0. -/
theorem one_div_zero {x b : Nat} {s t : Bool} {m : Nat} {i e : Int} (hx : double.read x = .number t m i) (hm : m ≠ 0) (h : double.read b = .number s 0 e) :
    double.div x b = some (double.write (.infinity (t ^^ s))) := by
  unfold Format.div
  rw [hx, h]
  have hq : (Datum.number t m i).quotient (double.fractionBits + 2) (.number s 0 e) = some (.infinity (t ^^ s)) := by
    unfold Datum.quotient
    simp [hm]
  rw [hq]; rfl

theorem read_inf (s : Bool) : double.read (double.write (.infinity s)) = .infinity s := by
  cases s <;> decide +kernel

/-- A half of a whole number of at most 2^21, no zero with a sign. -/
def Half (b : Nat) (n : Int) : Prop := -2097152 ≤ n ∧ n ≤ 2097152 ∧ IsV b ((n : Rat) / 2) ∧ ¬ negZero b

theorem half_zero {b : Nat} (h : ¬ negZero b) (hv : IsV b 0) : ∃ e, double.read b = .number false 0 e := by
  obtain ⟨s, e, hr⟩ := zero_read hv
  cases s
  · exact ⟨e, hr⟩
  · exact absurd ⟨e, hr⟩ h

end Go.Proofs.Ytmaphdfhoddnmaa.Fl
