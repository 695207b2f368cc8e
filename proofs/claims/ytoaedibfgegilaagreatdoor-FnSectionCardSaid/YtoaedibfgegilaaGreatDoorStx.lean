/-
  The table's text as plain bytes: numerals, entries, lines, their words.
-/
import Derived.Test.YtoaedibfgegilaaGreatDoorSfd
namespace Go.Proofs.YtoaedibfgegilaaGreatDoor.st
open Go.RowKit
set_option linter.unusedVariables false
set_option linter.unusedSimpArgs false

/-! Numerals. -/
def Dig (b : UInt8) : Prop := 48 ≤ b.toNat ∧ b.toNat ≤ 57
def val (acc : Nat) (l : List UInt8) : Nat := l.foldl (fun a b => a * 10 + (b.toNat - 48)) acc
theorem val_append (acc : Nat) (l r : List UInt8) : val acc (l ++ r) = val (val acc l) r := by simp [val]
theorem dig_of (u : Nat) (h : u < 10) : (UInt8.ofNat (48 + u)).toNat = 48 + u := by
  rw [UInt8.toNat_ofNat_of_lt']
  show 48 + u < 256
  omega
theorem dec_dig (u : Nat) : ∀ b ∈ Lib.decDigits u, Dig b := by
  induction u using Nat.strongRecOn with
  | _ u ih =>
    rw [Lib.decDigits]
    by_cases h : u < 10
    · rw [dif_pos h]
      intro b hb
      rw [List.mem_singleton.1 hb]
      unfold Dig
      rw [dig_of u h]
      omega
    · rw [dif_neg h]
      intro b hb
      rcases List.mem_append.1 hb with h1 | h1
      · exact ih (u / 10) (by omega) b h1
      · rw [List.mem_singleton.1 h1]
        unfold Dig
        rw [dig_of (u % 10) (by omega)]
        omega
theorem dec_val (u : Nat) : val 0 (Lib.decDigits u) = u := by
  induction u using Nat.strongRecOn with
  | _ u ih =>
    rw [Lib.decDigits]
    by_cases h : u < 10
    · rw [dif_pos h]
      unfold val
      simp only [List.foldl_cons, List.foldl_nil]
      rw [dig_of u h]
      omega
    · rw [dif_neg h, val_append, ih (u / 10) (by omega)]
      unfold val
      simp only [List.foldl_cons, List.foldl_nil]
      rw [dig_of (u % 10) (by omega)]
      omega
theorem nDigits_le (k u : Nat) (hk : 1 ≤ k) (h : u < 10 ^ k) : Lib.nDigits u ≤ k := by
  induction k generalizing u with
  | zero => omega
  | succ k ih =>
    by_cases h10 : u < 10
    · rw [Lib.nDigits_small h10]
      omega
    · rw [Lib.nDigits_big h10]
      rcases Nat.eq_zero_or_pos k with rfl | hk
      · simp at h
        omega
      · have := ih (u / 10) hk (by rw [Nat.pow_succ] at h; omega)
        omega
theorem dec_ne (u : Nat) : Lib.decDigits u ≠ [] := by
  intro e
  have h := Lib.decDigits_length u
  rw [e] at h
  have := Lib.nDigits_pos u
  simp at h
  omega
theorem val_zeros (k : Nat) : val 0 (List.replicate k 48) = 0 := by
  induction k with
  | zero => rfl
  | succ k ih =>
    unfold val at ih ⊢
    rw [List.replicate_succ, List.foldl_cons]
    simpa using ih
/-- A numeral, padded with zeros. -/
def pad (n : Int) (k : Nat) : List UInt8 := List.replicate (k - (Lib.itoa n).length) 48 ++ Lib.itoa n
theorem itoa_dec {n : Int} (h : 0 ≤ n) : Lib.itoa n = Lib.decDigits n.toNat := by
  unfold Lib.itoa
  rw [if_neg (by omega)]
theorem itoa_dig {n : Int} (h : 0 ≤ n) : ∀ b ∈ Lib.itoa n, Dig b := by
  rw [itoa_dec h]
  exact dec_dig _
theorem itoa_val {n : Int} (h : 0 ≤ n) : (val 0 (Lib.itoa n) : Int) = n := by
  rw [itoa_dec h, dec_val]
  omega
theorem itoa_ne {n : Int} (h : 0 ≤ n) : Lib.itoa n ≠ [] := by
  rw [itoa_dec h]
  exact dec_ne _
theorem itoa_le {n : Int} (h : 0 ≤ n) (k : Nat) (hk : 1 ≤ k) (hn : n < (10 ^ k : Nat)) : (Lib.itoa n).length ≤ k := by
  rw [itoa_dec h, Lib.decDigits_length]
  exact nDigits_le k _ hk (by omega)
theorem pad_dig {n : Int} (h : 0 ≤ n) (k : Nat) : ∀ b ∈ pad n k, Dig b := by
  intro b hb
  rcases List.mem_append.1 hb with h1 | h1
  · rw [List.eq_of_mem_replicate h1]
    unfold Dig
    decide
  · exact itoa_dig h b h1
theorem pad_val {n : Int} (h : 0 ≤ n) (k : Nat) : (val 0 (pad n k) : Int) = n := by
  unfold pad
  rw [val_append, val_zeros]
  exact itoa_val h
theorem pad_ne {n : Int} (h : 0 ≤ n) (k : Nat) : pad n k ≠ [] := by
  unfold pad
  intro e
  exact itoa_ne h (List.append_eq_nil_iff.1 e).2
theorem pad_length {n : Int} (h : 0 ≤ n) (k : Nat) (hk : 1 ≤ k) (hn : n < (10 ^ k : Nat)) : (pad n k).length = k := by
  have := itoa_le h k hk hn
  unfold pad
  rw [List.length_append, List.length_replicate]
  omega
theorem decFrom_val (l : List UInt8) : ∀ acc, (∀ b ∈ l, Dig b) → Lib.decFrom acc l = some (val acc l) := by
  induction l with
  | nil => intro acc _; rfl
  | cons c r ih =>
    intro acc h
    have hc := h c (by simp)
    unfold Dig at hc
    rw [Lib.decFrom, show Lib.digitVal c = some (c.toNat - 48) by unfold Lib.digitVal; rw [if_pos hc]]
    exact ih _ (fun b hb => h b (by simp [hb]))
theorem val_mono (l : List UInt8) : ∀ acc, acc ≤ val acc l := by
  induction l with
  | nil => intro acc; exact Nat.le_refl _
  | cons c r ih =>
    intro acc
    have := ih (acc * 10 + (c.toNat - 48))
    unfold val at this ⊢
    rw [List.foldl_cons]
    omega
theorem uintM_val (l : List UInt8) : ∀ acc, (∀ b ∈ l, Dig b) → val acc l < 1000000000000000000 → Lib.parseUintM (2 ^ 64 - 1) acc l = .ok (val acc l) := by
  induction l with
  | nil => intro acc _ _; rfl
  | cons c r ih =>
    intro acc h hv
    have hc := h c (by simp)
    unfold Dig at hc
    have e : val acc (c :: r) = val (acc * 10 + (c.toNat - 48)) r := rfl
    rw [e] at hv ⊢
    have hm := val_mono r (acc * 10 + (c.toNat - 48))
    rw [Lib.parseUintM, if_pos hc, if_neg (by omega), if_neg (by omega)]
    exact ih _ (fun b hb => h b (by simp [hb])) hv
theorem head_dig {l : List UInt8} (hd : ∀ b ∈ l, Dig b) (hl : l ≠ []) : ∃ c r, l = c :: r ∧ Dig c := by
  cases l with
  | nil => exact absurd rfl hl
  | cons c r => exact ⟨c, r, rfl, hd c (by simp)⟩
theorem atoi_val {l : List UInt8} (hd : ∀ b ∈ l, Dig b) (hl : l ≠ []) : Lib.atoi l = some ((val 0 l : Nat) : Int) := by
  obtain ⟨c, r, rfl, hc⟩ := head_dig hd hl
  unfold Dig at hc
  have h1 : (c == 45) = false := by
    rw [beq_eq_false_iff_ne]
    rintro rfl
    revert hc
    decide
  have h2 : (c == 43) = false := by
    rw [beq_eq_false_iff_ne]
    rintro rfl
    revert hc
    decide
  unfold Lib.atoi
  simp only [h1, h2, Bool.false_eq_true, if_false]
  unfold Lib.decNat
  rw [decFrom_val _ 0 hd]
  simp
theorem parse_val {l : List UInt8} (hd : ∀ b ∈ l, Dig b) (hl : l ≠ []) (hv : val 0 l < 1000000000000000000) : Lib.parseIntB 64 l = .ok ((val 0 l : Nat) : Int) := by
  obtain ⟨c, r, rfl, hc⟩ := head_dig hd hl
  unfold Dig at hc
  unfold Lib.parseIntB
  simp only
  rw [if_neg (show ¬ (c.toNat = 43 ∨ c.toNat = 45) by omega)]
  unfold Lib.parseUintB
  rw [if_neg (by simp), uintM_val _ 0 hd hv]
  simp only
  rw [if_neg (by omega), if_neg (by omega), if_neg (by omega)]

/-! Words of a line. -/
theorem step_word (w : List UInt8) : ∀ (d : List (List UInt8)) (c : List UInt8), (∀ b ∈ w, b ≠ 32) → w.foldl stepF (d, c) = (d, c ++ w) := by
  induction w with
  | nil => intro d c _; simp
  | cons b r ih =>
    intro d c h
    rw [List.foldl_cons]
    have : stepF (d, c) b = (d, c ++ [b]) := by
      unfold stepF
      rw [if_neg (h b (by simp))]
    rw [this, ih _ _ (fun x hx => h x (by simp [hx]))]
    simp
theorem step_blank (d : List (List UInt8)) (c : List UInt8) (h : c ≠ []) : stepF (d, c) 32 = (d ++ [c], []) := by
  unfold stepF
  rw [if_pos rfl, if_neg h]
theorem dig_ne {b : UInt8} (h : Dig b) : b ≠ 32 ∧ b ≠ 13 ∧ b ≠ 10 ∧ b ≠ 116 ∧ b ≠ 0 := by
  unfold Dig at h
  refine ⟨?_, ?_, ?_, ?_, ?_⟩ <;> (rintro rfl; revert h; decide)
theorem dig_wb {b : UInt8} (h : Dig b) : Wb b := by
  unfold Dig at h
  unfold Wb
  omega
theorem words1 (a : List UInt8) (ha : ∀ b ∈ a, b ≠ 32) (h : a ≠ []) : fieldsOf a = [a] := by
  unfold fieldsOf
  rw [step_word a _ _ ha]
  simp [h]
theorem words2 (a b : List UInt8) (ha : ∀ x ∈ a, x ≠ 32) (hb : ∀ x ∈ b, x ≠ 32) (h1 : a ≠ []) (h2 : b ≠ []) : fieldsOf (a ++ (32 :: b)) = [a, b] := by
  unfold fieldsOf
  rw [List.foldl_append, step_word a _ _ ha, List.foldl_cons, step_blank _ _ (by simpa using h1), step_word b _ _ hb]
  simp [h2]
theorem words3 (a b c t : List UInt8) (ha : ∀ x ∈ a, x ≠ 32) (hb : ∀ x ∈ b, x ≠ 32) (hc : ∀ x ∈ c, x ≠ 32) (h1 : a ≠ []) (h2 : b ≠ []) (h3 : c ≠ []) (ht : t = [] ∨ t = [32]) : fieldsOf (a ++ (32 :: (b ++ (32 :: (c ++ t))))) = [a, b, c] := by
  unfold fieldsOf
  rw [List.foldl_append, step_word a _ _ ha, List.foldl_cons, step_blank _ _ (by simpa using h1), List.foldl_append, step_word b _ _ hb, List.foldl_cons, step_blank _ _ (by simpa using h2), List.foldl_append, step_word c _ _ hc]
  rcases ht with rfl | rfl
  · simp [h3]
  · rw [List.foldl_cons, step_blank _ _ (by simpa using h3)]
    simp

/-! Lines. -/
def Rest (T : ByteArray) (q : Nat) (R : List UInt8) : Prop := T.data.toList.drop q = R
theorem Rest.size {T : ByteArray} {q : Nat} {R : List UInt8} (h : Rest T q R) (hR : R ≠ []) : q + R.length = T.size := by
  unfold Rest at h
  have hl := congrArg List.length h
  rw [List.length_drop, tlen] at hl
  have := List.length_pos_iff.2 hR
  omega
theorem Rest.at {T : ByteArray} {q : Nat} {R : List UInt8} (h : Rest T q R) (k : Nat) : bt T (q + k) = R.getD k 0 := by
  unfold Rest at h
  unfold bt
  rw [← h, List.getD_eq_getElem?_getD, List.getD_eq_getElem?_getD, List.getElem?_drop]
theorem Rest.drop {T : ByteArray} {q : Nat} {A R : List UInt8} (h : Rest T q (A ++ R)) : Rest T (q + A.length) R := by
  unfold Rest at h ⊢
  rw [← List.drop_drop, h, List.drop_left]
theorem Rest.seg {T : ByteArray} {q : Nat} {A R : List UInt8} (h : Rest T q (A ++ R)) : seg T q A.length = A := by
  unfold Rest at h
  unfold st.seg
  rw [h, List.take_left]
/-- How a line may end. -/
def Eol (e : List UInt8) : Prop := e = [13] ∨ e = [10] ∨ e = [13, 10]
theorem line_at {T : ByteArray} {q : Nat} {c e R : List UInt8} (h : Rest T q (c ++ (e ++ R))) (hc : ∀ b ∈ c, b ≠ 13 ∧ b ≠ 10) (hl : c.length ≤ 1000) (he : Eol e) (hR : R.getD 0 0 ≠ 10) :
    EolAt T q (q + c.length) ∧ seg T q c.length = c ∧ ∃ q', NextAt T (q + c.length) q' ∧ Rest T q' R := by
  have hd := h.drop
  have hne : c ++ (e ++ R) ≠ [] := by
    rcases he with rfl | rfl | rfl <;> simp
  have hsz := h.size hne
  have hel : 1 ≤ e.length := by rcases he with rfl | rfl | rfl <;> simp
  rw [List.length_append, List.length_append] at hsz
  have h0 := hd.at 0
  have h1 := hd.at 1
  rw [Nat.add_zero] at h0
  refine ⟨⟨by omega, by omega, ?_, fun k h1 h2 => ?_, by omega⟩, h.seg, ?_⟩
  · rw [h0]
    rcases he with rfl | rfl | rfl <;> simp
  · obtain ⟨j, rfl⟩ : ∃ j, k = q + j := ⟨k - q, by omega⟩
    rw [h.at j, List.getD_eq_getElem?_getD, List.getElem?_append_left (by omega), List.getElem?_eq_getElem (by omega)]
    exact hc _ (List.getElem_mem _)
  · have hr := hd.drop
    rcases he with rfl | rfl | rfl
    · refine ⟨_, .inl ⟨rfl, fun hh => ?_⟩, hr⟩
      rw [h1] at hh
      exact hR (by simpa using hh.2.1)
    · refine ⟨_, .inl ⟨rfl, fun hh => ?_⟩, hr⟩
      rw [h0] at hh
      simp at hh
    · refine ⟨_, .inr ⟨rfl, ?_, ?_⟩, hr⟩
      · rw [h0]
        simp
      · rw [h1]
        simp

/-! The table. -/
def endB (z : Nat) : List UInt8 := if z = 0 then [32, 13] else if z = 1 then [32, 10] else [13, 10]
def kindB (e : Ent) : UInt8 := if e.free then 102 else 110
def entL (e : Ent) (z : Nat) : List UInt8 := pad e.off 10 ++ [32] ++ pad e.gen 5 ++ [32] ++ [kindB e] ++ endB z
def hdr (a b : Int) : List UInt8 := Lib.itoa a ++ [32] ++ Lib.itoa b ++ [10]
def trl : List UInt8 := [116, 114, 97, 105, 108, 101, 114]
/-- The text from entry k on, in a run that ends at j, up to the trailer. -/
inductive Sec (f : Nat → Ent) (n z : Nat) : Nat → Nat → List UInt8 → Prop
  | done : Sec f n z n n []
  | ent {k j : Nat} {S : List UInt8} : k < j → Sec f n z (k + 1) j S → Sec f n z k j (entL (f k) z ++ S)
  | head {k j : Nat} {S : List UInt8} : k < n → k < j → (∀ t, k ≤ t → t < j → (f t).num = (f k).num + ((t - k : Nat) : Int)) → Sec f n z k j S → Sec f n z k k (hdr (f k).num ((j - k : Nat) : Int) ++ S)
theorem Sec.le {f : Nat → Ent} {n z k j : Nat} {S : List UInt8} (h : Sec f n z k j S) : k ≤ j ∧ j ≤ n := by
  induction h with
  | done => exact ⟨Nat.le_refl _, Nat.le_refl _⟩
  | ent h1 _ ih => exact ⟨by omega, ih.2⟩
  | head h1 h2 _ _ ih => exact ⟨Nat.le_refl _, by omega⟩
/-- What the numbers of an entry keep to. -/
structure Ok (e : Ent) : Prop where
  comp : e.comp = false
  off0 : 0 ≤ e.off
  off1 : e.off ≤ 9999999999
  gen0 : 0 ≤ e.gen
  gen1 : e.gen ≤ 65535
  num0 : 0 ≤ e.num
  num1 : e.num ≤ 1048576
  use : e.free = false → 9 ≤ e.off
theorem entL_length {e : Ent} (h : Ok e) (z : Nat) : (entL e z).length = 20 := by
  unfold entL
  have h1 := h.off1
  have h2 := h.gen1
  rw [List.length_append, List.length_append, List.length_append, List.length_append, List.length_append, pad_length h.off0 10 (by omega) (by simp; omega), pad_length h.gen0 5 (by omega) (by simp; omega)]
  unfold endB
  split
  · rfl
  · split <;> rfl
theorem Sec.length {f : Nat → Ent} {n z k j : Nat} {S : List UInt8} (h : Sec f n z k j S) (hn : n ≤ 500) (hO : ∀ i, i < n → Ok (f i)) : S.length ≤ 20 * (n - k) + 40 * (n - j) := by
  induction h with
  | done => simp
  | ent h1 hs ih =>
    have := hs.le
    rw [List.length_append, entL_length (hO _ (by omega))]
    omega
  | head h1 h2 hcc hs ih =>
    rename_i k j S
    have hle := hs.le
    have ho := hO k h1
    have a1 := ho.num1
    have a2 := itoa_le ho.num0 10 (by omega) (by simp; omega)
    have a3 := itoa_le (n := ((j - k : Nat) : Int)) (by omega) 10 (by omega) (by simp; omega)
    unfold hdr
    simp only [List.length_append, List.length_cons, List.length_nil]
    omega
/-- An entry's line and its end. -/
theorem entL_line (e : Ent) (z : Nat) : ∃ t w, entL e z = (pad e.off 10 ++ (32 :: (pad e.gen 5 ++ (32 :: ([kindB e] ++ t))))) ++ w ∧ (t = [] ∨ t = [32]) ∧ Eol w := by
  unfold entL endB
  split
  · exact ⟨[32], [13], by simp, .inr rfl, .inl rfl⟩
  · split
    · exact ⟨[32], [10], by simp, .inr rfl, .inr (.inl rfl)⟩
    · exact ⟨[], [13, 10], by simp, .inl rfl, .inr (.inr rfl)⟩
theorem getD_app {a r : List UInt8} (h : a ≠ []) : (a ++ r).getD 0 0 = a.getD 0 0 := by
  cases a with
  | nil => exact absurd rfl h
  | cons c l => rfl
theorem dig_first {a : List UInt8} (h : ∀ b ∈ a, Dig b) (hn : a ≠ []) : a.getD 0 0 ≠ 10 := by
  obtain ⟨c, r, rfl, hc⟩ := head_dig h hn
  exact (dig_ne hc).2.2.1
theorem entL_first {e : Ent} (h : Ok e) (z : Nat) (R : List UInt8) : (entL e z ++ R).getD 0 0 ≠ 10 := by
  unfold entL
  rw [List.append_assoc, List.append_assoc, List.append_assoc, List.append_assoc, List.append_assoc, getD_app (pad_ne h.off0 10)]
  exact dig_first (pad_dig h.off0 10) (pad_ne h.off0 10)
theorem hdr_first {a b : Int} (h : 0 ≤ a) (R : List UInt8) : (hdr a b ++ R).getD 0 0 ≠ 10 := by
  unfold hdr
  rw [List.append_assoc, List.append_assoc, List.append_assoc, getD_app (itoa_ne h)]
  exact dig_first (itoa_dig h) (itoa_ne h)
theorem Sec.first {f : Nat → Ent} {n z k j : Nat} {S : List UInt8} (h : Sec f n z k j S) (hO : ∀ i, i < n → Ok (f i)) : (S ++ (trl ++ [10])).getD 0 0 ≠ 10 := by
  cases h with
  | done => decide
  | ent h1 hs =>
    have := hs.le
    rw [List.append_assoc]
    exact entL_first (hO _ (by omega)) z _
  | head h1 h2 _ hs =>
    rw [List.append_assoc]
    exact hdr_first (hO _ h1).num0 _

/-! The walk's own questions: which line is next. -/
theorem ent_here {f : Nat → Ent} {n z k j : Nat} {S : List UInt8} {T : ByteArray} {q : Nat} (h : Sec f n z k j S) (hk : k < j) (hO : ∀ i, i < n → Ok (f i)) (hT : Rest T q (S ++ (trl ++ [10]))) :
    ∃ l, EolAt T q (q + l.length) ∧ seg T q l.length = l ∧ 0 < l.length ∧ l.length ≤ 1000 ∧ Plain l ∧ fieldsOf l = [pad (f k).off 10, pad (f k).gen 5, [kindB (f k)]] ∧ ∃ q' S', NextAt T (q + l.length) q' ∧ Rest T q' (S' ++ (trl ++ [10])) ∧ Sec f n z (k + 1) j S' := by
  cases h with
  | done => omega
  | head => omega
  | ent h1 hs =>
    rename_i S
    have hle := hs.le
    have ho := hO k (by omega)
    obtain ⟨t, w, he, ht, hw⟩ := entL_line (f k) z
    have h20 := entL_length ho z
    rw [he] at hT
    rw [he, List.length_append] at h20
    have hkb : Wb (kindB (f k)) := by
      unfold kindB Wb
      split <;> decide
    have hkn : kindB (f k) ≠ 13 ∧ kindB (f k) ≠ 10 ∧ kindB (f k) ≠ 32 := by
      unfold kindB
      split <;> decide
    obtain ⟨l, hl⟩ : ∃ l, pad (f k).off 10 ++ (32 :: (pad (f k).gen 5 ++ (32 :: ([kindB (f k)] ++ t)))) = l := ⟨_, rfl⟩
    have hmem : ∀ b ∈ l, b = 32 ∨ (Wb b ∧ b ≠ 13 ∧ b ≠ 10) := by
      intro b hb
      rw [← hl] at hb
      simp only [List.mem_append, List.mem_cons, List.not_mem_nil, or_false] at hb
      rcases hb with hb | hb | hb | hb | hb | hb
      · have := pad_dig ho.off0 10 b hb
        exact .inr ⟨dig_wb this, (dig_ne this).2.1, (dig_ne this).2.2.1⟩
      · exact .inl hb
      · have := pad_dig ho.gen0 5 b hb
        exact .inr ⟨dig_wb this, (dig_ne this).2.1, (dig_ne this).2.2.1⟩
      · exact .inl hb
      · rw [hb]
        exact .inr ⟨hkb, hkn.1, hkn.2.1⟩
      · rcases ht with rfl | rfl
        · cases hb
        · exact .inl (List.mem_singleton.1 hb)
    rw [hl, List.append_assoc, List.append_assoc] at hT
    rw [hl] at h20
    obtain ⟨e1, e2, q', e3, e4⟩ := line_at hT (fun b hb => by
      rcases hmem b hb with rfl | h
      · decide
      · exact h.2) (by omega) hw (hs.first hO)
    refine ⟨l, e1, e2, ?_, by omega, fun b hb => (hmem b hb).imp id (·.1), ?_, q', S, e3, e4, hs⟩
    · rw [← hl]
      simp only [List.length_append, List.length_cons]
      omega
    · rw [← hl]
      exact words3 _ _ _ t (fun x hx => (dig_ne (pad_dig ho.off0 10 x hx)).1) (fun x hx => (dig_ne (pad_dig ho.gen0 5 x hx)).1) (fun x hx => by rw [List.mem_singleton.1 hx]; exact hkn.2.2) (pad_ne ho.off0 10) (pad_ne ho.gen0 5) (by simp) ht
theorem end_here {f : Nat → Ent} {n z k : Nat} {S : List UInt8} {T : ByteArray} {q : Nat} (h : Sec f n z k k S) (hn : n ≤ 500) (hO : ∀ i, i < n → Ok (f i)) (hT : Rest T q (S ++ (trl ++ [10]))) :
    (k = n ∧ EolAt T q (q + 7) ∧ seg T q 7 = trl) ∨
    (k < n ∧ ∃ j l, EolAt T q (q + l.length) ∧ seg T q l.length = l ∧ 0 < l.length ∧ l.length ≤ 1000 ∧ Plain l ∧ (∀ b ∈ l, b ≠ 116) ∧ k < j ∧ j ≤ n ∧ (∀ t, k ≤ t → t < j → (f t).num = (f k).num + ((t - k : Nat) : Int)) ∧ fieldsOf l = [Lib.itoa (f k).num, Lib.itoa ((j - k : Nat) : Int)] ∧ ∃ q' S', NextAt T (q + l.length) q' ∧ Rest T q' (S' ++ (trl ++ [10])) ∧ Sec f n z k j S') := by
  cases h with
  | done =>
    left
    have hT' : Rest T q (trl ++ ([10] ++ [])) := hT
    obtain ⟨e1, e2, _⟩ := line_at hT' (by unfold trl; decide) (by unfold trl; decide) (.inr (.inl rfl)) (by decide)
    exact ⟨rfl, e1, e2⟩
  | ent h1 hs => omega
  | head h1 h2 hc hs =>
    rename_i j S
    right
    have hle := hs.le
    have ho := hO k h1
    have a1 := ho.num1
    have a2 := itoa_le ho.num0 10 (by omega) (by simp; omega)
    have hj0 : (0 : Int) ≤ ((j - k : Nat) : Int) := by omega
    have a3 := itoa_le hj0 10 (by omega) (by simp; omega)
    obtain ⟨l, hl⟩ : ∃ l, Lib.itoa (f k).num ++ (32 :: Lib.itoa ((j - k : Nat) : Int)) = l := ⟨_, rfl⟩
    have hll : l.length ≤ 21 := by
      rw [← hl]
      simp only [List.length_append, List.length_cons]
      omega
    have hmem : ∀ b ∈ l, b = 32 ∨ Dig b := by
      intro b hb
      rw [← hl] at hb
      simp only [List.mem_append, List.mem_cons] at hb
      rcases hb with hb | hb | hb
      · exact .inr (itoa_dig ho.num0 b hb)
      · exact .inl hb
      · exact .inr (itoa_dig hj0 b hb)
    have hT' : Rest T q (l ++ ([10] ++ (S ++ (trl ++ [10])))) := by
      rw [← hl]
      unfold hdr at hT
      simpa using hT
    obtain ⟨e1, e2, q', e3, e4⟩ := line_at hT' (fun b hb => by
      rcases hmem b hb with rfl | h
      · decide
      · exact ⟨(dig_ne h).2.1, (dig_ne h).2.2.1⟩) (by omega) (.inr (.inl rfl)) (hs.first hO)
    refine ⟨h1, j, l, e1, e2, ?_, by omega, fun b hb => (hmem b hb).imp id dig_wb, fun b hb => ?_, h2, hle.2, hc, ?_, q', S, e3, e4, hs⟩
    · rw [← hl]
      simp only [List.length_append, List.length_cons]
      omega
    · rcases hmem b hb with rfl | h
      · decide
      · exact (dig_ne h).2.2.2.1
    · rw [← hl]
      exact words2 _ _ (fun x hx => (dig_ne (itoa_dig ho.num0 x hx)).1) (fun x hx => (dig_ne (itoa_dig hj0 x hx)).1) (itoa_ne ho.num0) (itoa_ne hj0)
end Go.Proofs.YtoaedibfgegilaaGreatDoor.st
