/-
  A scanner over a text: its state; the lines; the reader.
-/
import Derived.Test.YtoaedibfgegilaaGreatDoorTbl
import Derived.Test.YtoaedibfgegilaaGreatDoorShelf
import Derived.Lib.IndexLaws
import Derived.Lib.BufferWrite
import Derived.Laws.CopyRow
import Derived.Deep.RegionWith
namespace Go.Proofs.YtoaedibfgegilaaGreatDoor.st
open Go.RowKit
set_option linter.unusedVariables false
set_option linter.unusedSimpArgs false

/-- The text's byte at a place. -/
def bt (T : ByteArray) (i : Nat) : UInt8 := T.data.toList.getD i 0
def bi (T : ByteArray) (i : Nat) : Value := .int .u8 ((bt T i).toNat : Int)
def seg (T : ByteArray) (p n : Nat) : List UInt8 := (T.data.toList.drop p).take n
theorem tlen (T : ByteArray) : T.data.toList.length = T.size := by
  show T.data.toList.length = T.data.size
  simp
theorem seg_length {T : ByteArray} {p n : Nat} (h : p + n ≤ T.size) : (seg T p n).length = n := by
  unfold seg
  rw [List.length_take, List.length_drop, tlen]
  omega
theorem seg_get {T : ByteArray} {p n k : Nat} (h : p + n ≤ T.size) (hk : k < n) : (seg T p n)[k]? = some (bt T (p + k)) := by
  unfold seg bt
  rw [List.getElem?_take_of_lt hk, List.getElem?_drop, List.getD_eq_getElem?_getD, List.getElem?_eq_getElem (by rw [tlen]; omega)]
  rfl
theorem seg_getD {T : ByteArray} {p n k : Nat} (h : p + n ≤ T.size) (hk : k < n) : (seg T p n).getD k 0 = bt T (p + k) := by
  rw [List.getD_eq_getElem?_getD, seg_get h hk]
  rfl

def ints (l : List UInt8) : List Int := l.map fun b => (b.toNat : Int)
theorem bytesOf_ints (l : List UInt8) : Lib.bytesOf (ints l) = l := by
  unfold Lib.bytesOf ints
  rw [List.map_map]
  conv => rhs; rw [← List.map_id l]
  apply List.map_congr_left
  intro b _
  simp

/-- Where the next line's end is. -/
structure EolAt (T : ByteArray) (p i : Nat) : Prop where
  le : p ≤ i
  lt : i < T.size
  eol : bt T i = 13 ∨ bt T i = 10
  no : ∀ q, p ≤ q → q < i → bt T q ≠ 13 ∧ bt T q ≠ 10
  near : i ≤ p + 1000

/-- The first place of a byte in a segment. -/
theorem idx_cases {T : ByteArray} {p n : Nat} (h : p + n ≤ T.size) (c : UInt8) : (Lib.indexByte (seg T p n) c = -1 ∧ ∀ k, k < n → bt T (p + k) ≠ c) ∨ ∃ o : Nat, Lib.indexByte (seg T p n) c = (o : Int) ∧ o < n ∧ bt T (p + o) = c ∧ ∀ k, k < o → bt T (p + k) ≠ c := by
  have hge := Lib.indexByte_ge (seg T p n) c
  rcases Int.lt_or_le (Lib.indexByte (seg T p n) c) 0 with h0 | h0
  · left
    have e : Lib.indexByte (seg T p n) c = -1 := by omega
    refine ⟨e, fun k hk he => Lib.indexByte_none e k ?_⟩
    rw [seg_get h hk, he]
  · right
    obtain ⟨o, ho⟩ := Int.eq_ofNat_of_zero_le h0
    obtain ⟨h1, h2⟩ := Lib.indexByte_some ho
    have hlt : o < n := by
      have := (List.getElem?_eq_some_iff.1 h1).1
      rw [seg_length h] at this
      exact this
    refine ⟨o, ho, hlt, ?_, fun k hk he => h2 k hk ?_⟩
    · rw [seg_get h hlt] at h1
      exact Option.some.inj h1
    · rw [seg_get h (by omega), he]
/-- What the splitter finds. -/
inductive Found (T : ByteArray) (p i n : Nat) : Int → Int → Prop
  | none : p + n ≤ i → Found T p i n (-1) (-1)
  | crlf : i + 1 < p + n → bt T i = 13 → bt T (i + 1) = 10 → Found T p i n ((i - p : Nat) : Int) ((i - p + 1 : Nat) : Int)
  | cr (b : Nat) : i < p + n → bt T i = 13 → i - p + 1 < b → b < n → Found T p i n ((i - p : Nat) : Int) (b : Int)
  | cr1 : i < p + n → bt T i = 13 → Found T p i n ((i - p : Nat) : Int) (-1)
  | lf (a : Nat) : i < p + n → bt T i = 10 → i - p < a → a < n → Found T p i n (a : Int) ((i - p : Nat) : Int)
  | lf1 : i < p + n → bt T i = 10 → Found T p i n (-1) ((i - p : Nat) : Int)
theorem EolAt.found {T : ByteArray} {p i n : Nat} (h : EolAt T p i) (hn : p + n ≤ T.size) : Found T p i n (Lib.indexByte (seg T p n) 13) (Lib.indexByte (seg T p n) 10) := by
  have hle := h.le
  rcases Nat.lt_or_ge i (p + n) with hi | hi
  · have hpi : p + (i - p) = i := by omega
    rcases h.eol with he | he
    · have ha : Lib.indexByte (seg T p n) 13 = ((i - p : Nat) : Int) := by
        rcases idx_cases hn 13 with ⟨_, h2⟩ | ⟨o, h1, h2, h3, h4⟩
        · exact absurd (by rw [hpi]; exact he) (h2 (i - p) (by omega))
        · rw [h1]
          congr 1
          rcases Nat.lt_trichotomy o (i - p) with h5 | h5 | h5
          · exact absurd h3 (h.no (p + o) (by omega) (by omega)).1
          · exact h5
          · exact absurd (by rw [hpi]; exact he) (h4 (i - p) h5)
      rw [ha]
      rcases idx_cases hn 10 with ⟨h1, _⟩ | ⟨o, h1, h2, h3, h4⟩
      · rw [h1]
        exact .cr1 hi he
      · rw [h1]
        have h5 : i - p < o := by
          rcases Nat.lt_trichotomy o (i - p) with h5 | h5 | h5
          · exact absurd h3 (h.no (p + o) (by omega) (by omega)).2
          · rw [h5, hpi, he] at h3
            exact absurd h3 (by decide)
          · exact h5
        rcases Nat.lt_or_ge (i - p + 1) o with h6 | h6
        · exact .cr o hi he h6 h2
        · have e : o = i - p + 1 := by omega
          rw [e]
          refine .crlf (by omega) he ?_
          rw [e, show p + (i - p + 1) = i + 1 by omega] at h3
          exact h3
    · have hb : Lib.indexByte (seg T p n) 10 = ((i - p : Nat) : Int) := by
        rcases idx_cases hn 10 with ⟨_, h2⟩ | ⟨o, h1, h2, h3, h4⟩
        · exact absurd (by rw [hpi]; exact he) (h2 (i - p) (by omega))
        · rw [h1]
          congr 1
          rcases Nat.lt_trichotomy o (i - p) with h5 | h5 | h5
          · exact absurd h3 (h.no (p + o) (by omega) (by omega)).2
          · exact h5
          · exact absurd (by rw [hpi]; exact he) (h4 (i - p) h5)
      rw [hb]
      rcases idx_cases hn 13 with ⟨h1, _⟩ | ⟨o, h1, h2, h3, h4⟩
      · rw [h1]
        exact .lf1 hi he
      · rw [h1]
        have h5 : i - p < o := by
          rcases Nat.lt_trichotomy o (i - p) with h5 | h5 | h5
          · exact absurd h3 (h.no (p + o) (by omega) (by omega)).1
          · rw [h5, hpi, he] at h3
            exact absurd h3 (by decide)
          · exact h5
        exact .lf o hi he h5 h2
  · have ha : Lib.indexByte (seg T p n) 13 = -1 := by
      rcases idx_cases hn 13 with ⟨h1, _⟩ | ⟨o, h1, h2, h3, h4⟩
      · exact h1
      · exact absurd h3 (h.no (p + o) (by omega) (by omega)).1
    have hb : Lib.indexByte (seg T p n) 10 = -1 := by
      rcases idx_cases hn 10 with ⟨h1, _⟩ | ⟨o, h1, h2, h3, h4⟩
      · exact h1
      · exact absurd h3 (h.no (p + o) (by omega) (by omega)).2
    rw [ha, hb]
    exact .none hi

/-- How far a line's end goes. -/
def Adv (T : ByteArray) (i p' : Nat) : Prop := p' = i + 1 ∨ (p' = i + 2 ∧ bt T i = 13 ∧ bt T (i + 1) = 10 ∧ i + 1 < T.size)

def LinesV (T : ByteArray) (p i n g st C : Nat) (v : Value) : Prop :=
  (p + n ≤ i ∧ v = .tuple #[.int .i64 0, .slice none 0 0, .nilIface]) ∨
  (i < p + n ∧ ∃ p', Adv T i p' ∧ p' ≤ p + n ∧ v = .tuple #[.int .i64 ((p' - p : Nat) : Int), .slice (some ⟨g, st, none⟩) (i - p) C, .nilIface])

set_option maxHeartbeats 8000000 in
set_option maxRecDepth 100000 in
theorem lines21 (T : ByteArray) (p i n g st C : Nat) (h : EolAt T p i) (hn : p + n ≤ T.size) (hT : T.size ≤ 100000) (hC : n ≤ C) (hCm : C ≤ 100000) :
    ∃ v, LinesV T p i n g st C v ∧ ∀ w : World, (∀ k, k < n → w.cell? ⟨g, st + k, none⟩ = some (bi T (p + k))) →
    Calls Tryz.prog 21 #[.slice (some ⟨g, st, none⟩) n C, .bool false] w fun e w' => e = .returned v ∧ ∃ m, w' = w.drewN m := by
  have hF := h.found hn
  have H1 : Hid (∀ w : World, (∀ k, k < n → w.cell? ⟨g, st + k, none⟩ = some (bi T (p + k))) → Calls Tryz.prog 29 #[.slice (some ⟨g, st, none⟩) n C, .int .u8 13] w fun e w' => e = .returned (.int .i64 (Lib.indexByte (seg T p n) 13)) ∧ w' = w) := Lib.hid fun w hc => by
    have := Tryz.bytes_IndexByte g st n C (ints (seg T p n)) 13 w (by simp [ints, seg_length hn]) (fun k hk => by
      rw [hc k hk, List.getD_eq_getElem?_getD]
      simp [ints, seg_get hn hk, bi])
    rw [bytesOf_ints, show ((13 : Int).toNat.toUInt8) = 13 from rfl] at this
    exact this
  have H2 : Hid (∀ w : World, (∀ k, k < n → w.cell? ⟨g, st + k, none⟩ = some (bi T (p + k))) → Calls Tryz.prog 29 #[.slice (some ⟨g, st, none⟩) n C, .int .u8 10] w fun e w' => e = .returned (.int .i64 (Lib.indexByte (seg T p n) 10)) ∧ w' = w) := Lib.hid fun w hc => by
    have := Tryz.bytes_IndexByte g st n C (ints (seg T p n)) 10 w (by simp [ints, seg_length hn]) (fun k hk => by
      rw [hc k hk, List.getD_eq_getElem?_getD]
      simp [ints, seg_get hn hk, bi])
    rw [bytesOf_ints, show ((10 : Int).toNat.toUInt8) = 10 from rfl] at this
    exact this
  have hle := h.le
  generalize Lib.indexByte (seg T p n) 13 = a at hF H1
  generalize Lib.indexByte (seg T p n) 10 = b at hF H2
  clear h
  obtain ⟨k, hk⟩ : ∃ k, i - p = k := ⟨_, rfl⟩
  obtain rfl : i = p + k := by omega
  cases hF with
  | none h1 =>
    refine ⟨_, .inl ⟨h1, rfl⟩, fun w hc => ?_⟩
    have HC := Lib.hid hc
    clear h1 hk hc
    go_enter Tryz.func21, Tryz.ntmps21
    go_wp2_with (first | (go_at_call 29; with_reducible refine (H1.out _ HC.out).mono ?_; rintro e w1 ⟨rfl, hw⟩; obtain rfl := hw.symm) | (go_at_call 29; with_reducible refine (H2.out _ HC.out).mono ?_; rintro e w1 ⟨rfl, hw⟩; obtain rfl := hw.symm))
    go_ret3
    exact ⟨rfl, 0, rfl⟩
  | crlf h1 h2 h3 =>
    have hkn : k < n := by omega
    have hkn2 : k < C := by omega
    refine ⟨.tuple #[.int .i64 ((k : Int) + 2), .slice (some ⟨g, st, none⟩) k C, .nilIface], .inr ⟨by omega, (p + k + 2), .inr ⟨rfl, h2, h3, by omega⟩, by omega, ?_⟩, fun w hc => ?_⟩
    · rw [hk, show (((p + k + 2) - p : Nat) : Int) = (k : Int) + 2 by omega]
    have HC := Lib.hid hc
    have e1 : ((k : Int) + 1 == ((k + 1 : Nat) : Int)) = true := by simp
    have e2 : (k : Int) < ((k + 1 : Nat) : Int) := by omega
    clear h1 h2 h3
    try rw [hk] at H1
    try rw [hk] at H2
    clear hk hle hc
    go_enter Tryz.func21, Tryz.ntmps21
    go_wp2_with (first | (go_at_call 29; with_reducible refine (H1.out _ HC.out).mono ?_; rintro e w1 ⟨rfl, hw⟩; obtain rfl := hw.symm) | (go_at_call 29; with_reducible refine (H2.out _ HC.out).mono ?_; rintro e w1 ⟨rfl, hw⟩; obtain rfl := hw.symm))
    go_quiet (fail)
    go_wp2_with fail
    go_ret3
    exact ⟨rfl, nq, rfl⟩
  | cr b h1 h2 h3 h4 =>
    have hkn : k < n := by omega
    have hkn2 : k < C := by omega
    refine ⟨.tuple #[.int .i64 ((k : Int) + 1), .slice (some ⟨g, st, none⟩) k C, .nilIface], .inr ⟨by omega, (p + k + 1), .inl rfl, by omega, ?_⟩, fun w hc => ?_⟩
    · rw [hk, show (((p + k + 1) - p : Nat) : Int) = (k : Int) + 1 by omega]
    have HC := Lib.hid hc
    have e1 : ((k : Int) + 1 == (b : Int)) = false := by simp; omega
    have e2 : (k : Int) < (b : Int) := by omega
    clear h1 h2 h3 h4
    try rw [hk] at H1
    try rw [hk] at H2
    clear hk hle hc
    go_enter Tryz.func21, Tryz.ntmps21
    go_wp2_with (first | (go_at_call 29; with_reducible refine (H1.out _ HC.out).mono ?_; rintro e w1 ⟨rfl, hw⟩; obtain rfl := hw.symm) | (go_at_call 29; with_reducible refine (H2.out _ HC.out).mono ?_; rintro e w1 ⟨rfl, hw⟩; obtain rfl := hw.symm))
    go_quiet (fail)
    go_wp2_with fail
    go_ret3
    exact ⟨rfl, nq, rfl⟩
  | cr1 h1 h2 =>
    have hkn : k < n := by omega
    have hkn2 : k < C := by omega
    refine ⟨.tuple #[.int .i64 ((k : Int) + 1), .slice (some ⟨g, st, none⟩) k C, .nilIface], .inr ⟨by omega, (p + k + 1), .inl rfl, by omega, ?_⟩, fun w hc => ?_⟩
    · rw [hk, show (((p + k + 1) - p : Nat) : Int) = (k : Int) + 1 by omega]
    have HC := Lib.hid hc
    clear h1 h2
    try rw [hk] at H1
    try rw [hk] at H2
    clear hk hle hc
    go_enter Tryz.func21, Tryz.ntmps21
    go_wp2_with (first | (go_at_call 29; with_reducible refine (H1.out _ HC.out).mono ?_; rintro e w1 ⟨rfl, hw⟩; obtain rfl := hw.symm) | (go_at_call 29; with_reducible refine (H2.out _ HC.out).mono ?_; rintro e w1 ⟨rfl, hw⟩; obtain rfl := hw.symm))
    go_quiet (fail)
    go_wp2_with fail
    go_ret3
    exact ⟨rfl, nq, rfl⟩
  | lf a h1 h2 h3 h4 =>
    have hkn : k < n := by omega
    have hkn2 : k < C := by omega
    refine ⟨.tuple #[.int .i64 ((k : Int) + 1), .slice (some ⟨g, st, none⟩) k C, .nilIface], .inr ⟨by omega, (p + k + 1), .inl rfl, by omega, ?_⟩, fun w hc => ?_⟩
    · rw [hk, show (((p + k + 1) - p : Nat) : Int) = (k : Int) + 1 by omega]
    have HC := Lib.hid hc
    have e2 : ¬ (a : Int) < (k : Int) := by omega
    clear h1 h2 h3 h4
    try rw [hk] at H1
    try rw [hk] at H2
    clear hk hle hc
    go_enter Tryz.func21, Tryz.ntmps21
    go_wp2_with (first | (go_at_call 29; with_reducible refine (H1.out _ HC.out).mono ?_; rintro e w1 ⟨rfl, hw⟩; obtain rfl := hw.symm) | (go_at_call 29; with_reducible refine (H2.out _ HC.out).mono ?_; rintro e w1 ⟨rfl, hw⟩; obtain rfl := hw.symm))
    go_quiet (fail)
    go_wp2_with fail
    go_ret3
    exact ⟨rfl, nq, rfl⟩
  | lf1 h1 h2 =>
    have hkn : k < n := by omega
    have hkn2 : k < C := by omega
    refine ⟨.tuple #[.int .i64 ((k : Int) + 1), .slice (some ⟨g, st, none⟩) k C, .nilIface], .inr ⟨by omega, (p + k + 1), .inl rfl, by omega, ?_⟩, fun w hc => ?_⟩
    · rw [hk, show (((p + k + 1) - p : Nat) : Int) = (k : Int) + 1 by omega]
    have HC := Lib.hid hc
    clear h1 h2
    try rw [hk] at H1
    try rw [hk] at H2
    clear hk hle hc
    go_enter Tryz.func21, Tryz.ntmps21
    go_wp2_with (first | (go_at_call 29; with_reducible refine (H1.out _ HC.out).mono ?_; rintro e w1 ⟨rfl, hw⟩; obtain rfl := hw.symm) | (go_at_call 29; with_reducible refine (H2.out _ HC.out).mono ?_; rintro e w1 ⟨rfl, hw⟩; obtain rfl := hw.symm))
    go_quiet (fail)
    go_wp2_with fail
    go_ret3
    exact ⟨rfl, nq, rfl⟩
end Go.Proofs.YtoaedibfgegilaaGreatDoor.st
