/-
  scanLine: the next line that is not empty.
-/
import Derived.Test.YtoaedibfgegilaaGreatDoorSsc
namespace Go.Proofs.YtoaedibfgegilaaGreatDoor.st
open Go.RowKit
set_option linter.unusedVariables false
set_option linter.unusedSimpArgs false

/-- At the line that begins at q, maybe with a line feed still ahead of it. -/
def PosAt (T : ByteArray) (p q : Nat) : Prop := p = q ∨ (p + 1 = q ∧ bt T p = 10)
/-- Behind the line that ends at i, the next one begins at q. -/
def NextAt (T : ByteArray) (i q : Nat) : Prop := (q = i + 1 ∧ ¬ (bt T i = 13 ∧ bt T (i + 1) = 10 ∧ i + 1 < T.size)) ∨ (q = i + 2 ∧ bt T i = 13 ∧ bt T (i + 1) = 10)
theorem Adv.pos {T : ByteArray} {i p q : Nat} (h : Adv T i p) (hn : NextAt T i q) : PosAt T p q := by
  rcases h with rfl | ⟨rfl, h1, h2, h3⟩
  · rcases hn with ⟨rfl, _⟩ | ⟨rfl, _, h5⟩
    · exact .inl rfl
    · exact .inr ⟨by omega, h5⟩
  · rcases hn with ⟨_, h5⟩ | ⟨rfl, _, _⟩
    · exact absurd ⟨h1, h2, h3⟩ h5
    · exact .inl rfl
def str (l : List UInt8) : ByteArray := ⟨l.toArray⟩
theorem str_size (l : List UInt8) : (str l).size = l.length := by
  show l.toArray.size = l.length
  simp
theorem str_list (l : List UInt8) : (str l).data.toList = l := by simp [str]

def Line31 (B : Nat) (w : World) (sc rd : Nat) (T : ByteArray) (q i : Nat) (e : Ending) (w' : World) : Prop :=
  e = .returned (.tuple #[.string (str (seg T q (i - q))), .nilIface]) ∧ Fr B w w' ∧ ∃ p', Adv T i p' ∧ At B w' sc rd T p'

set_option maxHeartbeats 4000000 in
set_option maxRecDepth 100000 in
theorem line31 (B sc rd : Nat) (T : ByteArray) (p q i : Nat) (w : World) (h : At B w sc rd T p) (hp : PosAt T p q) (hi : EolAt T q i) (hqi : q < i) :
    Calls Tryz.prog 31 #[.pointer (some ⟨sc, 0, none⟩)] w fun e w' => Line31 B w sc rd T q i e w' := by
  have hle := hi.le
  have hlt := hi.lt
  have hsl : (str (seg T q (i - q))).size = i - q := by rw [str_size, seg_length (by omega)]
  have HI := Lib.hid hi
  obtain ⟨S, hS⟩ : ∃ S, str (seg T q (i - q)) = S := ⟨_, rfl⟩
  rw [hS] at hsl
  have hpos : (0 : Int) < (S.size : Int) := by omega
  have HS := Lib.hid hS
  rcases hp with rfl | ⟨hpq, hlf⟩
  · have H46 := Lib.hid (raw46 B sc rd T p i w h hi)
    have e1 : (⟨(seg T p (i - p)).toArray⟩ : ByteArray) = S := hS
    unfold LineE at H46
    rw [e1] at H46
    clear h hi hS hsl e1
    go_enter Tryz.func31, Tryz.ntmps31
    go_wp2_with fail
    refine wp_loop_rounds 1 ?_
    rw [rounds_succ]
    go_wp2_with (go_at_call 46; refine H46.out.mono ?_; rintro e V ⟨rfl, hfr, hat⟩; refine Hid.out ?_)
    refine Lib.hid ?_
    have HX := Lib.hid (And.intro hfr hat)
    clear hfr hat
    go_wp2_with fail
    go_ret2
    exact ⟨by rw [HS.out]; rfl, HX.out.1, HX.out.2⟩
  · have hE : EolAt T p p := ⟨Nat.le_refl _, by omega, .inr hlf, fun k h1 h2 => by omega, by omega⟩
    have H46a := Lib.hid (raw46 B sc rd T p p w h hE)
    have e0 : (⟨(seg T p (p - p)).toArray⟩ : ByteArray) = ⟨#[]⟩ := by simp [seg]
    unfold LineE at H46a
    rw [e0] at H46a
    have H46 : Hid (∀ V, At B V sc rd T q → Calls Tryz.prog 46 #[.pointer (some ⟨sc, 0, none⟩)] V fun e w' => e = .returned (.tuple #[.string S, .nilIface]) ∧ Fr B V w' ∧ ∃ p', Adv T i p' ∧ At B w' sc rd T p') := Lib.hid fun V hV => by
      have := raw46 B sc rd T q i V hV hi
      unfold LineE at this
      rw [show (⟨(seg T q (i - q)).toArray⟩ : ByteArray) = S from hS] at this
      exact this
    have HL := Lib.hid (And.intro hpq hlf)
    clear h hi hS hsl hE e0 hpq hlf
    go_enter Tryz.func31, Tryz.ntmps31
    go_wp2_with fail
    refine wp_loop_rounds 2 ?_
    rw [rounds_succ]
    go_wp2_with (go_at_call 46; refine H46a.out.mono ?_; rintro e V ⟨rfl, hfr, hat⟩; refine Hid.out ?_)
    refine Lib.hid ?_
    have hatq : At B V sc rd T q := by
      obtain ⟨p', hadv, hat⟩ := hat
      rcases hadv with rfl | ⟨_, h1, _⟩
      · rw [HL.out.1] at hat
        exact hat
      · rw [HL.out.2] at h1
        exact absurd h1 (by decide)
    have H46b := Lib.hid (H46.out V hatq)
    have HF1 := Lib.hid hfr
    clear hfr hat hatq
    go_wp2_with fail
    rw [rounds_succ]
    go_wp2_with (go_at_call 46; refine H46b.out.mono ?_; rintro e V2 ⟨rfl, hfr, hat⟩; refine Hid.out ?_)
    refine Lib.hid ?_
    have HX := Lib.hid (And.intro hfr hat)
    clear hfr hat
    go_wp2_with fail
    go_ret2
    exact ⟨by rw [HS.out]; rfl, HF1.out.trans HX.out.1, HX.out.2⟩
end Go.Proofs.YtoaedibfgegilaaGreatDoor.st
