/-
  Scanner.Scan: its ways together; scanLineRaw; scanLine.
-/
import Derived.Test.YtoaedibfgegilaaGreatDoorSrnl
import Derived.Test.YtoaedibfgegilaaGreatDoorSrsa
import Derived.Test.YtoaedibfgegilaaGreatDoorSrsb
import Derived.Test.YtoaedibfgegilaaGreatDoorSrsc
import Derived.Test.YtoaedibfgegilaaGreatDoorSrsd
import Derived.Test.YtoaedibfgegilaaGreatDoorSrma
import Derived.Test.YtoaedibfgegilaaGreatDoorSrmb
import Derived.Test.YtoaedibfgegilaaGreatDoorSrmc
import Derived.Test.YtoaedibfgegilaaGreatDoorSrmd
namespace Go.Proofs.YtoaedibfgegilaaGreatDoor.st
open Go.RowKit
set_option linter.unusedVariables false
set_option linter.unusedSimpArgs false

theorem scan79 (B sc rd : Nat) (T : ByteArray) (p r st en i : Nat) (tok bufv : Value) (emp : Int) (cl : Bool) (w : World) (h : Scn B w sc rd T p r st en tok bufv emp cl) (hi : EolAt T p i) :
    Calls Tryz.prog 79 #[.pointer (some ⟨sc, 0, none⟩)] w fun e w' => ScanE B w sc rd T p i e w' := by
  rcases Nat.lt_or_ge i r with hir | hir
  · exact scan_hit B sc rd T p r st en i tok bufv emp cl w h hi hir
  · rcases h.buf with ⟨rfl, rfl, rfl, rfl⟩ | ⟨g, F, rfl, _, _, h4, h5, _⟩
    · exact scan_nil B sc rd T p i tok emp cl w h hi
    · have hb : Value.slice (some ⟨g, 0, none⟩) 4096 4096 ≠ Value.slice none 0 0 := by simp
      by_cases hq : st < en
      · rcases Nat.eq_zero_or_pos st with h0 | h0
        · exact scan_miss_A B sc rd T p r st en i tok _ emp cl w h hi hir hb h0 hq
        · by_cases h1 : en = 4096
          · exact scan_miss_B B sc rd T p r st en i tok _ emp cl w h hi hir hb ⟨h0, h1⟩ hq
          · rcases Nat.lt_or_ge 2048 st with h2 | h2
            · exact scan_miss_C B sc rd T p r st en i tok _ emp cl w h hi hir hb ⟨h2, h1⟩ hq
            · exact scan_miss_D B sc rd T p r st en i tok _ emp cl w h hi hir hb ⟨h0, h2, h1⟩ hq
      · rcases Nat.eq_zero_or_pos st with h0 | h0
        · exact scan_skip_A B sc rd T p r st en i tok _ emp cl w h hi hir hb h0 hq
        · by_cases h1 : en = 4096
          · exact scan_skip_B B sc rd T p r st en i tok _ emp cl w h hi hir hb ⟨h0, h1⟩ hq
          · rcases Nat.lt_or_ge 2048 st with h2 | h2
            · exact scan_skip_C B sc rd T p r st en i tok _ emp cl w h hi hir hb ⟨h2, h1⟩ hq
            · exact scan_skip_D B sc rd T p r st en i tok _ emp cl w h hi hir hb ⟨h0, h2, h1⟩ hq

/-- Where the scanner stands: B its place's lowest block. -/
def At (B : Nat) (w : World) (sc rd : Nat) (T : ByteArray) (p : Nat) : Prop := ∃ r st en tok bufv emp cl, Scn B w sc rd T p r st en tok bufv emp cl
theorem At.kept {B : Nat} {w w' : World} {sc rd : Nat} {T : ByteArray} {p : Nat} (h : At B w sc rd T p) (k : Kept [] w w') : At B w' sc rd T p := by
  obtain ⟨r, st, en, tok, bufv, emp, cl, h⟩ := h
  exact ⟨r, st, en, tok, bufv, emp, cl, h.kept k⟩
def LineE (B : Nat) (w : World) (sc rd : Nat) (T : ByteArray) (p i : Nat) (e : Ending) (w' : World) : Prop :=
  e = .returned (.tuple #[.string ⟨(seg T p (i - p)).toArray⟩, .nilIface]) ∧ Fr B w w' ∧ ∃ p', Adv T i p' ∧ At B w' sc rd T p'

set_option maxHeartbeats 2000000 in
set_option maxRecDepth 100000 in
theorem raw46 (B sc rd : Nat) (T : ByteArray) (p i : Nat) (w : World) (h : At B w sc rd T p) (hi : EolAt T p i) :
    Calls Tryz.prog 46 #[.pointer (some ⟨sc, 0, none⟩)] w fun e w' => LineE B w sc rd T p i e w' := by
  obtain ⟨r, st, en, tok, bufv, emp, cl, h⟩ := h
  have H79 := Lib.hid (scan79 B sc rd T p r st en i tok bufv emp cl w h hi)
  have HI := Lib.hid hi
  clear h hi
  go_enter Tryz.func46, Tryz.ntmps46
  go_wp2_with (go_at_call 79; refine H79.out.mono ?_; rintro e V ⟨rfl, hfr, p', r', st', en', g, o, C, bufv', emp', hadv, hS, hc⟩; refine Hid.out ?_)
  refine Lib.hid ?_
  have hsl : p + (i - p) ≤ T.size := by have := HI.out.lt; have := HI.out.le; omega
  have H81 := Lib.hid (text81 V sc rd st' en' bufv' emp' true g o (i - p) C (seg T p (i - p)) hS.scs (seg_length hsl) (fun k hk => by
    rw [hc k hk, seg_getD hsl hk]
    rfl))
  have HX := Lib.hid (And.intro hfr (And.intro hadv hS))
  clear hfr hadv hS hc hsl
  go_wp2_with (go_at_call 81; refine H81.out.mono ?_; rintro e V2 ⟨rfl, hk⟩; refine Hid.out ?_)
  refine Lib.hid ?_
  have HK := Lib.hid hk
  clear hk
  go_wp2_with fail
  go_ret2
  obtain ⟨hfr, hadv, hS⟩ := HX.out
  exact ⟨rfl, hfr.trans (Fr.of_kept HK.out hS.lt.2.2), p', hadv, _, _, _, _, _, _, _, hS.kept HK.out⟩
end Go.Proofs.YtoaedibfgegilaaGreatDoor.st
