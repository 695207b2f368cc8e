/-
  FnUTF16Of: the law's walk.
-/
import Derived.Test.YtcohlcijgfdanaaDoorWdh
import Derived.Test.YtcohlcijgfdanaaDoorWdk
import Derived.Lib.LaidU8T
namespace Go.Proofs.YtcohlcijgfdanaaDoor.wd
open Go.RowKit

theorem bytes_at : ∀ (us : List Nat) (k u : Nat), us[k]? = some u → (bytes us)[2 * k]? = some (UInt8.ofNat (u / 256)) ∧ (bytes us)[2 * k + 1]? = some (UInt8.ofNat (u % 256))
  | [], k, u, h => by simp at h
  | x :: us, 0, u, h => by
    simp at h
    subst h
    exact ⟨rfl, rfl⟩
  | x :: us, k + 1, u, h => by
    have := bytes_at us k u (by simpa using h)
    have hb : bytes (x :: us) = be x ++ bytes us := by simp [bytes]
    have h2 : (be x).length = 2 := rfl
    rw [hb, List.getElem?_append_right (by omega), List.getElem?_append_right (by omega), h2, show 2 * (k + 1) - 2 = 2 * k by omega, show 2 * (k + 1) + 1 - 2 = 2 * k + 1 by omega]
    exact this

theorem wide_size (cs : List Nat) : (⟨(wide cs).toArray⟩ : ByteArray).size = 2 + 2 * (units cs).length := by
  rw [Lib.size_eq]
  show (wide cs).length = _
  unfold wide
  rw [List.length_append, bytes_len]
  rfl

theorem decode39 (cs : List Nat) (hcs : ∀ c ∈ cs, Scal c) (h57 : ¬ 57344 ∈ cs) (hlen : cs.length ≤ 5000) (w : World) :
    Calls Tryd.prog 39 #[.string ⟨(wide cs).toArray⟩] w fun e w' => e = .returned (.tuple #[.string ⟨(encs cs).toArray⟩, .nilIface]) ∧ Below w.heap.size w w' := by
  have hsz := wide_size cs
  have hul := units_len cs
  have hlt := units_lt cs hcs
  have hcv := Lib.run_convert_string_bytes (P := Tryd.prog) w 9 29 5 ⟨(wide cs).toArray⟩ (u := .string) Tryd.underlying9 Tryd.underlying29 Tryd.underlying5
  have hge := grownCap_ge w (⟨(wide cs).toArray⟩ : ByteArray).size 0 5
  have hle := grownCap_le_maxLen w (⟨(wide cs).toArray⟩ : ByteArray).size 0 5 (by rw [hsz]; unfold maxLen; omega)
  have hb := Lib.bytesWorld_below w 5 ⟨(wide cs).toArray⟩
  have hc := fun j hj => Lib.bytesWorld_cell w 5 ⟨(wide cs).toArray⟩ j hj
  rw [hsz] at hcv hge hle hc
  generalize Lib.bytesWorld w 5 ⟨(wide cs).toArray⟩ = W at *
  obtain ⟨cap, hcap⟩ : ∃ cap, grownCap w (2 + 2 * (units cs).length) 0 5 = 2 + cap := ⟨grownCap w (2 + 2 * (units cs).length) 0 5 - 2, by omega⟩
  rw [hcap] at hcv hge hle
  have hW : ∀ (j : Nat) (b : UInt8), (wide cs)[j]? = some b → W.cell? ⟨w.heap.size, j, none⟩ = some (.int .u8 b.toNat) := fun j b h => by
    have hj := (List.getElem?_eq_some_iff.1 h).1
    have := hc j (by have e := hsz; rw [Lib.size_eq] at e; exact e ▸ hj)
    rw [this]
    show some (Value.int .u8 ((wide cs).getD j 0).toNat) = _
    rw [List.getD_eq_getElem?_getD, h]
    rfl
  have hd := Lib.hid (decode64 cs hcs h57 hlen w.heap.size cap (by omega) (by omega) W (hW 0 254 rfl) (hW 1 255 rfl) (fun k u h => by
    have h1 := bytes_at _ k u h
    have hu := hlt u (List.mem_of_getElem? h)
    have hw2 : ∀ j, (wide cs)[2 + j]? = (bytes (units cs))[j]? := fun j => by
      unfold wide
      rw [List.getElem?_append_right (by simp)]
      simp
    have a := hW (2 + 2 * k) _ ((hw2 _).trans h1.1)
    have b := hW (2 + (2 * k + 1)) _ ((hw2 _).trans h1.2)
    rw [UInt8.toNat_ofNat', Nat.mod_eq_of_lt (by omega)] at a b
    exact ⟨a, b⟩))
  have HB := Lib.hid hb
  clear hb hW hc hsz hul hlt hge hle hcap
  generalize (⟨(wide cs).toArray⟩ : ByteArray) = X at *
  generalize (⟨(encs cs).toArray⟩ : ByteArray) = Y at *
  go_enter Tryd.func39, Tryd.ntmps39
  go_wp2_with (go_at_call 64; refine hd.out.mono ?_; rintro e w1 ⟨rfl, hb1⟩)
  go_ret2
  exact ⟨rfl, HB.out.trans (hb1.mono HB.out.size)⟩

theorem from_wide (cs : List Nat) (hcs : ∀ c ∈ cs, Scal c) (h57 : ¬ 57344 ∈ cs) (hlen : cs.length ≤ 5000) (w : World) :
    Calls Tryd.prog 19 #[.string ⟨(wide cs).toArray⟩] w fun e w' => e = .returned (.tuple #[.string ⟨(encs cs).toArray⟩, .bool true]) ∧ Below w.heap.size w w' :=
  Go.Proofs.YtcohlcijgfdanaaDoor.u16.fromUTF16 _ _ (fun w => decode39 cs hcs h57 hlen w) w

set_option maxRecDepth 100000 in
theorem law5 (s : ByteArray) (w : World) (hT : Lib.Utf8Tabs 0 1 w) : Calls Tryd.prog 5 #[.string s] w fun e w' => e = .returned (.bool true) ∧ Below w.heap.size w w' := by
  by_cases hs : (2147483647 : Int) < (s.size : Int)
  · clear hT
    go_enter Tryd.func5, Tryd.ntmps5
    go_wp2_with fail
    go_ret
    exact ⟨rfl, Below.refl _ _⟩
  · have hs' : s.size ≤ 2147483647 := by omega
    have hV := Tryd.utf8_ValidString s w (by omega) hT
    have cW := Lib.hid Go.Proofs.YtcohlcijgfdanaaDoor.u16.widens
    cases hv : Lib.validD s.data.toList
    · rw [hv] at hV
      have c17 := Lib.hid (wide17_no s w hV)
      clear hV hT hv hs'
      go_enter Tryd.func5, Tryd.ntmps5
      go_wp2_with (first
        | (go_at_call 17; refine c17.out.mono ?_; rintro e w1 ⟨rfl, hb1⟩)
        | (go_at_call 16; refine (cW.out _).mono ?_; rintro e w2 ⟨rfl, hb2⟩))
      go_ret
      exact ⟨rfl, hb1.trans (hb2.mono hb1.size)⟩
    · rw [hv] at hV
      have c17 := Lib.hid (wide17 s hs' w hV)
      by_cases h4 : (4096 : Int) < (s.size : Int)
      · generalize (⟨(wide (runes s.data.toList)).toArray⟩ : ByteArray) = X at *
        clear hV hT hv hs'
        go_enter Tryd.func5, Tryd.ntmps5
        go_wp2_with (first
          | (go_at_call 17; refine c17.out.mono ?_; rintro e w1 ⟨rfl, hb1⟩)
          | (go_at_call 16; refine (cW.out _).mono ?_; rintro e w2 ⟨rfl, hb2⟩))
        go_ret
        exact ⟨rfl, hb1.trans (hb2.mono hb1.size)⟩
      · have c18 : Hid (∀ w, Calls Tryd.prog 18 #[.string s] w fun e w' => e = .returned (.bool (decide (57344 ∈ runes s.data.toList))) ∧ Below w.heap.size w w') := Lib.hid fun w => edge18 s (valid_unmarked _ hv) w
        by_cases h57 : 57344 ∈ runes s.data.toList
        · rw [decide_eq_true h57] at c18
          generalize (⟨(wide (runes s.data.toList)).toArray⟩ : ByteArray) = X at *
          clear hV hT hv hs' h57
          go_enter Tryd.func5, Tryd.ntmps5
          go_wp2_with (first
            | (go_at_call 17; refine c17.out.mono ?_; rintro e w1 ⟨rfl, hb1⟩)
            | (go_at_call 18; refine (c18.out _).mono ?_; rintro e w2 ⟨rfl, hb2⟩)
            | (go_at_call 16; refine (cW.out _).mono ?_; rintro e w3 ⟨rfl, hb3⟩))
          go_ret
          exact ⟨rfl, (hb1.trans (hb2.mono hb1.size)).trans (hb3.mono (Nat.le_trans hb1.size hb2.size))⟩
        · rw [decide_eq_false h57] at c18
          have hsc := runes_scal s.data.toList
          have hl := runes_len s.data.toList
          rw [← Lib.size_eq] at hl
          have hback : (⟨(encs (runes s.data.toList)).toArray⟩ : ByteArray) = s := by
            have : encs (runes s.data.toList) = s.data.toList := runes_enc _ hv
            rw [this]
          have c19 := Lib.hid fun w => from_wide (runes s.data.toList) hsc h57 (by omega) w
          rw [hback] at c19
          have c20 := Lib.hid fun w => utf16Of s (by omega) w
          have c14 : Hid (∀ w, Calls Tryd.prog 14 #[.string ⟨(wide (runes s.data.toList)).toArray⟩] w fun e w' => e = .returned (.bool true) ∧ w = w') := Lib.hid fun w => Go.Proofs.YtcohlcijgfdanaaDoor.u16.is14 ⟨(wide (runes s.data.toList)).toArray⟩ w
          generalize (⟨(wide (runes s.data.toList)).toArray⟩ : ByteArray) = X at *
          clear hV hT hv hs' h57 hl hback hsc
          go_enter Tryd.func5, Tryd.ntmps5
          go_wp2_with (first
            | (go_at_call 17; refine c17.out.mono ?_; rintro e w1 ⟨rfl, hb1⟩)
            | (go_at_call 18; refine (c18.out _).mono ?_; rintro e w2 ⟨rfl, hb2⟩)
            | (go_at_call 19; refine (c19.out _).mono ?_; rintro e w3 ⟨rfl, hb3⟩)
            | (go_at_call 20; refine (c20.out _).mono ?_; rintro e w4 ⟨rfl, hb4⟩)
            | (go_at_call 14; refine (c14.out _).mono ?_; rintro e w5 ⟨rfl, rfl⟩)
            | (go_at_call 16; refine (cW.out _).mono ?_; rintro e w6 ⟨rfl, hb6⟩))
          go_ret
          have n2 := Nat.le_trans hb1.size hb2.size
          have n3 := Nat.le_trans n2 hb3.size
          have n4 := Nat.le_trans n3 hb4.size
          exact ⟨rfl, (((hb1.trans (hb2.mono hb1.size)).trans (hb3.mono n2)).trans (hb4.mono n3)).trans (hb6.mono n4)⟩
end Go.Proofs.YtcohlcijgfdanaaDoor.wd

namespace Go.Proofs.YtcohlcijgfdanaaDoor
open Go.RowKit
def fnUTF16OfTab (w : World) : Prop := Lib.Utf8Tabs 0 1 w
theorem fnUTF16Of_tab {W : World} (h : laidMetH Tryd.prog Rows.fnUTF16OfRow.laid W) : fnUTF16OfTab W := by
  have h : laidMet Tryd.prog Rows.fnUTF16OfRow.laid W := h
  have e3 : Rows.laid_unicode_utf8_first = Lib.firstData := by kernel_rfl
  have e4 : Rows.laid_unicode_utf8_acceptRanges = Lib.acceptData := by kernel_rfl
  have m3 : Lib.VarReads Tryd.prog W "unicode/utf8.first" Rows.laid_unicode_utf8_first := Lib.laidMet.reads h (.tail _ (.tail _ (.head _)))
  have m4 : Lib.VarReads Tryd.prog W "unicode/utf8.acceptRanges" Rows.laid_unicode_utf8_acceptRanges := Lib.laidMet.reads h (.head _)
  rw [e3] at m3
  rw [e4] at m4
  exact utf8Tabs_of_readsT (U8Types.of196 Tryd.lays196) ⟨by kernel_rfl, by kernel_rfl, by kernel_rfl, by kernel_rfl, by kernel_rfl, by kernel_rfl, by kernel_rfl⟩ m3 m4
theorem fnUTF16Of_walk (s : ByteArray) (w : World) (h : fnUTF16OfTab w) (_ : s.size ≤ maxLen) :
    Calls Tryd.prog 5 #[.string s] w fun e w' => e = .returned (.bool true) ∧ Below w.heap.size w w' := wd.law5 s w h
end Go.Proofs.YtcohlcijgfdanaaDoor
