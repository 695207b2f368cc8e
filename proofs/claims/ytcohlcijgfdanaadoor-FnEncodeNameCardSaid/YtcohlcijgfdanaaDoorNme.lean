/-
  FnEncodeName: EncodeName's contract.
-/
import Derived.Test.YtcohlcijgfdanaaDoorBld
import Derived.Test.YtcohlcijgfdanaaDoorNm
namespace Go.Proofs.YtcohlcijgfdanaaDoor
open Go.RowKit

theorem head_data (t : ByteArray) (i : Nat) : (t.extract 0 i).data.toList = t.data.toList.take i := by
  rw [Lib.extract_data]; simp
theorem mid_data (t : ByteArray) (i j : Nat) : (t.extract i j).data.toList = (t.data.toList.drop i).take (j - i) := by
  rw [Lib.extract_data]
theorem size_len (t : ByteArray) : t.data.toList.length = t.size := by rw [Lib.size_eq]

/-- One byte more. -/
theorem writeB (B b : Nat) (l : List UInt8) (c : UInt8) (w : World) (h : Lib.IsBuilderF 57 5 B b (Lib.byteCells l) w) (hlen : l.length ≤ 100000000) (hBw : B ≤ w.heap.size) :
    Calls Tryd.prog 54 #[.pointer (some ⟨b, 0, none⟩), .int .u8 c.toNat] w fun e w' => e = .returned .nilIface ∧ Lib.IsBuilderF 57 5 B b (Lib.byteCells (l ++ [c])) w' ∧ Below B w w' := by
  have := writeByte B b (Lib.byteCells l) c.toNat w h (by rw [Lib.byteCells_length]; omega) hBw
  rw [show Lib.byteCells (l ++ [c]) = Lib.byteCells l ++ [.int .u8 (c.toNat : Int)] by simp [Lib.byteCells]]
  exact this

/-- A byte's two digits. -/
theorem encOne (g cap : Nat) (c : UInt8) (w : World) (hc : w.cell? ⟨g, 0, none⟩ = some (.int .u8 c.toNat)) :
    Calls Tryd.prog 55 #[.slice (some ⟨g, 0, none⟩) 1 cap] w fun e w' => e = .returned (.string ⟨(Go.Lib.Hx.encode [c]).toArray⟩) ∧ Below w.heap.size w w' :=
  Tryd.hex_EncodeToString_bytes g 0 cap [c] w (fun i h => by obtain rfl : i = 0 := (by simpa using h); simpa using hc) (World.block_lt_of_cell? _ _ hc) (by simp)

/-- How far EncodeName is: what the builder holds. -/
structure EncSt (bs : List UInt8) (k : Nat) (rb : Bool) (acc : List UInt8) : Prop where
  no : rb = false → acc = [] ∧ enc (bs.take k) = bs.take k
  yes : rb = true → acc = enc (bs.take k)

set_option maxHeartbeats 8000000 in
set_option maxRecDepth 100000 in
theorem encodeName (s : ByteArray) (hs : s.size ≤ 4096) (w : World) :
    Calls Tryd.prog 29 #[.string s] w fun e w' => e = .returned (.string ⟨(enc s.data.toList).toArray⟩) ∧ Below w.heap.size w w' := by
  have h0 : Lib.IsBuilderF 57 5 w.heap.size w.heap.size (Lib.byteCells []) (w.alloc (.cells #[.pointer none, .slice none 0 0] 57)) := Lib.IsBuilderF.of (Lib.fresh_isBuilder 57 5 w)
  have b0 : Below w.heap.size w (w.alloc (.cells #[.pointer none, .slice none 0 0] 57)) := (Below.refl _ w).alloc (Nat.le_refl _) _
  obtain ⟨bs, hL⟩ : ∃ bs, bs = s.data.toList := ⟨_, rfl⟩
  have hLn : bs.length = s.size := by rw [hL, Lib.size_eq]
  have hget : ∀ k (h : k < s.size), s[k] = bs[k]'(by omega) := by
    intro k h
    subst hL
    simp
    rfl
  have hS : Hid (∀ k, (s.extract 0 k).data.toList = bs.take k) := Lib.hid fun k => by rw [hL]; exact head_data s k
  have hM : Hid ((⟨bs.toArray⟩ : ByteArray) = s) := Lib.hid (by rw [hL])
  rw [← hL]
  clear hL
  go_enter Tryd.func29, Tryd.ntmps29
  go_wp2
  go_loopw [3, 5, 6] (fun r i _ wr => ∃ (k : Nat) (rb : Bool) (acc : List UInt8), r = .bool rb ∧ i = .int .i64 k ∧ k ≤ s.size ∧ EncSt bs k rb acc ∧ Lib.IsBuilderF 57 5 w.heap.size w.heap.size (Lib.byteCells acc) wr ∧ Below w.heap.size w wr)
    (fun _ i _ _ => s.size - (intOf i).toNat)
  case atStart => exact ⟨0, false, [], rfl, rfl, by omega, ⟨fun _ => ⟨rfl, rfl⟩, fun h => (by cases h)⟩, h0, b0⟩
  case round =>
    obtain ⟨k, rb, acc, rfl, rfl, hk, hh, hI, hnx⟩ := hrel
    have hsz := hnx.size
    clear h0 b0
    by_cases hkn : k < s.size
    · have hg := hget k hkn
      have htake : bs.take (k + 1) = bs.take k ++ [bs[k]'(by omega)] := by rw [List.take_succ_eq_append_getElem (by omega)]
      generalize bs[k]'(by omega) = c at hg htake
      have hc256 : c.toNat < 256 := c.toNat_lt
      have HT := Lib.hid htake
      have hel : (enc (bs.take k)).length ≤ 12288 := by
        have := (enc_length (bs.take k)).2
        have h2 : (bs.take k).length ≤ bs.length := by simp; omega
        omega
      clear htake hget
      have CN := Lib.hid fun w => needsHex c.toNat hc256 w
      cases hn : needs c.toNat
      · rw [hn] at CN
        have h1 := (of_plain c hn).1
        cases rb
        · -- nothing is written
          obtain ⟨rfl, he⟩ := hh.no rfl
          have HN : EncSt bs (k + 1) false [] :=
            ⟨fun _ => ⟨rfl, by rw [HT.out, enc_append, he, enc_cons, h1, enc_nil]; rfl⟩, fun h => (by cases h)⟩
          clear hh he hn h1
          go_wp2_with (go_at_call 52; refine (CN.out _).mono ?_; rintro e w' ⟨rfl, rfl⟩)
          go_roundw
          case rel =>
            have R : ∃ (k' : Nat) (rb : Bool) (acc : List UInt8), Value.bool false = .bool rb ∧ Value.int .i64 ((k : Int) + 1) = .int .i64 (k' : Nat) ∧ k' ≤ s.size ∧ EncSt bs k' rb acc ∧ Lib.IsBuilderF 57 5 w.heap.size w.heap.size (Lib.byteCells acc) wr ∧ Below w.heap.size w wr :=
              ⟨k + 1, false, [], rfl, rfl, by omega, HN, hI, hnx⟩
            first
            | exact R
            | ((repeat apply Exists.intro); exact ⟨R, rfl⟩)
          case measure => simp [intOf]; omega
        · -- the byte goes in
          have he := hh.yes rfl
          subst he
          have HN : EncSt bs (k + 1) true (enc (bs.take k) ++ [c]) :=
            ⟨fun h => (by cases h), fun _ => by rw [HT.out, enc_append, enc_cons, h1, enc_nil]; rfl⟩
          clear hh hn h1
          go_wp2_with (first
            | (go_at_call 52; refine (CN.out _).mono ?_; rintro e w' ⟨rfl, rfl⟩)
            | (go_at_call 54; refine (writeB w.heap.size w.heap.size _ c wr hI (by omega) hsz).mono ?_; rintro e w1 ⟨rfl, hI1, hb1⟩))
          go_roundw
          case rel =>
            have R : ∃ (k' : Nat) (rb : Bool) (acc : List UInt8), Value.bool true = .bool rb ∧ Value.int .i64 ((k : Int) + 1) = .int .i64 (k' : Nat) ∧ k' ≤ s.size ∧ EncSt bs k' rb acc ∧ Lib.IsBuilderF 57 5 w.heap.size w.heap.size (Lib.byteCells acc) w1 ∧ Below w.heap.size w w1 :=
              ⟨k + 1, true, _, rfl, rfl, by omega, HN, hI1, hnx.trans hb1⟩
            first
            | exact R
            | ((repeat apply Exists.intro); exact ⟨R, rfl⟩)
          case measure => simp [intOf]; omega
      · rw [hn] at CN
        obtain ⟨p, q, h1, h2, _⟩ := of_needs c hn
        have HE : Hid (enc (bs.take (k + 1)) = enc (bs.take k) ++ [35] ++ [p, q]) := Lib.hid (by rw [HT.out, enc_append, enc_cons, h1, enc_nil]; simp)
        have cE : ∀ (g cap : Nat) (wx : World), wx.cell? ⟨g, 0, none⟩ = some (.int .u8 c.toNat) → Calls Tryd.prog 55 #[.slice (some ⟨g, 0, none⟩) 1 cap] wx fun e w' => e = .returned (.string ⟨#[p, q]⟩) ∧ Below wx.heap.size wx w' := by
          intro g cap wx hc
          have := encOne g cap c wx hc
          rw [h2] at this
          exact this
        have CE := Lib.hid cE
        clear cE h1 h2 hn
        cases rb
        · obtain ⟨rfl, he⟩ := hh.no rfl
          have hsz0 : (s.extract 0 k).size ≤ 4096 := by simp; omega
          have hW := writeString w.heap.size w.heap.size [] (s.extract 0 k) wr hI (by simp; omega) hsz
          rw [hS.out k, List.nil_append, ← he] at hW
          have HW := Lib.hid hW
          clear hh he hW
          go_wp2_with (first
            | (go_at_call 52; refine (CN.out _).mono ?_; rintro e w' ⟨rfl, rfl⟩)
            | (go_at_call 53; refine HW.out.mono ?_; rintro e w1 ⟨rfl, hI1, hb1, _⟩; refine Hid.out ?_))
          refine Lib.hid ?_
          have hsz1 := hb1.size
          go_wp2_with (go_at_call 54; refine (writeB w.heap.size w.heap.size _ 35 w1 hI1 (by omega) (by omega)).mono ?_; rintro e w2 ⟨rfl, hI2, hb2⟩; refine Hid.out ?_)
          refine Lib.hid ?_
          have hsz2 := hb2.size
          go_wp2_with (first
            | (go_at_call 55; refine (CE.out _ _ _ (by simp [go_sem])).mono ?_; rintro e w3 ⟨rfl, hb3⟩; refine Hid.out ?_))
          refine Lib.hid ?_
          have hI3 := isB_on (hI2.alloc _) hb3
          have hsz3 := hb3.size
          simp at hsz3
          go_wp2_with (go_at_call 53; refine (writeString w.heap.size w.heap.size _ ⟨#[p, q]⟩ w3 hI3 (by rw [show (⟨#[p, q]⟩ : ByteArray).size = 2 from rfl]; simp; omega) (by omega)).mono ?_; rintro e w4 ⟨rfl, hI4, hb4, _⟩; refine Hid.out ?_)
          refine Lib.hid ?_
          have hI5 : Lib.IsBuilderF 57 5 w.heap.size w.heap.size (Lib.byteCells (enc (bs.take (k + 1)))) w4 := by rw [HE.out]; exact hI4
          have hb5 : Below w.heap.size w w4 := (((hnx.trans hb1).trans hb2).trans (((Below.refl _ _).alloc (by omega) _).trans (hb3.mono (by simp; omega)))).trans hb4
          have HN : EncSt bs (k + 1) true (enc (bs.take (k + 1))) :=
            ⟨fun h => (by cases h), fun _ => rfl⟩
          clear hI1 hI2 hI3 hI4 hb1 hb2 hb3 hb4 hI hnx
          go_wp2_with fail
          go_roundw
          case rel =>
            have R : ∃ (k' : Nat) (rb : Bool) (acc : List UInt8), Value.bool true = .bool rb ∧ Value.int .i64 ((k : Int) + 1) = .int .i64 (k' : Nat) ∧ k' ≤ s.size ∧ EncSt bs k' rb acc ∧ Lib.IsBuilderF 57 5 w.heap.size w.heap.size (Lib.byteCells acc) w4 ∧ Below w.heap.size w w4 :=
              ⟨k + 1, true, _, rfl, rfl, by omega, HN, hI5, hb5⟩
            first
            | exact R
            | ((repeat apply Exists.intro); exact ⟨R, rfl⟩)
          case measure => simp [intOf]; omega
        · have he := hh.yes rfl
          subst he
          clear hh
          go_wp2_with (first
            | (go_at_call 52; refine (CN.out _).mono ?_; rintro e w' ⟨rfl, rfl⟩)
            | (go_at_call 54; refine (writeB w.heap.size w.heap.size _ 35 wr hI (by omega) (by omega)).mono ?_; rintro e w2 ⟨rfl, hI2, hb2⟩; refine Hid.out ?_))
          refine Lib.hid ?_
          have hsz2 := hb2.size
          go_wp2_with (first
            | (go_at_call 55; refine (CE.out _ _ _ (by simp [go_sem])).mono ?_; rintro e w3 ⟨rfl, hb3⟩; refine Hid.out ?_))
          refine Lib.hid ?_
          have hI3 := isB_on (hI2.alloc _) hb3
          have hsz3 := hb3.size
          simp at hsz3
          go_wp2_with (go_at_call 53; refine (writeString w.heap.size w.heap.size _ ⟨#[p, q]⟩ w3 hI3 (by rw [show (⟨#[p, q]⟩ : ByteArray).size = 2 from rfl]; simp; omega) (by omega)).mono ?_; rintro e w4 ⟨rfl, hI4, hb4, _⟩; refine Hid.out ?_)
          refine Lib.hid ?_
          have hI5 : Lib.IsBuilderF 57 5 w.heap.size w.heap.size (Lib.byteCells (enc (bs.take (k + 1)))) w4 := by rw [HE.out]; exact hI4
          have hb5 : Below w.heap.size w w4 := ((hnx.trans hb2).trans (((Below.refl _ _).alloc (by omega) _).trans (hb3.mono (by simp; omega)))).trans hb4
          have HN : EncSt bs (k + 1) true (enc (bs.take (k + 1))) :=
            ⟨fun h => (by cases h), fun _ => rfl⟩
          clear hI2 hI3 hI4 hb2 hb3 hb4 hI hnx
          go_wp2_with fail
          go_roundw
          case rel =>
            have R : ∃ (k' : Nat) (rb : Bool) (acc : List UInt8), Value.bool true = .bool rb ∧ Value.int .i64 ((k : Int) + 1) = .int .i64 (k' : Nat) ∧ k' ≤ s.size ∧ EncSt bs k' rb acc ∧ Lib.IsBuilderF 57 5 w.heap.size w.heap.size (Lib.byteCells acc) w4 ∧ Below w.heap.size w w4 :=
              ⟨k + 1, true, _, rfl, rfl, by omega, HN, hI5, hb5⟩
            first
            | exact R
            | ((repeat apply Exists.intro); exact ⟨R, rfl⟩)
          case measure => simp [intOf]; omega
    · have hkk : k = s.size := by omega
      subst hkk
      have htake : bs.take s.size = bs := List.take_of_length_le (by omega)
      cases rb
      · obtain ⟨rfl, he⟩ := hh.no rfl
        rw [htake] at he
        have HE := Lib.hid he
        clear hh he htake hS
        go_wp2_with fail
        go_ret
        refine ⟨?_, hnx⟩
        rw [HE.out, hM.out]
        rfl
      · have he := hh.yes rfl
        rw [htake] at he
        subst he
        clear hh htake hM hS
        go_wp2_with (go_at_call 56; refine (Tryd.Builder_String_any_k w.heap.size w.heap.size _ wr hI hsz).mono ?_; rintro e w1 ⟨rfl, _, hb1, _⟩)
        go_ret
        exact ⟨rfl, hnx.trans hb1⟩
end Go.Proofs.YtcohlcijgfdanaaDoor
