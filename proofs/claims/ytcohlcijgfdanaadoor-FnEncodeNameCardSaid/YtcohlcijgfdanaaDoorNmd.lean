/-
  FnEncodeName: DecodeName's contract at what EncodeName writes.
-/
import Derived.Test.YtcohlcijgfdanaaDoorNme
import Derived.Laws.Strings2
import Derived.Laws.Strings3
namespace Go.Proofs.YtcohlcijgfdanaaDoor
open Go.RowKit

/-- The variable ErrLength holds something. -/
def ErrLen (w : World) : Prop := ∃ ev, w.cell? ⟨3, 0, none⟩ = some ev
theorem ErrLen.on {B : Nat} {w w' : World} (h : ErrLen w) (hB : 3 < B) (hb : Below B w w') : ErrLen w' := by
  obtain ⟨ev, h1⟩ := h
  exact ⟨ev, (hb.cell (p := ⟨3, 0, none⟩) hB).trans h1⟩

/-- Two digits are their byte. -/
theorem decOne (s1 : ByteArray) (p q c : UInt8) (hs : s1.data.toList = [p, q]) (hd : Go.Lib.Hx.decode [p, q] = ([c], .ok)) (w : World) (hE : ErrLen w) :
    Calls Tryd.prog 59 #[.string s1] w fun e w' => e = .returned (.tuple #[.slice (some ⟨w.heap.size, 0, none⟩) 1 1, .nilIface]) ∧ w'.cell? ⟨w.heap.size, 0, none⟩ = some (.int .u8 c.toNat) ∧ Below w.heap.size w w' := by
  obtain ⟨ev, hev⟩ := hE
  have hsz : s1.size = 2 := by rw [← size_len, hs]; rfl
  refine (Tryd.hex_DecodeString s1 w ev hev (by omega)).mono ?_
  rintro e w' ⟨rfl, hrow, hb⟩
  rw [hs, hd] at hrow ⊢
  rw [hsz] at hrow ⊢
  refine ⟨rfl, ?_, hb⟩
  have := hrow.cell (i := 0) (by decide)
  rw [this]
  simp [Go.Lib.Hx.rowP]

theorem isB_lt {B b : Nat} {bs : List Value} {w : World} (h : Lib.IsBuilderF 57 5 B b bs w) : b < w.heap.size := h.elim (fun x => x.lt) (fun x => x.lt)

theorem take_mid (A X D : List UInt8) (n : Nat) (hn : n = A.length) : ((A ++ X ++ D).drop n).take X.length = X := by
  subst hn; simp

/-- How far DecodeName is. -/
structure DecSt (bs pre suf : List UInt8) (n : Nat) (rb : Bool) (acc : List UInt8) : Prop where
  all : bs = pre ++ suf
  len : n = (enc pre).length
  no : rb = false → acc = [] ∧ enc pre = pre
  yes : rb = true → acc = pre

set_option maxHeartbeats 8000000 in
set_option maxRecDepth 100000 in
/-- DecodeName at a written name: the bytes again. -/
theorem decodeName (t : ByteArray) (bs : List UInt8) (ht : t.data.toList = enc bs) (hb0 : bs.length ≤ 4096) (h0 : nameOk bs = true) (w : World) (hE : ErrLen w) :
    Calls Tryd.prog 33 #[.string t] w fun e w' => e = .returned (.tuple #[.string ⟨bs.toArray⟩, .nilIface]) ∧ Below w.heap.size w w' := by
  have hI0 : Lib.IsBuilderF 57 5 w.heap.size w.heap.size (Lib.byteCells []) (w.alloc (.cells #[.pointer none, .slice none 0 0] 57)) := Lib.IsBuilderF.of (Lib.fresh_isBuilder 57 5 w)
  have hB0 : Below w.heap.size w (w.alloc (.cells #[.pointer none, .slice none 0 0] 57)) := (Below.refl _ w).alloc (Nat.le_refl _) _
  have hw3 : 3 < w.heap.size := by obtain ⟨ev, h⟩ := hE; exact World.block_lt_of_cell? _ _ h
  have hsz : t.size = (enc bs).length := by rw [← size_len, ht]
  have h12 := (enc_length bs).2
  have hget : Hid (∀ k (h : k < t.size) (c : UInt8), (enc bs)[k]? = some c → t[k] = c) := by
    refine Lib.hid fun k h c hc => ?_
    rw [← ht] at hc
    have : t.data.toList[k]? = some (t[k]) := by
      rw [List.getElem?_eq_getElem (by rw [size_len]; exact h)]
      simp
      rfl
    rw [this] at hc
    exact Option.some.inj hc
  have hS : Hid (∀ i j, (t.extract i j).data.toList = ((enc bs).drop i).take (j - i)) := Lib.hid fun i j => by rw [← ht]; exact mid_data t i j
  have hM : Hid (enc bs = bs → (⟨bs.toArray⟩ : ByteArray) = t) := Lib.hid fun h => by rw [← h, ← ht]
  have htz : t.size ≤ 12288 := by omega
  have HZ := Lib.hid h0
  have HSZ := Lib.hid hsz
  clear ht h0 hsz
  go_enter Tryd.func33, Tryd.ntmps33
  go_wp2
  go_loopw [4, 6, 7, 8, 9, 10] (fun r i _ _ _ _ wr => ∃ (pre suf : List UInt8) (n : Nat) (rb : Bool) (acc : List UInt8), r = .bool rb ∧ i = .int .i64 n ∧ DecSt bs pre suf n rb acc ∧ n ≤ t.size ∧ Lib.IsBuilderF 57 5 w.heap.size w.heap.size (Lib.byteCells acc) wr ∧ Below w.heap.size w wr)
    (fun _ i _ _ _ _ _ => t.size - (intOf i).toNat)
  case atStart => exact ⟨[], bs, 0, false, [], rfl, rfl, ⟨rfl, rfl, fun _ => ⟨rfl, rfl⟩, fun h => (by cases h)⟩, by omega, hI0, hB0⟩
  case round =>
    obtain ⟨pre, suf, n, rb, acc, rfl, rfl, hh, hnt, hI, hnx⟩ := hrel
    have hsz1 := hnx.size
    have hblt := isB_lt hI
    clear hI0 hB0
    obtain ⟨hbs, hn, hr0, hr1⟩ := hh
    cases suf with
    | nil =>
      have hnt2 : n = t.size := by rw [HSZ.out, hbs, hn]; simp
      rw [List.append_nil] at hbs
      subst hnt2
      cases rb
      · obtain ⟨rfl, he⟩ := hr0 rfl
        rw [← hbs] at he
        have HE := Lib.hid (hM.out he)
        clear hr0 hr1 he hbs hn hM hS hget HZ
        go_wp2_with fail
        go_ret2
        refine ⟨?_, hnx⟩
        rw [HE.out]
        rfl
      · obtain rfl := hr1 rfl
        subst hbs
        clear hr0 hr1 hn hM hS hget HZ
        go_wp2_with (go_at_call 56; refine (Tryd.Builder_String_any_k w.heap.size w.heap.size _ wr hI hsz1).mono ?_; rintro e w1 ⟨rfl, _, hb1, _⟩)
        go_ret2
        exact ⟨rfl, hnx.trans hb1⟩
    | cons c suf =>
      have hc0 : c ≠ 0 := by
        have := HZ.out
        rw [hbs] at this
        simp [nameOk] at this
        exact this.2.1
      have hpl : pre.length ≤ 4096 := by rw [hbs] at hb0; simp at hb0; omega
      have hen : enc bs = enc pre ++ (enc1 c ++ enc suf) := by rw [hbs, enc_append, enc_cons]
      have hl1 := enc1_length c
      have hlen : n + (enc1 c).length ≤ t.size := by rw [HSZ.out, hen, hn]; simp only [List.length_append]; omega
      have hbs2 : bs = (pre ++ [c]) ++ suf := by rw [hbs]; simp
      have hn2 : n + (enc1 c).length = (enc (pre ++ [c])).length := by rw [enc_append, enc_cons, enc_nil]; simp; omega
      cases hnd : needs c.toNat
      · obtain ⟨h1, _, h35, hz⟩ := of_plain c hnd
        have hg : ∀ h : n < t.size, t[n] = c := fun h => hget.out n h c (by simp [hen, h1, hn])
        rw [h1] at hlen hn2
        simp at hlen hn2
        have hnlt : n < t.size := by omega
        have hgn := hg hnlt
        have hc256 : c.toNat < 256 := c.toNat_lt
        cases rb
        · obtain ⟨rfl, he⟩ := hr0 rfl
          have HN : DecSt bs (pre ++ [c]) suf (n + 1) false [] :=
            ⟨hbs2, hn2, fun _ => ⟨rfl, by rw [enc_append, enc_cons, enc_nil, h1, he]; rfl⟩, fun h => (by cases h)⟩
          clear hr0 hr1 he hbs hbs2 hn hn2 hM hS hget HZ hen hl1 h1 hnd hg
          go_wp2_with fail
          go_roundw
          case rel =>
            have R : ∃ (pre suf : List UInt8) (n' : Nat) (rb : Bool) (acc : List UInt8), Value.bool false = .bool rb ∧ Value.int .i64 ((n : Int) + 1) = .int .i64 (n' : Nat) ∧ DecSt bs pre suf n' rb acc ∧ n' ≤ t.size ∧ Lib.IsBuilderF 57 5 w.heap.size w.heap.size (Lib.byteCells acc) wr ∧ Below w.heap.size w wr :=
              ⟨pre ++ [c], suf, n + 1, false, [], rfl, rfl, HN, by omega, hI, hnx⟩
            first
            | exact R
            | ((repeat apply Exists.intro); exact ⟨R, rfl⟩)
          case measure => simp [intOf]; omega
        · obtain rfl := hr1 rfl
          have HN : DecSt bs (acc ++ [c]) suf (n + 1) true (acc ++ [c]) :=
            ⟨hbs2, hn2, fun h => (by cases h), fun _ => rfl⟩
          clear hr0 hr1 hbs hbs2 hn hn2 hM hS hget HZ hen hl1 h1 hnd hg
          go_wp2_with (go_at_call 54; refine (writeB w.heap.size w.heap.size _ c wr hI (by omega) hsz1).mono ?_; rintro e w1 ⟨rfl, hI1, hb1⟩)
          go_roundw
          case rel =>
            have R : ∃ (pre suf : List UInt8) (n' : Nat) (rb : Bool) (acc : List UInt8), Value.bool true = .bool rb ∧ Value.int .i64 ((n : Int) + 1) = .int .i64 (n' : Nat) ∧ DecSt bs pre suf n' rb acc ∧ n' ≤ t.size ∧ Lib.IsBuilderF 57 5 w.heap.size w.heap.size (Lib.byteCells acc) w1 ∧ Below w.heap.size w w1 :=
              ⟨_, suf, n + 1, true, _, rfl, rfl, HN, by omega, hI1, hnx.trans hb1⟩
            first
            | exact R
            | ((repeat apply Exists.intro); exact ⟨R, rfl⟩)
          case measure => simp [intOf]; omega
      · obtain ⟨p, q, h1, _, _, _, _, _, _, _, _, hd⟩ := of_needs c hnd
        rw [h1] at hlen hn2 hen
        simp at hlen hn2
        have hnlt : n < t.size := by omega
        have hgn := hget.out n hnlt 35 (by rw [hen, hn]; simp)
        have hx : (t.extract (n + 1) (n + 3)).data.toList = [p, q] := by
          rw [hS.out, hen, show n + 3 - (n + 1) = 2 by omega]
          have := take_mid (enc pre ++ [35]) [p, q] (enc suf) (n + 1) (by simp [hn])
          simpa using this
        have hx0 : (t.extract 0 n).data.toList = enc pre := by
          rw [hS.out, hen, hn]; simp
        have CD := Lib.hid fun wx hEx => decOne (t.extract (n + 1) (n + 3)) p q c hx hd wx hEx
        have hsl3 : ∀ wx : World, (Instr.slice 9 (.string t) (some (.int .i64 ((n : Int) + 1))) (some (.int .i64 ((n : Int) + 3))) none).run Tryd.prog wx = .ok (.string (t.extract (n + 1) (n + 3))) wx := fun wx => by
          have := run_slice_string (P := Tryd.prog) wx 9 t .i64 .i64 ((n : Int) + 1) ((n : Int) + 3) Tryd.underlying9 (by omega) (by omega) (by omega)
          rw [show ((n : Int) + 1).toNat = n + 1 by omega, show ((n : Int) + 3).toNat = n + 3 by omega] at this
          exact this
        have hcz : (c.toNat : Int) ≠ 0 := fun h => hc0 (UInt8.toNat_inj.1 (by simpa using h))
        have hc256 : c.toNat < 256 := c.toNat_lt
        cases rb
        · obtain ⟨rfl, he⟩ := hr0 rfl
          have HN : DecSt bs (pre ++ [c]) suf (n + 3) true (pre ++ [c]) :=
            ⟨hbs2, hn2, fun h => (by cases h), fun _ => rfl⟩
          have hel : (t.extract 0 n).size = pre.length := by rw [← size_len, hx0, he]
          have HX : Hid ((t.extract 0 n).data.toList = pre) := Lib.hid (by rw [hx0, he])
          clear hr0 hr1 he hbs hbs2 hn hn2 hM hS hget HZ hen hl1 h1 hnd hx hx0 hd
          go_wp2_with (go_at_call 59; refine (CD.out _ (hE.on hw3 hnx)).mono ?_; rintro e w1 ⟨rfl, hc1, hb1⟩; refine Hid.out ?_)
          refine Lib.hid ?_
          have hI1 := isB_on hI hb1
          have hs1 := hb1.size
          have hbw := World.block_lt_of_cell? _ _ hc1
          go_wp2_with (go_at_call 53; refine (writeString w.heap.size w.heap.size [] (t.extract 0 n) w1 hI1 (by simp; omega) (by omega)).mono ?_; rintro e w2 ⟨rfl, hI2, hb2, hf2⟩; refine Hid.out ?_)
          refine Lib.hid ?_
          rw [List.nil_append, HX.out] at hI2
          have hs2 := hb2.size
          have hg2 : w2.heap[wr.heap.size]? = w1.heap[wr.heap.size]? := hf2 _ hbw (by omega) (fun v hv => isB_row hI v ((hb1.cell (p := ⟨w.heap.size, 1, none⟩) (by show w.heap.size < wr.heap.size; omega)).symm.trans hv) _ (Nat.le_refl _))
          have hc2 : w2.cell? ⟨wr.heap.size, 0, none⟩ = some (.int .u8 c.toNat) := (World.cell?_of_block (a := ⟨wr.heap.size, 0, none⟩) hg2).trans hc1
          go_wp2_with (go_at_call 60; refine (write1 w.heap.size w.heap.size _ wr.heap.size 1 c.toNat w2 hI2 hc2 (by omega) (by rw [Lib.byteCells_length]; omega) (by omega)).mono ?_; rintro e w3 ⟨⟨v3, rfl⟩, hI3, hb3⟩; refine Hid.out ?_)
          refine Lib.hid ?_
          have hI4 : Lib.IsBuilderF 57 5 w.heap.size w.heap.size (Lib.byteCells (pre ++ [c])) w3 := by
            rw [show Lib.byteCells (pre ++ [c]) = Lib.byteCells pre ++ [.int .u8 (c.toNat : Int)] by simp [Lib.byteCells]]
            exact hI3
          have hb4 : Below w.heap.size w w3 := ((hnx.trans (hb1.mono (by omega))).trans hb2).trans hb3
          clear hI hI1 hI2 hI3 hb1 hb2 hb3 hnx hf2 hg2 hc1 hc2 hgn
          go_wp2_with fail
          go_roundw
          case rel =>
            have R : ∃ (pre suf : List UInt8) (n' : Nat) (rb : Bool) (acc : List UInt8), Value.bool true = .bool rb ∧ Value.int .i64 ((n : Int) + 2 + 1) = .int .i64 (n' : Nat) ∧ DecSt bs pre suf n' rb acc ∧ n' ≤ t.size ∧ Lib.IsBuilderF 57 5 w.heap.size w.heap.size (Lib.byteCells acc) w3 ∧ Below w.heap.size w w3 :=
              ⟨pre ++ [c], suf, n + 3, true, _, rfl, (by first | rfl | (congr 1; omega)), HN, by omega, hI4, hb4⟩
            first
            | exact R
            | ((repeat apply Exists.intro); exact ⟨R, rfl⟩)
          case measure => simp [intOf]; omega
        · obtain rfl := hr1 rfl
          have HN : DecSt bs (acc ++ [c]) suf (n + 3) true (acc ++ [c]) :=
            ⟨hbs2, hn2, fun h => (by cases h), fun _ => rfl⟩
          clear hr0 hr1 hbs hbs2 hn hn2 hM hS hget HZ hen hl1 h1 hnd hx hx0 hd
          go_wp2_with (go_at_call 59; refine (CD.out _ (hE.on hw3 hnx)).mono ?_; rintro e w2 ⟨rfl, hc2, hb1⟩; refine Hid.out ?_)
          refine Lib.hid ?_
          have hI2 := isB_on hI hb1
          have hs1 := hb1.size
          have hbw := World.block_lt_of_cell? _ _ hc2
          go_wp2_with (go_at_call 60; refine (write1 w.heap.size w.heap.size _ wr.heap.size 1 c.toNat w2 hI2 hc2 (by omega) (by rw [Lib.byteCells_length]; omega) (by omega)).mono ?_; rintro e w3 ⟨⟨v3, rfl⟩, hI3, hb3⟩; refine Hid.out ?_)
          refine Lib.hid ?_
          have hI4 : Lib.IsBuilderF 57 5 w.heap.size w.heap.size (Lib.byteCells (acc ++ [c])) w3 := by
            rw [show Lib.byteCells (acc ++ [c]) = Lib.byteCells acc ++ [.int .u8 (c.toNat : Int)] by simp [Lib.byteCells]]
            exact hI3
          have hb4 : Below w.heap.size w w3 := (hnx.trans (hb1.mono (by omega))).trans hb3
          clear hI hI2 hI3 hb1 hb3 hnx hc2 hgn
          go_wp2_with fail
          go_roundw
          case rel =>
            have R : ∃ (pre suf : List UInt8) (n' : Nat) (rb : Bool) (acc : List UInt8), Value.bool true = .bool rb ∧ Value.int .i64 ((n : Int) + 2 + 1) = .int .i64 (n' : Nat) ∧ DecSt bs pre suf n' rb acc ∧ n' ≤ t.size ∧ Lib.IsBuilderF 57 5 w.heap.size w.heap.size (Lib.byteCells acc) w3 ∧ Below w.heap.size w w3 :=
              ⟨_, suf, n + 3, true, _, rfl, (by first | rfl | (congr 1; omega)), HN, by omega, hI4, hb4⟩
            first
            | exact R
            | ((repeat apply Exists.intro); exact ⟨R, rfl⟩)
          case measure => simp [intOf]; omega
end Go.Proofs.YtcohlcijgfdanaaDoor
