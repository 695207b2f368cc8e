/-
  FnLiteralText: types.Unescape: the walk.
-/
import Derived.Test.YtcohlcijgfdanaaDoorUnc
import Derived.Laws.Runes
namespace Go.Proofs.YtcohlcijgfdanaaDoor.lt
open Go.RowKit

def mkS (l : List UInt8) : ByteArray := ⟨l.toArray⟩
theorem mkS_list (l : List UInt8) : (mkS l).data.toList = l := by simp [mkS]
theorem mkS_size (l : List UInt8) : (mkS l).size = l.length := by rw [Lib.size_eq, mkS_list]
theorem mkS_of (s : ByteArray) : mkS s.data.toList = s := by
  apply ByteArray.ext
  apply Array.toList_inj.1
  exact mkS_list _
theorem mkS_app (a b : List UInt8) : mkS a ++ mkS b = mkS (a ++ b) := by
  apply ByteArray.ext
  apply Array.toList_inj.1
  simp [mkS]

/-- One byte more in the buffer. -/
theorem put67 (b : Nat) (l : List UInt8) (c : UInt8) (w : World) (h : Lib.IsBuffer 81 5 b b (Lib.byteCells l) w) (hBw : b ≤ w.heap.size) (hlen : l.length ≤ 100000000) :
    Calls Tryd.prog 67 #[.pointer (some ⟨b, 0, none⟩), .int .u8 c.toNat] w fun e w' => e = .returned .nilIface ∧ Lib.IsBuffer 81 5 b b (Lib.byteCells (l ++ [c])) w' ∧ Below b w w' :=
  Go.Proofs.YtcohlcijgfdanaaDoor.esc.bufB b b l c w h hBw hlen

theorem oct41 (l : List UInt8) (w : World) (hE : ErrSyn w) : Calls Tryd.prog 41 #[.string (mkS l)] w fun e w' => e = .returned (.int .u8 ((octB l).toNat : Int)) ∧ Below w.heap.size w w' := by
  have := octByte (mkS l) w hE
  rw [mkS_list, ← octB_nat] at this
  exact this

theorem isB_below {b : Nat} {bs : List Value} {w w' : World} (h : Lib.IsBuffer 81 5 b b bs w) (hb : Below w.heap.size w w') : Lib.IsBuffer 81 5 b b bs w' := by
  have hlt := h.lt
  obtain ⟨hB, v, lr, hbk, hown, hne⟩ := h
  exact ⟨hB, v, lr, (hb.block b hlt).trans hbk, hown.kept (row := none) ⟨hb.os, hb.tape, hb.output, hb.size, fun k hk _ => hb.block k hk⟩ (by cases v.ownBlock <;> simp), hne⟩

/-- The relation at the head of a round. -/
def Rel (text : List UInt8) (w : World) (e le oc i : Value) (wr : World) : Prop :=
  ∃ (eb : Bool) (pre suf out ds : List UInt8), e = .bool eb ∧ le = .bool false ∧ oc = .string (mkS ds) ∧ i = .int .i64 (pre.length : Int) ∧ Hid (St text pre suf out ds eb) ∧ Hid (Lib.IsBuffer 81 5 w.heap.size w.heap.size (Lib.byteCells out) wr) ∧ Hid (Below w.heap.size w wr)

set_option maxHeartbeats 16000000 in
set_option maxRecDepth 100000 in
theorem unescape45 (text : List UInt8) (h13 : ∀ c ∈ text, c ≠ 13) (hl : text.length ≤ 4096) (w : World) (hE : ErrSyn w) :
    Calls Tryd.prog 45 #[.string (mkS text)] w fun e w' => (∃ v, e = .returned (.tuple #[v, .nilIface]) ∧ w'.ownsRow w.heap.size 5 1 v (unesc text).length (Lib.byteCells (unesc text))) ∧ Below w.heap.size w w' := by
  have hI0 : Hid (Lib.IsBuffer 81 5 w.heap.size w.heap.size (Lib.byteCells []) (w.alloc (.cells #[.slice none 0 0, .int .i64 0, .int .i8 0] 81))) := Lib.hid (Lib.fresh_isBuffer 81 5 w)
  have hB0 : Hid (Below w.heap.size w (w.alloc (.cells #[.slice none 0 0, .int .i64 0, .int .i8 0] 81))) := Lib.hid ((Below.refl _ w).alloc (Nat.le_refl _) _)
  have hsz : (mkS text).size = text.length := mkS_size text
  have hget := Lib.hid fun k h c => Go.Proofs.YtcohlcijgfdanaaDoor.esc.get_of (mkS text) text (mkS_list text) k h c
  have H13 := Lib.hid h13
  have HE := Lib.hid hE
  generalize mkS text = t at *
  have HSZ := Lib.hid hsz
  clear hsz h13 hE
  go_enter Tryd.func45, Tryd.ntmps45
  go_wp2_with fail
  generalize w.alloc (.cells #[.slice none 0 0, .int .i64 0, .int .i8 0] 81) = W0 at *
  go_loopw [4, 5, 6, 8, 9, 10] (fun e le oc i _ _ wr => Rel text w e le oc i wr) (fun _ _ _ i _ _ _ => text.length - (intOf i).toNat)
  case atStart => exact ⟨false, [], text, [], [], rfl, rfl, rfl, rfl, Lib.hid ⟨rfl, by simp, fun _ => rfl, by simp, by simp, by simp⟩, hI0, hB0⟩
  case round =>
    obtain ⟨eb, pre, suf, out, ds, rfl, rfl, rfl, rfl, HS, HI, HB⟩ := hrel
    have hpl : pre.length + suf.length = text.length := by have := congrArg List.length HS.out.all; simp at this; omega
    have hob : out.length ≤ 4096 := by have := HS.out.bound; omega
    have hszw := HB.out.size
    have HPL := Lib.hid hpl
    cases suf with
    | nil =>
      have hnlt : ¬ (pre.length : Int) < (t.size : Int) := by have := HSZ.out; simp at hpl; omega
      clear hpl
      cases ds with
      | nil =>
        have hu := HS.out.end0
        have hI := HI.out
        rw [← hu] at hI
        have hbytes := Lib.hid (Tryd.Buffer_Bytes w.heap.size w.heap.size _ wr hI)
        rw [show mkS ([] : List UInt8) = ⟨#[]⟩ from rfl]
        clear hI hu hob
        go_wp2_with (go_at_call 74; refine hbytes.out.mono ?_; rintro e w1 ⟨v, rfl, hown, m, rfl⟩)
        go_ret2
        refine ⟨⟨v, rfl, ?_⟩, ⟨HB.out.os, HB.out.tape, HB.out.output, HB.out.size, HB.out.block⟩⟩
        rw [Lib.byteCells_length] at hown
        exact hown
      | cons d0 ds =>
        have heb : eb = true := by
          cases eb
          · exact absurd (HS.out.oc1 rfl) (by simp)
          · rfl
        subst heb
        have hu := HS.out.end1 (by simp)
        have C41 := Lib.hid (oct41 (d0 :: ds) wr (HE.out.on HB.out))
        have C67 : Hid (∀ W, Below wr.heap.size wr W → Calls Tryd.prog 67 #[.pointer (some ⟨w.heap.size, 0, none⟩), .int .u8 (octB (d0 :: ds)).toNat] W fun e w' => e = .returned .nilIface ∧ Lib.IsBuffer 81 5 w.heap.size w.heap.size (Lib.byteCells (out ++ [octB (d0 :: ds)])) w' ∧ Below w.heap.size W w') := Lib.hid fun W hb => put67 w.heap.size out (octB (d0 :: ds)) W (isB_below HI.out hb) (by have := hb.size; omega) (by omega)
        have hSz : (mkS (d0 :: ds)).size = ds.length + 1 := by rw [mkS_size]; rfl
        rw [← hu] at C67
        have hpos : (0 : Int) < (ds.length : Int) + 1 := by omega
        generalize mkS (d0 :: ds) = S at *
        generalize ((octB (d0 :: ds)).toNat : Int) = o at *
        clear hu hob
        go_wp2_with (first
          | (go_at_call 41; refine C41.out.mono ?_; rintro e w1 ⟨rfl, k1⟩)
          | (go_at_call 67; refine (C67.out _ k1).mono ?_; rintro e w2 ⟨rfl, hI2, k2⟩)
          | (go_at_call 74; refine (Tryd.Buffer_Bytes w.heap.size w.heap.size _ w2 hI2).mono ?_; rintro e w3 ⟨v, rfl, hown, m, rfl⟩))
        go_ret2
        have kb := (HB.out.trans (k1.mono hszw)).trans k2
        refine ⟨⟨v, rfl, ?_⟩, ⟨kb.os, kb.tape, kb.output, kb.size, kb.block⟩⟩
        rw [Lib.byteCells_length] at hown
        exact hown
    | cons c suf =>
      simp only [List.length_cons] at hpl
      have hlt : pre.length < t.size := by have := HSZ.out; omega
      have hg := hget.out pre.length hlt c (by rw [HS.out.all]; simp)
      have hc13 : c ≠ 13 := H13.out c (by rw [HS.out.all]; simp)
      have hc256 : c.toNat < 256 := c.toNat_lt
      have hn13 : ¬ c.toNat = 13 := fun e => hc13 (UInt8.toNat_inj.1 e)
      have hm13 : ¬ (c.toNat : Int) = 13 := by omega
      have HLT := Lib.hid hlt
      have hpb : pre.length ≤ 4096 := by omega
      cases ds with
      | nil =>
        cases eb
        · by_cases h92 : c = 92
          · subst h92
            have hst := Lib.hid HS.out.bs
            have CR := Lib.hid fun w => reg72 92 false w false (by simp)
            clear hpl hc13 hn13 hm13 hc256 hob
            rw [show mkS ([] : List UInt8) = ⟨#[]⟩ from rfl]
            go_wp2_with (go_at_call 72; refine (CR.out _).mono ?_; rintro e w' ⟨rfl, rfl⟩)
            go_roundw
            case rel => exact ⟨true, pre ++ [92], suf, out, [], rfl, rfl, rfl, by simp, hst, HI, HB⟩
            case measure =>
              have := HPL.out
              simp at this
              simp [intOf]; omega
          · have hn92 : ¬ c.toNat = 92 := fun e => h92 (UInt8.toNat_inj.1 e)
            have hm92 : ¬ (c.toNat : Int) = 92 := by omega
            have hst := Lib.hid (HS.out.plain h92)
            have CR := Lib.hid fun w => reg72 (c.toNat : Int) false w true (by simp; omega)
            have C67 := Lib.hid (put67 w.heap.size out c wr HI.out hszw (by omega))
            clear hpl hc13 h92 hob
            rw [show mkS ([] : List UInt8) = ⟨#[]⟩ from rfl]
            go_wp2_with (first
              | (go_at_call 72; refine (CR.out _).mono ?_; rintro e w' ⟨rfl, rfl⟩)
              | (go_at_call 67; refine C67.out.mono ?_; rintro e w1 ⟨rfl, hI1, hb1⟩))
            go_roundw
            case rel => exact ⟨false, pre ++ [c], suf, out ++ [c], [], rfl, rfl, rfl, by simp, hst, Lib.hid hI1, Lib.hid (HB.out.trans hb1)⟩
            case measure =>
              have := HPL.out
              simp at this
              simp [intOf]; omega
        · have CR := Lib.hid fun w => reg72 (c.toNat : Int) true w false (by simp)
          by_cases h92 : c = 92
          · subst h92
            have hst : Hid (St text (pre ++ [92]) suf (out ++ [92]) [] false) := Lib.hid (HS.out.esc (by decide) (by decide))
            have C67 := Lib.hid (put67 w.heap.size out 92 wr HI.out hszw (by omega))
            clear hpl hc13 hn13 hm13 hc256 hob
            rw [show mkS ([] : List UInt8) = ⟨#[]⟩ from rfl]
            go_wp2_with (first
              | (go_at_call 72; refine (CR.out _).mono ?_; rintro e w' ⟨rfl, rfl⟩)
              | (go_at_call 67; refine C67.out.mono ?_; rintro e w1 ⟨rfl, hI1, hb1⟩))
            go_roundw
            case rel => exact ⟨false, pre ++ [92], suf, out ++ [92], [], rfl, rfl, rfl, by simp, hst, Lib.hid hI1, Lib.hid (HB.out.trans hb1)⟩
            case measure =>
              have := HPL.out
              simp at this
              simp [intOf]; omega
          · have hn92 : ¬ c.toNat = 92 := fun e => h92 (UInt8.toNat_inj.1 e)
            have hm92 : ¬ (c.toNat : Int) = 92 := by omega
            by_cases h10 : c = 10
            · subst h10
              have hst := Lib.hid HS.out.nl
              clear hpl hc13 hn13 hm13 hc256 hn92 hm92 h92 hob
              rw [show mkS ([] : List UInt8) = ⟨#[]⟩ from rfl]
              go_wp2_with (go_at_call 72; refine (CR.out _).mono ?_; rintro e w' ⟨rfl, rfl⟩)
              go_roundw
              case rel => exact ⟨false, pre ++ [10], suf, out, [], rfl, rfl, rfl, by simp, hst, HI, HB⟩
              case measure =>
                have := HPL.out
                simp at this
                simp [intOf]; omega
            · have hn10 : ¬ c.toNat = 10 := fun e => h10 (UInt8.toNat_inj.1 e)
              have hm10 : ¬ (c.toNat : Int) = 10 := by omega
              cases ho : od c
              · have hst := Lib.hid (HS.out.esc h10 ho)
                have C73 := Lib.hid fun w => esc73 c ho w
                have C67 := Lib.hid (put67 w.heap.size out (esv c) wr HI.out hszw (by omega))
                clear hpl hc13 h92 h10 ho hob
                rw [show mkS ([] : List UInt8) = ⟨#[]⟩ from rfl]
                go_wp2_with (first
                  | (go_at_call 72; refine (CR.out _).mono ?_; rintro e w' ⟨rfl, rfl⟩)
                  | (go_at_call 73; refine (C73.out _).mono ?_; rintro e w' ⟨rfl, rfl⟩)
                  | (go_at_call 67; refine C67.out.mono ?_; rintro e w1 ⟨rfl, hI1, hb1⟩))
                go_roundw
                case rel => exact ⟨false, pre ++ [c], suf, out ++ [esv c], [], rfl, rfl, rfl, by simp, hst, Lib.hid hI1, Lib.hid (HB.out.trans hb1)⟩
                case measure =>
                  have := HPL.out
                  simp at this
                  simp [intOf]; omega
              · have hst := Lib.hid (HS.out.oct ho (by simp))
                have hov : 48 ≤ c.toNat ∧ c.toNat ≤ 55 := by unfold od at ho; simpa using ho
                have C73 := Lib.hid fun w => esc73_oct (c.toNat : Int) (by omega) (by omega) w
                have hen : Utf8.encode (c.toNat : Int) = mkS [c] := enc_od c ho
                have hz2 : (mkS [c]).size = 1 := rfl
                have hzE : (mkS []).size = 0 := rfl
                have hcat : mkS [] ++ mkS [c] = mkS ([] ++ [c]) := mkS_app [] [c]
                clear hpl hc13 h92 h10 ho hob hov
                generalize hM : mkS ([] ++ [c]) = C2 at *
                have HM := Lib.hid hM
                clear hM
                obtain ⟨d, hd⟩ : ∃ d : Int, (c.toNat : Int) = d := ⟨_, rfl⟩
                have hgd : ((t[pre.length]'hlt).toNat : Int) = d := by rw [hg]; exact hd
                have hd0 : 0 ≤ d := by omega
                have hd1 : d ≤ 255 := by omega
                simp only [hd] at CR C73 hen hm92 hm10 hm13
                clear hg hn92 hn10 hn13 hc256 hd
                generalize mkS [c] = C1 at *
                generalize mkS [] = E at *
                go_wp2_with (first
                  | (go_at_call 72; refine (CR.out _).mono ?_; rintro e w' ⟨rfl, rfl⟩)
                  | (go_at_call 73; refine (C73.out _).mono ?_; rintro e w' ⟨rfl, rfl⟩))
                go_roundw
                case rel => exact ⟨true, pre ++ [c], suf, out, [] ++ [c], rfl, rfl, by rw [HM.out], by simp, hst, HI, HB⟩
                case measure =>
                  have := HPL.out
                  simp at this
                  simp [intOf]; omega
      | cons d0 ds0 =>
        obtain ⟨ds, hds⟩ : ∃ ds, d0 :: ds0 = ds := ⟨_, rfl⟩
        have hdne : ds ≠ [] := by rw [← hds]; simp
        have hdl : 0 < ds.length := List.length_pos_iff.2 hdne
        rw [hds] at HS ⊢
        clear hds
        have heb : eb = true := by
          cases eb
          · exact absurd (HS.out.oc1 rfl) hdne
          · rfl
        subst heb
        have hdl2 := HS.out.len
        have hSz : (mkS ds).size = ds.length := mkS_size ds
        have hpos : (0 : Int) < (ds.length : Int) := by omega
        have C71 := Lib.hid (contains71 c wr)
        cases ho : od c
        · rw [ho] at C71
          have hfl := HS.out.flush hdne ho
          have C41 : Hid (∀ W, Below wr.heap.size wr W → Calls Tryd.prog 41 #[.string (mkS ds)] W fun e w' => e = .returned (.int .u8 ((octB ds).toNat : Int)) ∧ Below W.heap.size W w') := Lib.hid fun W hb => oct41 ds W ((HE.out.on HB.out).on hb)
          have C67 : Hid (∀ W1 W2, Below wr.heap.size wr W1 → Below W1.heap.size W1 W2 → Calls Tryd.prog 67 #[.pointer (some ⟨w.heap.size, 0, none⟩), .int .u8 (octB ds).toNat] W2 fun e w' => e = .returned .nilIface ∧ Lib.IsBuffer 81 5 w.heap.size w.heap.size (Lib.byteCells (out ++ [octB ds])) w' ∧ Below w.heap.size W2 w') := Lib.hid fun W1 W2 h1 h2 => put67 w.heap.size out (octB ds) W2 (isB_below (isB_below HI.out h1) h2) (by have := h1.size; have := h2.size; omega) (by omega)
          by_cases h92 : c = 92
          · subst h92
            have hst := Lib.hid hfl.bs
            have CR := Lib.hid fun w => reg72 92 false w false (by simp)
            clear hpl hc13 hn13 hm13 hc256 hob hfl hdne hdl hdl2 ho
            generalize mkS ds = S at *
            generalize hOB : ((octB ds).toNat : Int) = o at *
            have HOB := Lib.hid hOB
            clear hOB
            go_wp2_with (first
              | (go_at_call 71; refine C71.out.mono ?_; rintro e w1 ⟨rfl, k1⟩)
              | (go_at_call 41; refine (C41.out _ k1).mono ?_; rintro e w2 ⟨rfl, k2⟩)
              | (go_at_call 67; refine (C67.out _ _ k1 k2).mono ?_; rintro e w3 ⟨rfl, hI3, k3⟩)
              | (go_at_call 72; refine (CR.out _).mono ?_; rintro e w' ⟨rfl, rfl⟩))
            go_roundw
            case rel => exact ⟨true, pre ++ [92], suf, out ++ [octB ds], [], rfl, rfl, rfl, by simp, hst, Lib.hid hI3, Lib.hid ((((HB.out.trans (k1.mono hszw)).trans (k2.mono (Nat.le_trans hszw k1.size)))).trans k3)⟩
            case measure =>
              have := HPL.out
              simp at this
              simp [intOf]; omega
          · have hn92 : ¬ c.toNat = 92 := fun e => h92 (UInt8.toNat_inj.1 e)
            have hm92 : ¬ (c.toNat : Int) = 92 := by omega
            have hst := Lib.hid (hfl.plain h92)
            have CR := Lib.hid fun w => reg72 (c.toNat : Int) false w true (by simp; omega)
            have C67b : Hid (∀ W3, Lib.IsBuffer 81 5 w.heap.size w.heap.size (Lib.byteCells (out ++ [octB ds])) W3 → Calls Tryd.prog 67 #[.pointer (some ⟨w.heap.size, 0, none⟩), .int .u8 c.toNat] W3 fun e w' => e = .returned .nilIface ∧ Lib.IsBuffer 81 5 w.heap.size w.heap.size (Lib.byteCells (out ++ [octB ds] ++ [c])) w' ∧ Below w.heap.size W3 w') := Lib.hid fun W3 h => put67 w.heap.size _ c W3 h (Nat.le_of_lt h.lt) (by simp; omega)
            clear hpl hc13 h92 hob hfl hdne hdl hdl2 ho
            generalize mkS ds = S at *
            generalize hOB : ((octB ds).toNat : Int) = o at *
            have HOB := Lib.hid hOB
            clear hOB
            clear hn92 hn13
            go_wp2_with (first
              | (go_at_call 71; refine C71.out.mono ?_; rintro e w1 ⟨rfl, k1⟩)
              | (go_at_call 41; refine (C41.out _ k1).mono ?_; rintro e w2 ⟨rfl, k2⟩)
              | (go_at_call 67; (with_reducible refine (C67.out _ _ k1 k2).mono ?_); rintro e w3 ⟨rfl, hI3, k3⟩)
              | (go_at_call 72; refine (CR.out _).mono ?_; rintro e w' ⟨rfl, rfl⟩)
              | (go_at_call 67; (with_reducible refine (C67b.out _ hI3).mono ?_); rintro e w4 ⟨rfl, hI4, k4⟩))
            go_roundw
            case rel => exact ⟨false, pre ++ [c], suf, out ++ [octB ds] ++ [c], [], rfl, rfl, rfl, by simp, hst, Lib.hid hI4, Lib.hid (((((HB.out.trans (k1.mono hszw)).trans (k2.mono (Nat.le_trans hszw k1.size)))).trans k3).trans k4)⟩
            case measure =>
              have := HPL.out
              simp at this
              simp [intOf]; omega
        · rw [ho] at C71
          have hov : 48 ≤ c.toNat ∧ c.toNat ≤ 55 := by unfold od at ho; simpa using ho
          have hen := enc_od c ho
          have hcat : mkS ds ++ (⟨#[c]⟩ : ByteArray) = mkS (ds ++ [c]) := mkS_app ds [c]
          have hz1 : (⟨#[c]⟩ : ByteArray).size = 1 := rfl
          have hz2 : (mkS (ds ++ [c])).size = ds.length + 1 := by rw [mkS_size]; simp
          by_cases hd2 : ds.length = 2
          · have hst := Lib.hid (HS.out.oct3 ho hd2)
            have C41 : Hid (∀ W, Below wr.heap.size wr W → Calls Tryd.prog 41 #[.string (mkS (ds ++ [c]))] W fun e w' => e = .returned (.int .u8 ((octB (ds ++ [c])).toNat : Int)) ∧ Below W.heap.size W w') := Lib.hid fun W hb => oct41 (ds ++ [c]) W ((HE.out.on HB.out).on hb)
            have C67 : Hid (∀ W1 W2, Below wr.heap.size wr W1 → Below W1.heap.size W1 W2 → Calls Tryd.prog 67 #[.pointer (some ⟨w.heap.size, 0, none⟩), .int .u8 (octB (ds ++ [c])).toNat] W2 fun e w' => e = .returned .nilIface ∧ Lib.IsBuffer 81 5 w.heap.size w.heap.size (Lib.byteCells (out ++ [octB (ds ++ [c])])) w' ∧ Below w.heap.size W2 w') := Lib.hid fun W1 W2 h1 h2 => put67 w.heap.size out (octB (ds ++ [c])) W2 (isB_below (isB_below HI.out h1) h2) (by have := h1.size; have := h2.size; omega) (by omega)
            rw [hd2] at hSz hz2
            clear hpl hc13 hob hdne hdl hdl2 ho hov hpos hd2
            generalize mkS (ds ++ [c]) = S2 at *
            generalize mkS ds = S at *
            generalize (⟨#[c]⟩ : ByteArray) = C1 at *
            generalize hOB : ((octB (ds ++ [c])).toNat : Int) = o at *
            have HOB := Lib.hid hOB
            clear hOB
            go_wp2_with (first
              | (go_at_call 71; refine C71.out.mono ?_; rintro e w1 ⟨rfl, k1⟩)
              | (go_at_call 41; refine (C41.out _ k1).mono ?_; rintro e w2 ⟨rfl, k2⟩)
              | (go_at_call 67; refine (C67.out _ _ k1 k2).mono ?_; rintro e w3 ⟨rfl, hI3, k3⟩))
            go_roundw
            case rel => exact ⟨false, pre ++ [c], suf, out ++ [octB (ds ++ [c])], [], rfl, rfl, rfl, by simp, hst, Lib.hid hI3, Lib.hid ((((HB.out.trans (k1.mono hszw)).trans (k2.mono (Nat.le_trans hszw k1.size)))).trans k3)⟩
            case measure =>
              have := HPL.out
              simp at this
              simp [intOf]; omega
          · have hst := Lib.hid (HS.out.oct ho (by omega))
            rw [show ds.length = 1 by omega] at hSz hz2
            clear hpl hc13 hob hdne hdl hdl2 ho hov hd2 hpos
            generalize hM : mkS (ds ++ [c]) = S2 at *
            have HM := Lib.hid hM
            clear hM
            generalize mkS ds = S at *
            generalize (⟨#[c]⟩ : ByteArray) = C1 at *
            go_wp2_with (go_at_call 71; refine C71.out.mono ?_; rintro e w1 ⟨rfl, k1⟩)
            go_roundw
            case rel => exact ⟨true, pre ++ [c], suf, out, ds ++ [c], rfl, rfl, by rw [HM.out], by simp, hst, Lib.hid (isB_below HI.out k1), Lib.hid (HB.out.trans (k1.mono hszw))⟩
            case measure =>
              have := HPL.out
              simp at this
              simp [intOf]; omega
end Go.Proofs.YtcohlcijgfdanaaDoor.lt
