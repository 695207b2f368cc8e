/-
  FnLiteralText: types.StringLiteralToString.
-/
import Derived.Test.YtcohlcijgfdanaaDoorPde
namespace Go.Proofs.YtcohlcijgfdanaaDoor.lt
open Go.RowKit
open Go.Proofs.YtcohlcijgfdanaaDoor.u16 (mk)
open Go.Proofs.YtcohlcijgfdanaaDoor.wd (units encs Scal Bad decode64 decode64e bytes_at bytes_len units_len)

theorem trimAt (w1 : World) (v : Value) (t t' : ByteArray) (hS : Sl w1 v t) (ht : (bom t.data.toList = true ∧ t' = t.extract 3 t.size) ∨ (bom t.data.toList = false ∧ t' = t)) :
    Calls Tryd.prog 78 #[v, .slice (some ⟨w1.heap.size, 0, none⟩) 3 3] (w1.alloc (.cells #[.int .u8 239, .int .u8 187, .int .u8 191] 5)) fun e w2 => (∃ v', e = .returned v' ∧ Sl w2 v' t') ∧ Below w1.heap.size w1 w2 := by
  have hb : Below w1.heap.size w1 (w1.alloc (.cells #[.int .u8 239, .int .u8 187, .int .u8 191] 5)) := (Below.refl _ _).alloc (Nat.le_refl _) _
  have hS2 := hS.below hb
  refine (trim78 _ v t hS2 w1.heap.size (fun j hj => ?_)).mono ?_
  · have hj3 : j < 3 := hj
    match j, hj3 with
    | 0, _ => simp [go_sem]; rfl
    | 1, _ => simp [go_sem]; rfl
    | 2, _ => simp [go_sem]; rfl
  · rintro e w2 ⟨⟨v', rfl, h1, h2⟩, rfl⟩
    refine ⟨⟨v', rfl, ?_⟩, hb⟩
    rcases ht with ⟨a, rfl⟩ | ⟨a, rfl⟩
    · exact h1 a
    · rw [h2 a]; exact hS2

theorem value76 (s : ByteArray) (w : World) : Calls Tryd.prog 76 #[.string s] w fun e w' => e = .returned (.string s) ∧ w = w' := by
  go_enter Tryd.func76, Tryd.ntmps76
  go_wp2
  go_ret
  exact ⟨rfl, rfl⟩

set_option maxRecDepth 100000 in
set_option maxHeartbeats 4000000 in
theorem lit51BC (text : List UInt8) (h13 : ∀ c ∈ text, c ≠ 13) (hl : text.length ≤ 4096) (w : World) (hE : ErrSyn w) (hT : Lib.Utf8Tabs 0 1 w) (hP : PdfTab w) (t' X : ByteArray)
    (hbe : beq (unesc text) = false) (ht : (bom (unesc text) = true ∧ t' = (mkS (unesc text)).extract 3 (mkS (unesc text)).size) ∨ (bom (unesc text) = false ∧ t' = mkS (unesc text))) (hts : t'.size ≤ 10000)
    (hX1 : Lib.validD t'.data.toList = true → ctl t'.data.toList = false → X = t') (hX2 : (Lib.validD t'.data.toList = false ∨ ctl t'.data.toList = true) → X = mkS (docT t'.data.toList) ∧ ∀ b ∈ t'.data.toList, 0 ≤ dsg b.toNat) :
    Calls Tryd.prog 51 #[.string (mkS text)] w fun e w' => e = .returned (.tuple #[.string X, .nilIface]) ∧ Below w.heap.size w w' := by
  have C45 : Hid (Calls Tryd.prog 45 #[.string (mkS text)] w fun e w' => (∃ v, e = .returned (.tuple #[v, .nilIface]) ∧ Hid (Sl w' v (mkS (unesc text)))) ∧ Hid (Below w.heap.size w w')) := Lib.hid ((unescape45 text h13 hl w hE).mono fun e w' ⟨⟨v, h1, h2⟩, h3⟩ => ⟨⟨v, h1, Lib.hid (Sl.of_row h2)⟩, Lib.hid h3⟩)
  have C77 : Hid (∀ W v, Sl W v (mkS (unesc text)) → Calls Tryd.prog 77 #[v] W fun e w' => e = .returned (.bool false) ∧ W = w') := Lib.hid fun W v h => by
    have := is77 W v _ h
    rw [mkS_list, hbe] at this
    exact this
  have C78 : Hid (∀ w1 v, Sl w1 v (mkS (unesc text)) → Below w.heap.size w w1 → Calls Tryd.prog 78 #[v, .slice (some ⟨w1.heap.size, 0, none⟩) 3 3] (w1.alloc (.cells #[.int .u8 239, .int .u8 187, .int .u8 191] 5)) fun e w2 => (∃ v', e = .returned v' ∧ Hid (Sl w2 v' t')) ∧ Hid (Below w.heap.size w w2)) := Lib.hid fun w1 v h hb => (trimAt w1 v _ t' h (by rw [mkS_list]; exact ht)).mono fun e w2 ⟨⟨v', h1, h2⟩, h3⟩ => ⟨⟨v', h1, Lib.hid h2⟩, Lib.hid (hb.trans (h3.mono hb.size))⟩
  have C79 : Hid (∀ W v, Sl W v t' → Below w.heap.size w W → Calls Tryd.prog 79 #[v] W fun e w' => e = .returned (.bool (Lib.validD t'.data.toList)) ∧ Hid (Sl w' v t') ∧ Hid (Below w.heap.size w w')) := Lib.hid fun W v h hb => (validSl W v t' h (by omega) (Utf8Tabs_below hT hb)).mono fun e w' ⟨h1, h2⟩ => ⟨h1, Lib.hid (h.below h2), Lib.hid (hb.trans (h2.mono hb.size))⟩
  have C80 : Hid (∀ W v, Sl W v t' → Calls Tryd.prog 80 #[v] W fun e w' => e = .returned (.bool (ctl t'.data.toList)) ∧ W = w') := Lib.hid fun W v h => ctl80 W v t' h (by omega)
  have C81 : Hid (∀ W v, Sl W v t' → Below w.heap.size w W → (Lib.validD t'.data.toList = false ∨ ctl t'.data.toList = true) → Calls Tryd.prog 81 #[v] W fun e w' => e = .returned (.string X) ∧ Hid (Below w.heap.size w w')) := Lib.hid fun W v h hb hc => by
    obtain ⟨e1, e2⟩ := hX2 hc
    rw [e1]
    exact (decode81 W v t' h hts (hP.below hb) e2).mono fun e w' ⟨h1, h2⟩ => ⟨h1, Lib.hid (hb.trans (h2.mono hb.size))⟩
  have HX1 := Lib.hid hX1
  clear hX1 hX2 hbe ht hT hP hE h13 hl
  generalize mkS (unesc text) = t at *
  generalize mkS text = s at *
  generalize hv : Lib.validD t'.data.toList = V at *
  generalize hk : ctl t'.data.toList = K at *
  clear hv hk
  cases V
  · go_enter Tryd.func51, Tryd.ntmps51
    go_wp2_with (first
      | (go_at_call 76; refine (value76 _ _).mono ?_; rintro e w0 ⟨rfl, rfl⟩)
      | (go_at_call 45; refine C45.out.mono ?_; rintro e w1 ⟨⟨v, rfl, hS1⟩, hb1⟩)
      | (go_at_call 77; refine (C77.out _ _ hS1.out).mono ?_; rintro e w0 ⟨rfl, rfl⟩)
      | (go_at_call 78; refine (C78.out _ _ hS1.out hb1.out).mono ?_; rintro e w2 ⟨⟨v2, rfl, hS2⟩, hb2⟩)
      | (go_at_call 79; refine (C79.out _ _ hS2.out hb2.out).mono ?_; rintro e w3 ⟨rfl, hS3, hb3⟩)
      | (go_at_call 81; refine (C81.out _ _ hS3.out hb3.out (by simp)).mono ?_; rintro e w4 ⟨rfl, hb4⟩))
    exact bodyPost_ret (v := .tuple #[.string X, .nilIface]) (by simp [results, Tryd.results51, go_sem]) rfl ⟨rfl, hb4.out⟩
  · cases K
    · have hXt : X = t' := HX1.out (by simp) (by simp)
      subst hXt
      have HCV : Hid (∀ W v, Sl W v X → (convert 29 9 v).run Tryd.prog W = .ok (.string X) W) := Lib.hid fun W v h => conv_sl W v X h
      go_enter Tryd.func51, Tryd.ntmps51
      go_wp2_with (first
        | (go_at_call 76; refine (value76 _ _).mono ?_; rintro e w0 ⟨rfl, rfl⟩)
        | (go_at_call 45; refine C45.out.mono ?_; rintro e w1 ⟨⟨v, rfl, hS1⟩, hb1⟩)
        | (go_at_call 77; refine (C77.out _ _ hS1.out).mono ?_; rintro e w0 ⟨rfl, rfl⟩)
        | (go_at_call 78; refine (C78.out _ _ hS1.out hb1.out).mono ?_; rintro e w2 ⟨⟨v2, rfl, hS2⟩, hb2⟩)
        | (go_at_call 79; refine (C79.out _ _ hS2.out hb2.out).mono ?_; rintro e w3 ⟨rfl, hS3, hb3⟩)
        | (go_at_call 80; refine (C80.out _ _ hS3.out).mono ?_; rintro e w4 ⟨rfl, hw4⟩; subst hw4; have hcv := HCV.out _ _ hS3.out))
      exact bodyPost_ret (v := .tuple #[.string X, .nilIface]) (by simp [results, Tryd.results51, go_sem]) rfl ⟨rfl, hb3.out⟩
    · go_enter Tryd.func51, Tryd.ntmps51
      go_wp2_with (first
        | (go_at_call 76; refine (value76 _ _).mono ?_; rintro e w0 ⟨rfl, rfl⟩)
        | (go_at_call 45; refine C45.out.mono ?_; rintro e w1 ⟨⟨v, rfl, hS1⟩, hb1⟩)
        | (go_at_call 77; refine (C77.out _ _ hS1.out).mono ?_; rintro e w0 ⟨rfl, rfl⟩)
        | (go_at_call 78; refine (C78.out _ _ hS1.out hb1.out).mono ?_; rintro e w2 ⟨⟨v2, rfl, hS2⟩, hb2⟩)
        | (go_at_call 79; refine (C79.out _ _ hS2.out hb2.out).mono ?_; rintro e w3 ⟨rfl, hS3, hb3⟩)
        | (go_at_call 80; refine (C80.out _ _ hS3.out).mono ?_; rintro e w4 ⟨rfl, hw4⟩; subst hw4)
        | (go_at_call 81; refine (C81.out _ _ hS3.out hb3.out (by simp)).mono ?_; rintro e w5 ⟨rfl, hb5⟩))
      exact bodyPost_ret (v := .tuple #[.string X, .nilIface]) (by simp [results, Tryd.results51, go_sem]) rfl ⟨rfl, hb5.out⟩
end Go.Proofs.YtcohlcijgfdanaaDoor.lt
