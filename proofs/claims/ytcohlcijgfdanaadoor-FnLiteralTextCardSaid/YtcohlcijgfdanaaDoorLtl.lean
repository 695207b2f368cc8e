/-
  FnLiteralText: the law.
-/
import Derived.Test.YtcohlcijgfdanaaDoorLtx
import Derived.Test.YtcohlcijgfdanaaDoorOct3
namespace Go.Proofs.YtcohlcijgfdanaaDoor.lt
open Go.RowKit
open Go.Proofs.YtcohlcijgfdanaaDoor.u16 (mk)
open Go.Proofs.YtcohlcijgfdanaaDoor.wd (units encs Scal Bad edge18 edge18m mem_units)

theorem docT_id : ∀ u : List UInt8, (∀ b ∈ u, b.toNat ≤ 127) → ctl u = false → (∀ b ∈ u, 0 ≤ dsg b.toNat) → docT u = u
  | [], _, _, _ => rfl
  | b :: r, h1, h2, h3 => by
    have hr : docT r = r := docT_id r (fun c hc => h1 c (by simp [hc])) (by
      have := h2
      simp only [ctl, List.any_cons, Bool.or_eq_false_iff] at this
      exact this.2) (fun c hc => h3 c (by simp [hc]))
    have hb : ¬ (24 ≤ b.toNat ∧ b.toNat ≤ 31) := by
      have := h2
      simp only [ctl, List.any_cons, Bool.or_eq_false_iff] at this
      simpa using this.1
    have key : ∀ x : Fin 128, ¬ (24 ≤ x.val ∧ x.val ≤ 31) → 0 ≤ dsg x.val → Lib.encodeRune (dsg x.val) = [UInt8.ofNat x.val] := by decide +kernel
    have h := key ⟨b.toNat, by have := h1 b (by simp); omega⟩ hb (h3 b (by simp))
    simp only [UInt8.ofNat_toNat] at h
    show Lib.encodeRune (dsg b.toNat) ++ docT r = _
    rw [h, hr]
    rfl

theorem valid_bom (r : List UInt8) (h : Lib.validD (239 :: 187 :: 191 :: r) = true) : Lib.validD r = true := by
  have hl := Lib.validD_lead (239 :: 187 :: 191 :: r) (by simp) (by show 128 ≤ (239 : UInt8).toNat; decide)
  rw [h] at hl
  have e : Lib.checkN (239 :: 187 :: 191 :: r).length ((239 :: 187 :: 191 :: r : List UInt8).getD 1 0).toNat ((239 :: 187 :: 191 :: r : List UInt8).getD 2 0).toNat ((239 :: 187 :: 191 :: r : List UInt8).getD 3 0).toNat (Lib.firstT ((239 :: 187 :: 191 :: r : List UInt8).getD 0 0).toNat % 8) (Lib.accLo (Lib.firstT ((239 :: 187 :: 191 :: r : List UInt8).getD 0 0).toNat / 16)) (Lib.accHi (Lib.firstT ((239 :: 187 :: 191 :: r : List UInt8).getD 0 0).toNat / 16)) = some 3 := by
    have e1 : Lib.firstT ((239 :: 187 :: 191 :: r : List UInt8).getD 0 0).toNat = 3 := by
      show Lib.firstT (239 : UInt8).toNat = 3
      decide
    have e2 : ((239 :: 187 :: 191 :: r : List UInt8).getD 1 0).toNat = 187 := rfl
    have e3 : ((239 :: 187 :: 191 :: r : List UInt8).getD 2 0).toNat = 191 := rfl
    rw [e1, e2, e3]
    have e4 : Lib.accLo (3 / 16) = 128 := by decide
    have e5 : Lib.accHi (3 / 16) = 191 := by decide
    rw [e4, e5]
    simp [Lib.checkN]
  rw [e] at hl
  exact hl.symm

/-- The edge's answer, and what the library gives, where something is claimed. -/
theorem known27 (text : List UInt8) (h13 : ∀ c ∈ text, c ≠ 13) (hl : text.length ≤ 4096) (w : World) (hE : ErrSyn w) (hT : Lib.Utf8Tabs 0 1 w) (hP : PdfTab w) (x : ByteArray) (good : Bool)
    (h : (∃ cs bad, (mkS (unesc text)).data.toList = 254 :: 255 :: wd.bytes (units cs ++ bad) ∧ (∀ c ∈ cs, Scal c) ∧ (bad = [] ∨ Bad bad) ∧ (∀ u ∈ units cs ++ bad, u < 65536) ∧ (bad = [] → x = mkS (encs cs) ∧ good = true) ∧ (¬ bad = [] → good = false)) ∨
      (∃ r, (mkS (unesc text)).data.toList = 239 :: 187 :: 191 :: r ∧ good = true ∧ x = mkS r ∧ Lib.validD (mkS (unesc text)).data.toList = true ∧ ∀ b ∈ (mkS (unesc text)).data.toList, ¬ (24 ≤ b.toNat ∧ b.toNat ≤ 31)) ∨
      (mk (mkS (unesc text)).data.toList = false ∧ bom (mkS (unesc text)).data.toList = false ∧ good = true ∧ (Lib.validD (mkS (unesc text)).data.toList = true → ∀ b ∈ (mkS (unesc text)).data.toList, b.toNat ≤ 127) ∧ x = mkS (docT (mkS (unesc text)).data.toList) ∧ ∀ b ∈ (mkS (unesc text)).data.toList, 0 ≤ dsg b.toNat)) :
    ∃ P : Prop, Hid (∀ W, Calls Tryd.prog 18 #[.string (mkS (unesc text))] W fun e w' => (∃ b, e = .returned (.bool b) ∧ Hid (b = false → P)) ∧ Hid (Below W.heap.size W w')) ∧
      Hid (P → ∀ W, Below w.heap.size w W → Calls Tryd.prog 27 #[.string (mkS text)] W fun e w' => (∃ z ok, e = .returned (.tuple #[.string z, .bool ok]) ∧ Hid ((good = true → ok = true ∧ z = x) ∧ (good = false → ok = false))) ∧ Hid (Below W.heap.size W w')) := by
  have hul : (unesc text).length ≤ 4096 := Nat.le_trans (unesc_le _ _) hl
  have hsz : (mkS (unesc text)).size ≤ 10000 := by rw [mkS_size]; omega
  have hEd : mk (unesc text) = false → ∃ P : Prop, P ∧ Hid (∀ W, Calls Tryd.prog 18 #[.string (mkS (unesc text))] W fun e w' => (∃ b, e = .returned (.bool b) ∧ Hid (b = false → P)) ∧ Hid (Below W.heap.size W w')) := fun hm => ⟨True, trivial, Lib.hid fun W => (edge18 _ (by rw [mkS_list]; exact hm) W).mono fun e w' ⟨h1, h2⟩ => ⟨⟨_, h1, Lib.hid fun _ => trivial⟩, Lib.hid h2⟩⟩
  have hEv : ∀ X : ByteArray, ∀ y err, (y = X ∧ err = Value.nilIface) → Erv err := fun X y err h => .inl h.2
  rw [mkS_list] at h
  rcases h with ⟨cs, bad, hu, hcs, hbad, hlt, hg, hng⟩ | ⟨r, hu, hg, hx, hv, hc⟩ | ⟨hm, hb, hg, hv, hx, hd⟩
  · refine ⟨¬ 57344 ∈ units cs ++ bad, Lib.hid fun W => (edge18m (units cs ++ bad) hlt (mkS (unesc text)) (by rw [mkS_list]; exact hu) hsz W).mono fun e w' ⟨⟨b, h1, h2⟩, h3⟩ => ⟨⟨b, h1, Lib.hid h2⟩, Lib.hid h3⟩, Lib.hid fun hno W hb => ?_⟩
    have h57 : ¬ 57344 ∈ cs := fun h => hno (List.mem_append_left _ (mem_units _ (by omega) cs h))
    refine (lit27 (mkS text) (AR cs bad) (fun y err h => ?_) W fun W' hb' => lit51A text h13 hl W' ((hE.on hb).on hb') cs bad hu hcs h57 hbad hlt (by omega)).mono ?_
    · by_cases he : bad = []
      · exact .inl (h.1 he).2
      · exact .inr (h.2 he)
    · rintro e w' ⟨⟨y, err, z, ok, hR, rfl, h4⟩, h5⟩
      refine ⟨⟨z, ok, rfl, Lib.hid ⟨fun g => ?_, fun g => ?_⟩⟩, Lib.hid h5⟩
      · have he : bad = [] := by
          by_cases he : bad = []
          · exact he
          · rw [hng he] at g; cases g
        obtain ⟨r1, r2⟩ := hR.1 he
        rcases h4 with ⟨h6, h7, h8⟩ | ⟨⟨p, h6⟩, h7⟩
        · exact ⟨h8, by rw [h7, r1, (hg he).1]⟩
        · rw [r2] at h6; cases h6
      · have he : ¬ bad = [] := fun he => by rw [(hg he).2] at g; cases g
        obtain ⟨p, r1⟩ := hR.2 he
        rcases h4 with ⟨h6, h7, h8⟩ | ⟨⟨p, h6⟩, h7⟩
        · rw [r1] at h6; cases h6
        · exact h7
  · obtain ⟨P, hPP, hEd⟩ := hEd (by rw [hu]; rfl)
    have ht' : (mkS (unesc text)).extract 3 (mkS (unesc text)).size = mkS r := by
      rw [ext_mkS _ _ (mkS_list _) 3, hu]
      rfl
    have hvr : Lib.validD r = true := valid_bom r (by rw [← hu]; exact hv)
    have hcr : ctl r = false := by
      unfold ctl
      refine List.any_eq_false.2 fun b hb => ?_
      have := hc b (by rw [hu]; simp [hb])
      simpa using this
    have hrl : r.length ≤ 4096 := by
      have := congrArg List.length hu
      simp only [List.length_cons] at this
      omega
    refine ⟨P, hEd, Lib.hid fun _ W hb => ?_⟩
    refine (lit27 (mkS text) (fun y err => y = mkS r ∧ err = .nilIface) (hEv _) W fun W' hb' => (lit51BC text h13 hl W' ((hE.on hb).on hb') (Utf8Tabs_below (Utf8Tabs_below hT hb) hb') ((hP.below hb).below hb') (mkS r) (mkS r) (by rw [hu]; unfold beq; rw [show mk (239 :: 187 :: 191 :: r) = false from rfl, Bool.and_false]) (.inl ⟨by rw [hu]; rfl, ht'.symm⟩) (by rw [mkS_size]; omega) (fun _ _ => rfl) (fun h => by
        rw [mkS_list, hvr, hcr] at h
        rcases h with h | h <;> cases h)).mono fun e w' ⟨h1, h2⟩ => ⟨⟨_, _, h1, rfl, rfl⟩, h2⟩).mono ?_
    rintro e w' ⟨⟨y, err, z, ok, ⟨rfl, rfl⟩, rfl, h4⟩, h5⟩
    refine ⟨⟨z, ok, rfl, Lib.hid ⟨fun _ => ?_, fun g => ?_⟩⟩, Lib.hid h5⟩
    · rcases h4 with ⟨h6, h7, h8⟩ | ⟨⟨p, h6⟩, h7⟩
      · exact ⟨h8, by rw [h7, hx]⟩
      · cases h6
    · rw [hg] at g; cases g
  · obtain ⟨P, hPP, hEd⟩ := hEd hm
    refine ⟨P, hEd, Lib.hid fun _ W hb' => ?_⟩
    refine (lit27 (mkS text) (fun y err => y = mkS (docT (unesc text)) ∧ err = .nilIface) (hEv _) W fun W' hb'' => (lit51BC text h13 hl W' ((hE.on hb').on hb'') (Utf8Tabs_below (Utf8Tabs_below hT hb') hb'') ((hP.below hb').below hb'') (mkS (unesc text)) (mkS (docT (unesc text))) (by unfold beq; rw [hm, Bool.and_false]) (.inr ⟨hb, rfl⟩) hsz (fun h1 h2 => by
        rw [mkS_list] at h1 h2
        rw [docT_id _ (hv h1) h2 hd]) (fun _ => by rw [mkS_list]; exact ⟨rfl, hd⟩)).mono fun e w' ⟨h1, h2⟩ => ⟨⟨_, _, h1, rfl, rfl⟩, h2⟩).mono ?_
    rintro e w' ⟨⟨y, err, z, ok, ⟨rfl, rfl⟩, rfl, h4⟩, h5⟩
    refine ⟨⟨z, ok, rfl, Lib.hid ⟨fun _ => ?_, fun g => ?_⟩⟩, Lib.hid h5⟩
    · rcases h4 with ⟨h6, h7, h8⟩ | ⟨⟨p, h6⟩, h7⟩
      · exact ⟨h8, by rw [h7, hx]⟩
      · cases h6
    · rw [hg] at g; cases g

set_option maxRecDepth 100000 in
set_option maxHeartbeats 4000000 in
theorem law8 (s : ByteArray) (w : World) (hT : Lib.Utf8Tabs 0 1 w) (hE : ErrSyn w) (hP : PdfTab w) : Calls Tryd.prog 8 #[.string s] w fun e w' => e = .returned (.bool true) ∧ Below w.heap.size w w' := by
  have cW := Lib.hid Go.Proofs.YtcohlcijgfdanaaDoor.u16.widens
  by_cases hs : (2147483647 : Int) < (s.size : Int)
  · clear hT hE hP
    go_enter Tryd.func8, Tryd.ntmps8
    go_wp2_with fail
    go_ret
    exact ⟨rfl, Below.refl _ _⟩
  by_cases h4 : (4096 : Int) < (s.size : Int)
  · clear hT hE hP
    go_enter Tryd.func8, Tryd.ntmps8
    go_wp2_with (go_at_call 16; refine (cW.out _).mono ?_; rintro e w3 ⟨rfl, hb3⟩)
    go_ret
    exact ⟨rfl, hb3⟩
  have h4n : s.size ≤ 4096 := by omega
  have c25 : Hid (∀ W, Calls Tryd.prog 25 #[.string s, .int .u8 13] W fun e w' => e = .returned (.bool (decide ((13 : UInt8) ∈ s.data.toList))) ∧ W = w') := Lib.hid fun W => byteIn25 s (by omega) 13 W
  by_cases h13 : (13 : UInt8) ∈ s.data.toList
  · rw [decide_eq_true h13] at c25
    clear hT hE hP h13 h4n
    go_enter Tryd.func8, Tryd.ntmps8
    go_wp2_with (first
      | (go_at_call 25; refine (c25.out _).mono ?_; rintro e w1 ⟨rfl, rfl⟩)
      | (go_at_call 16; refine (cW.out _).mono ?_; rintro e w3 ⟨rfl, hb3⟩))
    go_ret
    exact ⟨rfl, hb3⟩
  rw [decide_eq_false h13] at c25
  obtain ⟨text, ht⟩ : ∃ text, s.data.toList = text := ⟨_, rfl⟩
  have hst : s = mkS text := by
    apply ByteArray.ext
    apply Array.toList_inj.1
    rw [ht, mkS_list]
  have hl : text.length ≤ 4096 := by rw [← ht, ← Lib.size_eq]; exact h4n
  have h13' : ∀ c ∈ text, c ≠ 13 := fun c hc e => h13 (by rw [ht, ← e]; exact hc)
  have c23 : Hid (Calls Tryd.prog 23 #[.string s] w fun e w' => (∃ (s' : ByteArray) (is : Bool), e = .returned (.tuple #[.string s', .bool is]) ∧ Hid (s'.size ≤ 10000) ∧ Hid (is = true → s' = mkS (unesc text))) ∧ Hid (Below w.heap.size w w')) := Lib.hid (by
    rw [hst]
    exact (literal23 text h13' hl w).mono fun e w' ⟨⟨s', is, h1, h2, h3⟩, h4⟩ => ⟨⟨s', is, h1, Lib.hid h2, Lib.hid h3⟩, Lib.hid h4⟩)
  have c26 : Hid (∀ s' W, Hid (s'.size ≤ 10000) → Hid (Below w.heap.size w W) → Calls Tryd.prog 26 #[.string s'] W fun e w' => TextR s' e ∧ Hid (Below w.heap.size w w')) := Lib.hid fun s' W h1 hb => (textOf26 s' h1.out W (Utf8Tabs_below hT hb.out)).mono fun e w' ⟨h2, h3⟩ => ⟨h2, Lib.hid (hb.out.trans (h3.mono hb.out.size))⟩
  have cK : Hid (∀ s' x good, s' = mkS (unesc text) → _ → _) := Lib.hid fun s' x good hs' h => by
    have := known27 text h13' hl w hE hT hP x good
    rw [← hs', ← hst] at this
    exact this h
  have cW2 : Hid (∀ W, Hid (Below w.heap.size w W) → Calls Tryd.prog 16 #[] W fun e w' => e = .returned (.bool true) ∧ Hid (Below w.heap.size w w')) := Lib.hid fun W hb => (cW.out W).mono fun e w' ⟨h1, h2⟩ => ⟨h1, Lib.hid (hb.out.trans (h2.mono hb.out.size))⟩
  clear hT hE hP h13 h13' hst hl ht cW h4n
  go_enter Tryd.func8, Tryd.ntmps8
  go_wp2_with (first
    | (go_at_call 25; refine (c25.out _).mono ?_; rintro e w1 ⟨rfl, rfl⟩)
    | (go_at_call 23; refine c23.out.mono ?_; rintro e w1 ⟨⟨s', is, rfl, hz, hi⟩, hb1⟩)
    | (go_at_call 26; refine (c26.out _ _ hz hb1).mono ?_; rintro e w2 ⟨⟨x, good, known, rfl, hK⟩, hb2⟩; refine Hid.out ?_))
  refine Lib.hid ?_
  have HK := Lib.hid hK
  clear hK
  cases is
  · go_wp2_with (go_at_call 16; refine (cW2.out _ hb2).mono ?_; rintro e w3 ⟨rfl, hb3⟩)
    go_ret
    exact ⟨rfl, hb3.out⟩
  cases known
  · go_wp2_with (go_at_call 16; refine (cW2.out _ hb2).mono ?_; rintro e w3 ⟨rfl, hb3⟩)
    go_ret
    exact ⟨rfl, hb3.out⟩
  obtain ⟨P, c18, c27⟩ := cK.out s' x good (hi.out rfl) (HK.out rfl)
  clear HK hi cK c23 c26
  go_wp2_with (go_at_call 18; refine (c18.out _).mono ?_; rintro e w3 ⟨⟨b, rfl, hbP⟩, hb3⟩; refine Hid.out ?_)
  refine Lib.hid ?_
  have hb3' : Hid (Below w.heap.size w w3) := Lib.hid (hb2.out.trans (hb3.out.mono hb2.out.size))
  cases b
  · have c27' := Lib.hid (c27.out (hbP.out rfl))
    clear c27 hbP c18
    go_wp2_with (go_at_call 27; refine (c27'.out _ hb3'.out).mono ?_; rintro e w4 ⟨⟨z, ok, rfl, hzo⟩, hb4⟩; refine Hid.out ?_)
    refine Lib.hid ?_
    have hb4' : Hid (Below w.heap.size w w4) := Lib.hid (hb3'.out.trans (hb4.out.mono hb3'.out.size))
    cases good
    · obtain rfl := hzo.out.2 rfl
      clear hzo
      go_wp2_with (go_at_call 16; refine (cW2.out _ hb4').mono ?_; rintro e w5 ⟨rfl, hb5⟩)
      go_ret
      exact ⟨rfl, hb5.out⟩
    · obtain ⟨rfl, rfl⟩ := hzo.out.1 rfl
      clear hzo
      go_wp2_with (go_at_call 16; refine (cW2.out _ hb4').mono ?_; rintro e w5 ⟨rfl, hb5⟩)
      go_ret
      exact ⟨rfl, hb5.out⟩
  · go_wp2_with (go_at_call 16; refine (cW2.out _ hb3').mono ?_; rintro e w4 ⟨rfl, hb4⟩)
    go_ret
    exact ⟨rfl, hb4.out⟩
end Go.Proofs.YtcohlcijgfdanaaDoor.lt

namespace Go.Proofs.YtcohlcijgfdanaaDoor
open Go.RowKit
def fnLiteralTextTab (w : World) : Prop := Lib.Utf8Tabs 0 1 w ∧ ErrSyn w ∧ lt.PdfTab w
theorem fnLiteralText_tab {W : World} (h : laidMetH Tryd.prog Rows.fnLiteralTextRow.laid W) : fnLiteralTextTab W := by
  have h : laidMet Tryd.prog Rows.fnLiteralTextRow.laid W := h
  have e3 : Rows.laid_unicode_utf8_first = Lib.firstData := by kernel_rfl
  have e4 : Rows.laid_unicode_utf8_acceptRanges = Lib.acceptData := by kernel_rfl
  have m3 : Lib.VarReads Tryd.prog W "unicode/utf8.first" Rows.laid_unicode_utf8_first := Lib.laidMet.reads h (.tail _ (.tail _ (.tail _ (.tail _ (.tail _ (.tail _ (.tail _ (.tail _ (.tail _ (.head _))))))))))
  have m4 : Lib.VarReads Tryd.prog W "unicode/utf8.acceptRanges" Rows.laid_unicode_utf8_acceptRanges := Lib.laidMet.reads h (.tail _ (.tail _ (.tail _ (.head _))))
  have m5 : Lib.VarReads Tryd.prog W "given.example/pub-foolscap/pub/pdfcpu/pkg/pdfcpu/types.pdfDocEncoding" lt.DD := Lib.laidMet.reads h (.tail _ (.tail _ (.tail _ (.tail _ (.tail _ (.tail _ (.tail _ (.head _))))))))
  rw [e3] at m3
  rw [e4] at m4
  refine ⟨utf8Tabs_of_readsT (U8Types.of196 Tryd.lays196) ⟨by kernel_rfl, by kernel_rfl, by kernel_rfl, by kernel_rfl, by kernel_rfl, by kernel_rfl, by kernel_rfl⟩ m3 m4, ?_, lt.pdfTab_of m5⟩
  obtain ⟨a, s, hv, _⟩ := laid_sentinel (tp := 101) (te := 103) (ts := 9) h.tail.tail.tail.tail.tail gSyn (by kernel_rfl) Tryd.underlying37 errTypes Tryd.underlying101 Tryd.underlying103 (by kernel_rfl) (by kernel_rfl) Tryd.underlying9 (by kernel_rfl) (by kernel_rfl)
  exact ⟨_, by simpa using World.var?_cell gSyn hv 0, Or.inr ⟨_, _, rfl⟩⟩
theorem fnLiteralText_walk (s : ByteArray) (w : World) (h : fnLiteralTextTab w) (_ : s.size ≤ maxLen) :
    Calls Tryd.prog 8 #[.string s] w fun e w' => e = .returned (.bool true) ∧ Below w.heap.size w w' := lt.law8 s w h.1 h.2.1 h.2.2
end Go.Proofs.YtcohlcijgfdanaaDoor
