/-
  FnLiteralText: spec.TextOf.
-/
import Derived.Test.YtcohlcijgfdanaaDoorDot
import Derived.Deep.RegionWith
namespace Go.Proofs.YtcohlcijgfdanaaDoor.lt
open Go.RowKit
open Go.Proofs.YtcohlcijgfdanaaDoor.u16 (mk marked)
open Go.Proofs.YtcohlcijgfdanaaDoor.wd (unitsOf unitsOf_lt bytes_unitsOf split_units narr narrow46 narrow46_no units encs Scal Bad)

/-- The mark of UTF-8. -/
def bom (l : List UInt8) : Bool := match l with
  | a :: b :: c :: _ => a == 239 && b == 187 && c == 191
  | _ => false

theorem bom_split (l : List UInt8) (h : bom l = true) : ∃ r, l = 239 :: 187 :: 191 :: r := by
  match l, h with
  | a :: b :: c :: r, h =>
    simp [bom] at h
    exact ⟨r, by rw [h.1.1, h.1.2, h.2]⟩

theorem mk_split (l : List UInt8) (h : mk l = true) (he : l.length % 2 = 0) : ∃ cs bad, l = 254 :: 255 :: wd.bytes (units cs ++ bad) ∧ (∀ c ∈ cs, Scal c) ∧ (bad = [] ∨ Bad bad) ∧ ∀ u ∈ units cs ++ bad, u < 65536 := by
  match l, h, he with
  | a :: b :: r, h, he =>
    simp [mk] at h
    obtain ⟨cs, bad, e, h1, h2⟩ := split_units _ (unitsOf r) (Nat.le_refl _) (unitsOf_lt r)
    refine ⟨cs, bad, ?_, h1, h2, by rw [← e]; exact unitsOf_lt r⟩
    rw [← e, bytes_unitsOf r (by simp only [List.length_cons] at he; omega), h.1, h.2]

/-- What is claimed of TextOf's answer. -/
def TextR (s : ByteArray) (e : Ending) : Prop := ∃ (x : ByteArray) (is known : Bool), e = .returned (.tuple #[.string x, .bool is, .bool known]) ∧ (known = true →
  (∃ cs bad, s.data.toList = 254 :: 255 :: wd.bytes (units cs ++ bad) ∧ (∀ c ∈ cs, Scal c) ∧ (bad = [] ∨ Bad bad) ∧ (∀ u ∈ units cs ++ bad, u < 65536) ∧ (bad = [] → x = mkS (encs cs) ∧ is = true) ∧ (¬ bad = [] → is = false)) ∨
  (∃ r, s.data.toList = 239 :: 187 :: 191 :: r ∧ is = true ∧ x = mkS r ∧ Lib.validD s.data.toList = true ∧ ∀ b ∈ s.data.toList, ¬ (24 ≤ b.toNat ∧ b.toNat ≤ 31)) ∨
  (mk s.data.toList = false ∧ bom s.data.toList = false ∧ is = true ∧ (Lib.validD s.data.toList = true → ∀ b ∈ s.data.toList, b.toNat ≤ 127) ∧ x = mkS (docT s.data.toList) ∧ ∀ b ∈ s.data.toList, 0 ≤ dsg b.toNat))

theorem ext3 (s : ByteArray) : (s.extract 0 3).data.toList = s.data.toList.take 3 := by
  rw [Lib.extract_data]
  simp
theorem ext_mkS (s : ByteArray) (l : List UInt8) (h : s.data.toList = l) (k : Nat) : s.extract k s.size = mkS (l.drop k) := by
  apply ByteArray.ext
  apply Array.toList_inj.1
  rw [Lib.ext_list, h, mkS_list]

theorem bom_eq (s : ByteArray) (h3 : 3 ≤ s.size) : ((s.extract 0 3).toList == ([239, 187, 191] : List UInt8)) = bom s.data.toList := by
  rw [ByteArray.toList_eq, ext3]
  rw [Lib.size_eq] at h3
  generalize s.data.toList = l at *
  match l, h3 with
  | a :: b :: c :: r, _ =>
    simp only [bom, List.take_succ_cons, List.take_zero]
    rw [Bool.eq_iff_iff]
    simp [and_assoc]

set_option maxRecDepth 100000 in
set_option maxHeartbeats 4000000 in
theorem textOf26 (s : ByteArray) (hs : s.size ≤ 10000) (w : World) (hT : Lib.Utf8Tabs 0 1 w) : Calls Tryd.prog 26 #[.string s] w fun e w' => TextR s e ∧ Below w.heap.size w w' := by
  have HM := Lib.hid (marked s)
  have HV : Hid (∀ W, Below w.heap.size w W → Calls Tryd.prog 35 #[.string s] W fun e w' => e = .returned (.bool (Lib.validD s.data.toList)) ∧ Below w.heap.size w w') := Lib.hid fun W hb => (Tryd.utf8_ValidString s W (by omega) (Utf8Tabs_below hT hb)).mono fun e w' h => ⟨h.1, hb.trans (h.2.mono hb.size)⟩
  clear hT
  cases hm : mk s.data.toList
  · rw [hm] at HM
    have HC := Lib.hid fun W => clean47 s hs W
    have HA := Lib.hid fun W => ascii48 s hs W
    have HD := Lib.hid fun W => docText49 s hs W
    cases hb : bom s.data.toList
    · have hbom : (¬ (3 : Int) ≤ (s.size : Int)) ∨ ((3 : Int) ≤ (s.size : Int) ∧ ((s.extract 0 3).toList == ([239, 187, 191] : List UInt8)) = false) := by
        by_cases h3 : 3 ≤ s.size
        · exact .inr ⟨by omega, by rw [bom_eq s h3, hb]⟩
        · exact .inl (by omega)
      have hfin : Hid (∀ (W : World) (e : Ending), (Lib.validD s.data.toList = true → ∀ b ∈ s.data.toList, b.toNat ≤ 127) → DocR s e → ∃ x ok, e = .returned (.tuple #[.string x, .bool ok]) ∧ (∀ W', Below w.heap.size w W' → TextR s (.returned (.tuple #[.string x, .bool ok, .bool ok])) ∧ Below w.heap.size w W')) := Lib.hid (by
        rintro W e h1 ⟨x, ok, rfl, h2⟩
        refine ⟨x, ok, rfl, fun W' hW' => ⟨⟨x, ok, ok, rfl, fun hk => .inr (.inr ⟨hm, hb, hk, h1, (h2 hk).1, (h2 hk).2⟩)⟩, hW'⟩⟩)
      have hasc : (s.data.toList.all fun b => decide (b.toNat ≤ 127)) = true → ∀ b ∈ s.data.toList, b.toNat ≤ 127 := fun h b hb => by simpa using List.all_eq_true.1 h b hb
      have HASC := Lib.hid hasc
      clear hasc hm hb
      generalize hall : (s.data.toList.all fun b => decide (b.toNat ≤ 127)) = al at *
      generalize hval : Lib.validD s.data.toList = vl at *
      clear hall hval
      rcases hbom with h3 | ⟨h3, h4⟩
      all_goals
        cases vl
        · go_enter Tryd.func26, Tryd.ntmps26
          go_wp2_with (first
            | (go_at_call 15; refine (HM.out _).mono ?_; rintro e w0 ⟨rfl, rfl⟩)
            | (go_at_call 35; refine (HV.out _ (Below.refl _ _)).mono ?_; rintro e w1 ⟨rfl, hb1⟩; replace hb1 := Lib.hid hb1)
            | (go_at_call 49; refine (HD.out _).mono ?_; rintro e w2 ⟨hd, hb2⟩; obtain ⟨x, ok, rfl, hfx⟩ := hfin.out w2 e (fun h => by cases h) hd; replace hb2 := Lib.hid hb2; replace hfx := Lib.hid hfx))
          exact bodyPost_ret (v := .tuple #[.string x, .bool ok, .bool ok]) (by simp [results, Tryd.results26, go_sem]) rfl (hfx.out _ (hb1.out.trans (hb2.out.mono hb1.out.size)))
        · cases al
          · go_enter Tryd.func26, Tryd.ntmps26
            go_wp2_with (first
              | (go_at_call 15; refine (HM.out _).mono ?_; rintro e w0 ⟨rfl, rfl⟩)
              | (go_at_call 35; refine (HV.out _ (Below.refl _ _)).mono ?_; rintro e w1 ⟨rfl, hb1⟩; replace hb1 := Lib.hid hb1)
              | (go_at_call 48; refine (HA.out _).mono ?_; rintro e w2 ⟨rfl, rfl⟩))
            exact bodyPost_ret (v := .tuple #[.string ⟨#[]⟩, .bool false, .bool false]) (by simp [results, Tryd.results26, go_sem]) rfl ⟨⟨_, _, _, rfl, fun h => by cases h⟩, hb1.out⟩
          · go_enter Tryd.func26, Tryd.ntmps26
            go_wp2_with (first
              | (go_at_call 15; refine (HM.out _).mono ?_; rintro e w0 ⟨rfl, rfl⟩)
              | (go_at_call 35; refine (HV.out _ (Below.refl _ _)).mono ?_; rintro e w1 ⟨rfl, hb1⟩; replace hb1 := Lib.hid hb1)
              | (go_at_call 48; refine (HA.out _).mono ?_; rintro e w2 ⟨rfl, rfl⟩)
              | (go_at_call 49; refine (HD.out _).mono ?_; rintro e w2 ⟨hd, hb2⟩; obtain ⟨x, ok, rfl, hfx⟩ := hfin.out w2 e (fun _ => HASC.out (by trivial)) hd; replace hb2 := Lib.hid hb2; replace hfx := Lib.hid hfx))
            exact bodyPost_ret (v := .tuple #[.string x, .bool ok, .bool ok]) (by simp [results, Tryd.results26, go_sem]) rfl (hfx.out _ (hb1.out.trans (hb2.out.mono hb1.out.size)))
    · obtain ⟨r, hr⟩ := bom_split _ hb
      have h3n : 3 ≤ s.size := by rw [Lib.size_eq, hr]; simp
      have h3 : (3 : Int) ≤ (s.size : Int) := by omega
      have h4 : ((s.extract 0 3).toList == ([239, 187, 191] : List UInt8)) = true := by rw [bom_eq s h3n, hb]
      have h5 := ext_mkS s _ hr 3
      rw [show (239 :: 187 :: 191 :: r).drop 3 = r from rfl] at h5
      have H5 := Lib.hid h5
      cases hval : Lib.validD s.data.toList
      · rw [hval] at HV
        clear hm hb hval h5 hr h3n
        go_enter Tryd.func26, Tryd.ntmps26
        go_wp2_with (go_at_call 15; refine (HM.out _).mono ?_; rintro e w0 ⟨rfl, rfl⟩)
        first | go_region_with (go_at_call 35; refine (HV.out _ (by repeat' (first | exact Below.refl _ _ | assumption | refine Below.drew ?_))).mono ?_; rintro e w1 ⟨rfl, hb1⟩) | fail
        all_goals
          go_wp2_with fail
          exact bodyPost_ret (v := .tuple #[.string (s.extract 3 s.size), .bool true, .bool false]) (by simp [results, Tryd.results26, go_sem]) rfl ⟨⟨_, _, _, rfl, fun h => by cases h⟩, by repeat' (first | exact Below.refl _ _ | assumption | refine Below.drew ?_)⟩
      · have HFIN : Hid (∀ (e : Ending) (W : World), CleanR s e → ∃ ok, e = .returned (.bool ok) ∧ (Below w.heap.size w W → TextR s (.returned (.tuple #[.string (s.extract 3 s.size), .bool true, .bool ok])) ∧ Below w.heap.size w W)) := Lib.hid (by
          rintro e W ⟨ok, rfl, h1⟩
          exact ⟨ok, rfl, fun hW => ⟨⟨_, _, _, rfl, fun hk => .inr (.inl ⟨r, hr, rfl, h5, hval, h1 hk⟩)⟩, hW⟩⟩)
        rw [hval] at HV
        clear hm hb hval h5 hr h3n
        go_enter Tryd.func26, Tryd.ntmps26
        go_wp2_with (go_at_call 15; refine (HM.out _).mono ?_; rintro e w0 ⟨rfl, rfl⟩)
        first | go_region_with (first
          | (go_at_call 35; refine (HV.out _ (by repeat' (first | exact Below.refl _ _ | assumption | refine Below.drew ?_))).mono ?_; rintro e w1 ⟨rfl, hb1⟩)
          | (go_at_call 47; refine (HC.out _).mono ?_; rintro e w2 ⟨hcl, hw2⟩; obtain ⟨ok, rfl, hf⟩ := HFIN.out e w2 hcl; clear hcl; subst hw2; replace hf := Lib.hid hf)) | fail
        all_goals
          go_wp2_with fail
          exact bodyPost_ret (v := .tuple #[.string (s.extract 3 s.size), .bool true, .bool ok]) (by simp [results, Tryd.results26, go_sem]) rfl (hf.out (by repeat' (first | exact Below.refl _ _ | assumption | refine Below.drew ?_)))
  · cases he : decide ((s.size : Int) % 2 = 1)
    · have hev : ¬ (s.size : Int) % 2 = 1 := by simpa using he
      obtain ⟨cs, bad, hl, h1, h2, h3⟩ := mk_split _ hm (by rw [← Lib.size_eq]; omega)
      have HN := Lib.hid fun W => narrow46 cs bad h1 h2 h3 s hl hs W
      have HFIN : Hid (∃ x is, narr cs bad = #[.string x, .bool is] ∧ ∀ k W, Below w.heap.size w W → TextR s (.returned (.tuple #[.string x, .bool is, .bool k])) ∧ Below w.heap.size w W) := Lib.hid (by
        unfold narr
        by_cases hb : bad = []
        · rw [if_pos hb]
          exact ⟨_, _, rfl, fun k W hW => ⟨⟨_, _, _, rfl, fun _ => .inl ⟨cs, bad, hl, h1, h2, h3, fun _ => ⟨rfl, rfl⟩, fun h => absurd hb h⟩⟩, hW⟩⟩
        · rw [if_neg hb]
          exact ⟨_, _, rfl, fun k W hW => ⟨⟨_, _, _, rfl, fun _ => .inl ⟨cs, bad, hl, h1, h2, h3, fun h => absurd h hb, fun _ => rfl⟩⟩, hW⟩⟩)
      rw [hm] at HM
      obtain ⟨x, is, hn, hf⟩ := HFIN.out
      rw [hn] at HN
      have HF := Lib.hid hf
      clear HFIN hn hf h1 h2 h3 hl he hm
      go_enter Tryd.func26, Tryd.ntmps26
      go_wp2_with (first
        | (go_at_call 15; refine (HM.out _).mono ?_; rintro e w0 ⟨rfl, rfl⟩)
        | (go_at_call 46; refine (HN.out _).mono ?_; rintro e w1 ⟨rfl, hb1⟩; replace hb1 := Lib.hid hb1))
      exact bodyPost_ret (v := .tuple #[.string x, .bool is, .bool ((s.size : Int) % 2 == 0)]) (by simp [results, Tryd.results26, go_sem]) rfl (HF.out _ _ hb1.out)
    · have hod : (s.size : Int) % 2 = 1 := by simpa using he
      have HN := Lib.hid fun W => narrow46_no s (.inr ⟨hm, hod⟩) W
      have hk : ((s.size : Int) % 2 == 0) = false := by rw [hod]; rfl
      rw [hm] at HM
      clear hm he
      go_enter Tryd.func26, Tryd.ntmps26
      go_wp2_with (first
        | (go_at_call 15; refine (HM.out _).mono ?_; rintro e w0 ⟨rfl, rfl⟩)
        | (go_at_call 46; refine (HN.out _).mono ?_; rintro e w1 ⟨rfl, rfl⟩))
      exact bodyPost_ret (v := .tuple #[.string ⟨#[]⟩, .bool false, .bool false]) (by simp [results, Tryd.results26, go_sem]) rfl ⟨⟨_, _, _, rfl, fun h => by cases h⟩, Below.refl _ _⟩
end Go.Proofs.YtcohlcijgfdanaaDoor.lt
