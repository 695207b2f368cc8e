/-
  FnLiteralText: the reader of literal strings, at every text without carriage returns.
-/
import Derived.Test.YtcohlcijgfdanaaDoorLie
namespace Go.Proofs.YtcohlcijgfdanaaDoor.lt
open Go.RowKit
open Go.Proofs.YtcohlcijgfdanaaDoor.esc (RS atOf atOf_eq infoByte)

theorem cell_one (W : World) (x : Value) (t : TypeId) (k : Nat) (hk : k = W.heap.size) : ∀ j u, [x][j]? = some u → (W.alloc (.cells #[x] t)).cell? ((⟨k, 0, none⟩ : Addr).add j) = some u := by
  subst hk
  intro j u hj
  match j, hj with
  | 0, hj => simp at hj; subst hj; simp [Addr.add]
  | (j + 1), hj => simp at hj

theorem drop_text (text : List UInt8) (pre suf : List UInt8) (h : text = pre ++ suf) (k : Nat) : (40 :: (text ++ [41])).drop (1 + pre.length + k) = (suf ++ [41]).drop k := by
  rw [h, show 1 + pre.length + k = (pre.length + k) + 1 by omega, List.drop_succ_cons, ← List.drop_drop, List.append_assoc, List.drop_left]
theorem get_text (text : List UInt8) (pre suf : List UInt8) (h : text = pre ++ suf) (k : Nat) : (40 :: (text ++ [41]))[1 + pre.length + k]? = (suf ++ [41])[k]? := by
  rw [h, show 1 + pre.length + k = (pre.length + k) + 1 by omega, List.getElem?_cons_succ, List.append_assoc, List.getElem?_append_right (by omega)]
  congr 1
  omega

set_option maxHeartbeats 16000000 in
set_option maxRecDepth 100000 in
theorem literal44 (text : List UInt8) (h13 : ∀ c ∈ text, c ≠ 13) (hl : text.length ≤ 4096) (g : Nat) (T : ByteArray) (hT : T.data.toList = 40 :: (text ++ [41])) (w : World) (hS0 : LS g T 0 (.slice none 0 0) [] w w) :
    Calls Tryd.prog 44 #[.pointer (some ⟨g, 0, none⟩)] w fun e w' => ∃ (s' : ByteArray) (n' bad : Int), e = .returned (.string s') ∧ s'.size ≤ 10000 ∧ w'.cell? ⟨g, 0, none⟩ = some (.string T) ∧ w'.cell? ⟨g, 1, none⟩ = some (.int .i64 n') ∧ w'.cell? ⟨g, 2, none⟩ = some (.int .i64 bad) ∧ (bad = 0 → n' = (T.size : Int) → s' = mkS (unesc text)) ∧ Below g w w' := by
  obtain ⟨i0, hi, hz0, hz1, hz2⟩ := info_parts infoByte
  have hsz : T.size = text.length + 2 := by rw [Lib.size_eq, hT]; simp
  have htz : T.size ≤ 10000 := by omega
  have HG := Lib.hid fun k h c => Go.Proofs.YtcohlcijgfdanaaDoor.esc.get_of T _ hT k h c
  have HSZ := Lib.hid hsz
  have H13 := Lib.hid h13
  have HTT := Lib.hid hT
  have HS0 := Lib.hid hS0
  clear hT hsz h13 hS0
  go_enter Tryd.func44, Tryd.ntmps44
  go_wp2_with fail
  go_loopw [3, 4, 5, 6, 7] (fun v oo _ _ _ wr => ∃ (vv : Value) (o : Int) (n : Nat) (out : List UInt8), vv = v ∧ oo = .int .i64 o ∧ Hid (Ph text T n o out) ∧ Hid (LS g T n vv out w wr)) (fun _ _ _ _ _ wr => T.size - atOf g wr)
  case atStart => exact ⟨_, 0, 0, [], rfl, rfl, Lib.hid (Or.inl ⟨rfl, rfl, rfl⟩), HS0⟩
  case round =>
    obtain ⟨v, o, n, out, rfl, rfl, HPH, HL⟩ := hrel
    have HAT := Lib.hid (atOf_eq HL.out.rs)
    have HWB := Lib.hid HL.out.bel.size
    rcases HPH.out with ⟨rfl, rfl, rfl⟩ | ⟨pre, suf, htx, hn, ho1, ho2, hun, hob⟩ | hn
    · -- the parenthesis that opens
      have hlt : 0 < T.size := by rw [HSZ.out]; omega
      have HLT := Lib.hid hlt
      have hg := HG.out 0 hlt 40 rfl
      have hlti : (0 : Int) < (T.size : Int) := by omega
      have HPH2 : Hid (Ph text T 1 1 []) := Lib.hid (Or.inr (Or.inl ⟨[], text, rfl, rfl, by omega, by simp, rfl, by simp⟩))
      obtain ⟨c0, c1, c2, f1⟩ := HL.out.rs
      go_wp2_with fail
      go_quiet (fail)
      obtain ⟨W1, hW1⟩ : ∃ X, wr.drewN nq = X := ⟨_, rfl⟩
      have HL1 : Hid (LS g T 0 v [] w W1) := Lib.hid (by rw [← hW1]; exact HL.out.draws _)
      rw [hW1]
      clear hW1 c0 c1 c2 f1
      obtain ⟨c0, c1, c2, f1⟩ := HL1.out.rs
      go_wp2_with fail
      go_quiet (fail)
      obtain ⟨W2, hW2⟩ : ∃ X, W1.drewN nq = X := ⟨_, rfl⟩
      have HL2 : Hid (LS g T 0 v [] w W2) := Lib.hid (by rw [← hW2]; exact HL1.out.draws _)
      rw [hW2]
      clear hW2 c0 c1 c2 f1
      obtain ⟨c0, c1, c2, f1⟩ := HL2.out.rs
      have HL3 : Hid (LS g T 1 v [] w (W2.setCell ⟨g, 1, none⟩ (.int .i64 1))) := Lib.hid (by have := HL2.out.set 1; simpa using this)
      go_wp2_with fail
      go_roundw
      case rel => exact ⟨v, 1, 1, [], rfl, rfl, HPH2, HL3⟩
      case measure =>
        rw [atOf_eq HL3.out.rs, HAT.out]
        have := HLT.out
        omega
    · have hlt : n < T.size := by
        have := congrArg List.length htx
        simp at this
        rw [HSZ.out]; omega
      have HLT := Lib.hid hlt
      have hlti : (n : Int) < (T.size : Int) := by omega
      have hnb : n ≤ 10000 := by omega
      have HOB : Hid (out.length ≤ 5000) := Lib.hid (by
        have := congrArg List.length htx
        simp at this
        omega)
      have hob2 : o ≤ 5000 := by
        have := congrArg List.length htx
        simp at this
        omega
      have hgt : ∀ k, (40 :: (text ++ [41]))[n + k]? = (suf ++ [41])[k]? := fun k => by rw [hn]; exact get_text text pre suf htx k
      have HGT := Lib.hid hgt
      have HTX := Lib.hid htx
      have HN := Lib.hid hn
      have HUN := Lib.hid hun
      have HOBP := Lib.hid hob
      have HO2 := Lib.hid ho2
      clear hgt htx hn hun hob ho2
      cases suf with
      | nil =>
        have hg := HG.out n hlt 41 (by have := HGT.out 0; rw [Nat.add_zero] at this; rw [this]; rfl)
        have hend : Hid (n + 1 = T.size) := Lib.hid (by
          have h1 := congrArg List.length HTX.out
          simp at h1
          have := HN.out
          rw [HSZ.out]; omega)
        have hout : Hid (out = unesc text) := Lib.hid (by have := HUN.out; rw [un_nil, List.append_nil] at this; exact this)
        obtain ⟨c0, c1, c2, f1⟩ := HL.out.rs
        go_wp2_with fail
        go_quiet (fail)
        obtain ⟨W1, hW1⟩ : ∃ X, wr.drewN nq = X := ⟨_, rfl⟩
        have HL1 : Hid (LS g T n v out w W1) := Lib.hid (by rw [← hW1]; exact HL.out.draws _)
        rw [hW1]
        clear hW1 c0 c1 c2 f1
        obtain ⟨c0, c1, c2, f1⟩ := HL1.out.rs
        go_wp2_with fail
        go_quiet (fail)
        obtain ⟨W2, hW2⟩ : ∃ X, W1.drewN nq = X := ⟨_, rfl⟩
        have HL2 : Hid (LS g T n v out w W2) := Lib.hid (by rw [← hW2]; exact HL1.out.draws _)
        rw [hW2]
        clear hW2 c0 c1 c2 f1
        obtain ⟨c0, c1, c2, f1⟩ := HL2.out.rs
        have HL3 : Hid (LS g T (n + 1) v out w (W2.setCell ⟨g, 1, none⟩ (.int .i64 ((n : Int) + 1)))) := Lib.hid (by have := HL2.out.set (n + 1); simpa using this)
        by_cases h1 : o = 1
        · subst h1
          have hcv := conv v out w.heap.size _ HL3.out.own
          go_wp2_with fail
          go_ret
          obtain ⟨d0, d1, d2, _⟩ := HL3.out.rs
          exact ⟨_, _, _, rfl, by rw [mkS_size]; have := HOB.out; omega, d0, d1, d2, fun _ _ => by rw [hout.out], HL3.out.bel⟩
        · have hne : ¬ o - 1 = 0 := by omega
          have hbq : (o - 1 == 0) = false := by simpa using hne
          have hown3 := HL3.out.own
          have HWB2 := Lib.hid HL3.out.bel.size
          have hgw3 := HL3.out.gw
          have hwsz := HL3.out.rs.lt
          go_wp2_with (at_builtin; refine wpList_append_own _ rfl _ _ 29 rfl w.heap.size 5 i0 (.int .u8 0) 1 1 Tryd.underlying29 hi hz0 hz1 hz2 rfl (by decide) _ _ _ rfl (hown3.alloc _) ⟨W2.heap.size, 0, none⟩ 1 1 [Value.int .u8 41] rfl rfl (cell_one _ _ _ _ (by simp)) (by intro u' hu'; simp at hu'; subst hu'; rfl) (by have := HOB.out; unfold maxLen; omega) (by have := HOB.out; omega) (by have := HWB2.out; simp at this ⊢; omega) ?_; intro v2 w2 hown4 hgrow _; refine Hid.out ?_)
          refine Lib.hid ?_
          have HL5 : Hid (LS g T (n + 1) v2 (out ++ [41]) w w2) := Lib.hid (HL3.out.app hown4 hgrow)
          clear hown3 hown4 hgrow
          go_wp2_with fail
          go_roundw
          case rel => exact ⟨v2, o - 1, n + 1, out ++ [41], rfl, rfl, Lib.hid (Or.inr (Or.inr hend.out)), HL5⟩
          case measure =>
            rw [atOf_eq HL5.out.rs, HAT.out]
            have := HLT.out
            omega
      | cons c suf =>
        have hg := HG.out n hlt c (by have := HGT.out 0; rw [Nat.add_zero] at this; rw [this]; rfl)
        have hc13 : c ≠ 13 := H13.out c (by rw [HTX.out]; simp)
        have hc256 : c.toNat < 256 := c.toNat_lt
        have hm13 : ¬ (c.toNat : Int) = 13 := fun e => hc13 (UInt8.toNat_inj.1 (by show c.toNat = 13; omega))
        have HTX2 : Hid (text = (pre ++ [c]) ++ suf) := Lib.hid (by rw [HTX.out]; simp)
        have HPL : Hid ((pre ++ [c]).length = pre.length + 1) := Lib.hid (by simp)
        obtain ⟨c0, c1, c2, f1⟩ := HL.out.rs
        go_wp2_with fail
        go_quiet (fail)
        obtain ⟨W1, hW1⟩ : ∃ X, wr.drewN nq = X := ⟨_, rfl⟩
        have HL1 : Hid (LS g T n v out w W1) := Lib.hid (by rw [← hW1]; exact HL.out.draws _)
        rw [hW1]
        clear hW1 c0 c1 c2 f1
        obtain ⟨c0, c1, c2, f1⟩ := HL1.out.rs
        go_wp2_with fail
        go_quiet (fail)
        obtain ⟨W2, hW2⟩ : ∃ X, W1.drewN nq = X := ⟨_, rfl⟩
        have HL2 : Hid (LS g T n v out w W2) := Lib.hid (by rw [← hW2]; exact HL1.out.draws _)
        rw [hW2]
        clear hW2 c0 c1 c2 f1
        obtain ⟨c0, c1, c2, f1⟩ := HL2.out.rs
        have HL3 : Hid (LS g T (n + 1) v out w (W2.setCell ⟨g, 1, none⟩ (.int .i64 ((n : Int) + 1)))) := Lib.hid (by have := HL2.out.set (n + 1); simpa using this)
        by_cases h40 : c = 40
        · subst h40
          have hne : ¬ o + 1 = 1 := by omega
          have hbq : (o + 1 == 1) = false := by simpa using hne
          clear hc256 hm13 hc13
          have hown3 := HL3.out.own
          have HWB2 := Lib.hid HL3.out.bel.size
          have hgw3 := HL3.out.gw
          have hwsz := HL3.out.rs.lt
          go_wp2_with (at_builtin; refine wpList_append_own _ rfl _ _ 29 rfl w.heap.size 5 i0 (.int .u8 0) 1 1 Tryd.underlying29 hi hz0 hz1 hz2 rfl (by decide) _ _ _ rfl (hown3.alloc _) ⟨W2.heap.size, 0, none⟩ 1 1 [Value.int .u8 40] rfl rfl (cell_one _ _ _ _ (by simp)) (by intro u' hu'; simp at hu'; subst hu'; rfl) (by have := HOB.out; unfold maxLen; omega) (by have := HOB.out; omega) (by have := HWB2.out; simp at this ⊢; omega) ?_; intro v2 w2 hown4 hgrow _; refine Hid.out ?_)
          refine Lib.hid ?_
          have HL5 : Hid (LS g T (n + 1) v2 (out ++ [40]) w w2) := Lib.hid (HL3.out.app hown4 hgrow)
          clear hown3 hown4 hgrow
          go_wp2_with fail
          go_roundw
          case rel => exact ⟨v2, o + 1, n + 1, out ++ [40], rfl, rfl, Lib.hid (Or.inr (Or.inl ⟨pre ++ [40], suf, HTX2.out, by have := HPL.out; have := HN.out; omega, by omega, by have := HPL.out; have := HO2.out; omega, by have := HUN.out; rw [un_plain 40 suf (by decide)] at this; rw [← this]; simp, by have := HPL.out; have := HOBP.out; simp; omega⟩)), HL5⟩
          case measure =>
            rw [atOf_eq HL5.out.rs, HAT.out]
            have := HLT.out
            omega
        · have hm40 : ¬ (c.toNat : Int) = 40 := fun e => h40 (UInt8.toNat_inj.1 (by show c.toNat = 40; omega))
          by_cases h41 : c = 41
          · subst h41
            clear hc256 hm13 hc13 hm40 h40
            by_cases h1 : o = 1
            · subst h1
              have hcv := conv v out w.heap.size _ HL3.out.own
              have hend : Hid (¬ ((n : Int) + 1 = (T.size : Int))) := Lib.hid (by
                have h1 := congrArg List.length HTX.out
                simp at h1
                have := HN.out
                have := HSZ.out
                omega)
              go_wp2_with fail
              go_ret
              obtain ⟨d0, d1, d2, _⟩ := HL3.out.rs
              exact ⟨_, _, _, rfl, by rw [mkS_size]; have := HOB.out; omega, d0, d1, d2, fun _ h => absurd (by simpa using h) hend.out, HL3.out.bel⟩
            · have hne : ¬ o - 1 = 0 := by omega
              have hbq : (o - 1 == 0) = false := by simpa using hne
              have ho3 : 1 ≤ o - 1 := by omega
              have hown3 := HL3.out.own
              have HWB2 := Lib.hid HL3.out.bel.size
              have hgw3 := HL3.out.gw
              have hwsz := HL3.out.rs.lt
              go_wp2_with (at_builtin; refine wpList_append_own _ rfl _ _ 29 rfl w.heap.size 5 i0 (.int .u8 0) 1 1 Tryd.underlying29 hi hz0 hz1 hz2 rfl (by decide) _ _ _ rfl (hown3.alloc _) ⟨W2.heap.size, 0, none⟩ 1 1 [Value.int .u8 41] rfl rfl (cell_one _ _ _ _ (by simp)) (by intro u' hu'; simp at hu'; subst hu'; rfl) (by have := HOB.out; unfold maxLen; omega) (by have := HOB.out; omega) (by have := HWB2.out; simp at this ⊢; omega) ?_; intro v2 w2 hown4 hgrow _; refine Hid.out ?_)
              refine Lib.hid ?_
              have HL5 : Hid (LS g T (n + 1) v2 (out ++ [41]) w w2) := Lib.hid (HL3.out.app hown4 hgrow)
              clear hown3 hown4 hgrow
              go_wp2_with fail
              go_roundw
              case rel => exact ⟨v2, o - 1, n + 1, out ++ [41], rfl, rfl, Lib.hid (Or.inr (Or.inl ⟨pre ++ [41], suf, HTX2.out, by have := HPL.out; have := HN.out; omega, by omega, by have := HPL.out; have := HO2.out; omega, by have := HUN.out; rw [un_plain 41 suf (by decide)] at this; rw [← this]; simp, by have := HPL.out; have := HOBP.out; simp; omega⟩)), HL5⟩
              case measure =>
                rw [atOf_eq HL5.out.rs, HAT.out]
                have := HLT.out
                omega
          · have hm41 : ¬ (c.toNat : Int) = 41 := fun e => h41 (UInt8.toNat_inj.1 (by show c.toNat = 41; omega))
            by_cases h92 : c = 92
            · subst h92
              clear hc256 hm13 hc13 hm40 h40 hm41 h41
              have hlt2 : n + 1 < T.size := by
                have h1 := congrArg List.length HTX.out
                simp at h1
                have := HN.out
                have := HSZ.out
                omega
              cases suf with
              | nil =>
                have hend : Hid (n + 2 = T.size) := Lib.hid (by
                  have h1 := congrArg List.length HTX.out
                  simp at h1
                  have := HN.out
                  have := HSZ.out
                  omega)
                have hx := HG.out (n + 1) hlt2 41 (by rw [HGT.out 1]; rfl)
                have C69 := Lib.hid (esc69 41 (by decide) (by decide) (by decide) g T (n + 1) _ HL3.out.rs hlt2 hx htz)
                go_wp2_with (go_at_call 69; refine C69.out.mono ?_; rintro e w3 ⟨rfl, hR4, hG4⟩; refine Hid.out ?_)
                refine Lib.hid ?_
                have HL4 : Hid (LS g T (n + 2) v out w w3) := Lib.hid (HL3.out.gs hG4 hR4)
                clear hR4 hG4
                have HWB := Lib.hid HL4.out.bel.size
                have hown3 := HL4.out.own
                have HWB2 := Lib.hid HL4.out.bel.size
                have hgw3 := HL4.out.gw
                have hwsz := HL4.out.rs.lt
                go_wp2_with (at_builtin; refine wpList_append_own _ rfl _ _ 29 rfl w.heap.size 5 i0 (.int .u8 0) 1 1 Tryd.underlying29 hi hz0 hz1 hz2 rfl (by decide) _ _ _ rfl (hown3.alloc _) ⟨w3.heap.size, 0, none⟩ 1 1 [Value.int .u8 41] rfl rfl (cell_one _ _ _ _ (by simp)) (by intro u' hu'; simp at hu'; subst hu'; rfl) (by have := HOB.out; unfold maxLen; omega) (by have := HOB.out; omega) (by have := HWB2.out; simp at this ⊢; omega) ?_; intro v2 w2 hown4 hgrow _; refine Hid.out ?_)
                refine Lib.hid ?_
                have HL5 : Hid (LS g T (n + 2) v2 (out ++ [41]) w w2) := Lib.hid (HL4.out.app hown4 hgrow)
                clear hown3 hown4 hgrow
                go_wp2_with fail
                go_roundw
                case rel => exact ⟨v2, o, n + 2, out ++ [41], rfl, rfl, Lib.hid (Or.inr (Or.inr hend.out)), HL5⟩
                case measure =>
                  rw [atOf_eq HL5.out.rs, HAT.out]
                  have := HLT.out
                  omega
              | cons d suf =>
                have hx := HG.out (n + 1) hlt2 d (by rw [HGT.out 1]; rfl)
                have hd13 : d ≠ 13 := H13.out d (by rw [HTX.out]; simp)
                have HTX3 : Hid (text = (pre ++ [92, d]) ++ suf) := Lib.hid (by rw [HTX.out]; simp)
                have HPL3 : Hid ((pre ++ [92, d]).length = pre.length + 2) := Lib.hid (by simp)
                by_cases h10 : d = 10
                · subst h10
                  have C69 := Lib.hid (escNl g T (n + 1) _ HL3.out.rs hlt2 hx htz)
                  go_wp2_with (go_at_call 69; refine C69.out.mono ?_; rintro e w3 ⟨rfl, hR4, hG4⟩; refine Hid.out ?_)
                  refine Lib.hid ?_
                  have HL4 : Hid (LS g T (n + 2) v out w w3) := Lib.hid (HL3.out.gs hG4 hR4)
                  clear hR4 hG4
                  go_wp2_with fail
                  go_roundw
                  case rel => exact ⟨v, o, n + 2, out, rfl, rfl, Lib.hid (Or.inr (Or.inl ⟨pre ++ [92, 10], suf, HTX3.out, by have := HPL3.out; have := HN.out; omega, by omega, by have := HPL3.out; have := HO2.out; omega, by have := HUN.out; rw [un_nl] at this; exact this, by have := HPL3.out; have := HOBP.out; omega⟩)), HL4⟩
                  case measure =>
                    rw [atOf_eq HL4.out.rs, HAT.out]
                    have := HLT.out
                    omega
                · cases ho : od d
                  · have C69 := Lib.hid (esc69 d ho h10 hd13 g T (n + 1) _ HL3.out.rs hlt2 hx htz)
                    go_wp2_with (go_at_call 69; refine C69.out.mono ?_; rintro e w3 ⟨rfl, hR4, hG4⟩; refine Hid.out ?_)
                    refine Lib.hid ?_
                    have HL4 : Hid (LS g T (n + 2) v out w w3) := Lib.hid (HL3.out.gs hG4 hR4)
                    clear hR4 hG4
                    have HWB := Lib.hid HL4.out.bel.size
                    have hown3 := HL4.out.own
                    have HWB2 := Lib.hid HL4.out.bel.size
                    have hgw3 := HL4.out.gw
                    have hwsz := HL4.out.rs.lt
                    go_wp2_with (at_builtin; refine wpList_append_own _ rfl _ _ 29 rfl w.heap.size 5 i0 (.int .u8 0) 1 1 Tryd.underlying29 hi hz0 hz1 hz2 rfl (by decide) _ _ _ rfl (hown3.alloc _) ⟨w3.heap.size, 0, none⟩ 1 1 [Value.int .u8 ((esv d).toNat : Int)] rfl rfl (cell_one _ _ _ _ (by simp)) (by intro u' hu'; simp at hu'; subst hu'; rfl) (by have := HOB.out; unfold maxLen; omega) (by have := HOB.out; omega) (by have := HWB2.out; simp at this ⊢; omega) ?_; intro v2 w2 hown4 hgrow _; refine Hid.out ?_)
                    refine Lib.hid ?_
                    have HL5 : Hid (LS g T (n + 2) v2 (out ++ [esv d]) w w2) := Lib.hid (HL4.out.app hown4 hgrow)
                    clear hown3 hown4 hgrow
                    go_wp2_with fail
                    go_roundw
                    case rel => exact ⟨v2, o, n + 2, out ++ [esv d], rfl, rfl, Lib.hid (Or.inr (Or.inl ⟨pre ++ [92, d], suf, HTX3.out, by have := HPL3.out; have := HN.out; omega, by omega, by have := HPL3.out; have := HO2.out; omega, by have := HUN.out; rw [un_esc d suf h10 ho] at this; rw [← this]; simp, by have := HPL3.out; have := HOBP.out; simp; omega⟩)), HL5⟩
                    case measure =>
                      rw [atOf_eq HL5.out.rs, HAT.out]
                      have := HLT.out
                      omega
                  · have C69 := Lib.hid (escOct _ g T HTT.out (n + 1) d _ HL3.out.rs (by rw [HGT.out 1]; rfl) ho htz)
                    go_wp2_with (go_at_call 69; refine C69.out.mono ?_; rintro e w3 ⟨ds, r, x1, x2, x3, x4, x5, rfl, hR4, hG4⟩; refine Hid.out ?_)
                    refine Lib.hid ?_
                    have HL4 : Hid (LS g T (n + 1 + ds.length) v out w w3) := Lib.hid (HL3.out.gs hG4 hR4)
                    have hsplit : ∃ r', d :: suf = ds ++ r' ∧ (ds.length = 3 ∨ ∀ c r2, r' = c :: r2 → od c = false) := by
                      have hd0 : (40 :: (text ++ [41])).drop (n + 1) = d :: suf ++ [41] := by
                        rw [HN.out]
                        have := drop_text text pre (92 :: d :: suf) HTX.out 1
                        rw [this]
                        rfl
                      rw [hd0] at x1
                      rcases List.eq_nil_or_concat r with hr | ⟨r0, l0, hr⟩
                      · subst hr
                        rw [List.append_nil] at x1
                        have := x3 41 (by rw [← x1]; simp)
                        exact absurd this (by decide)
                      · subst hr
                        rw [List.concat_eq_append, ← List.append_assoc] at x1
                        have h2 := List.append_inj_left' x1 (by simp)
                        refine ⟨r0, h2, ?_⟩
                        rcases x5 with h | h
                        · exact Or.inl h
                        · refine Or.inr fun c r2 e => h c (r2 ++ [l0]) ?_
                          rw [e]; simp
                    obtain ⟨r', hs1, hs2⟩ := hsplit
                    have hu2 : unesc (92 :: d :: suf) = octB ds :: unesc r' := by
                      rw [hs1]
                      exact un_oct ds r' x3 x2 x4 hs2
                    have HU2 := Lib.hid hu2
                    have hdl : 1 ≤ ds.length := List.length_pos_iff.2 x2
                    have HDL := Lib.hid (And.intro hdl x4)
                    have HTX4 : Hid (text = (pre ++ 92 :: ds) ++ r') := Lib.hid (by rw [HTX.out, hs1]; simp)
                    have HPL4 : Hid ((pre ++ 92 :: ds).length = pre.length + 1 + ds.length) := Lib.hid (by simp; omega)
                    clear hR4 hG4 x1 x2 x3 x4 x5 hs1 hs2 hu2 hdl
                    have HWB := Lib.hid HL4.out.bel.size
                    have hown3 := HL4.out.own
                    have HWB2 := Lib.hid HL4.out.bel.size
                    have hgw3 := HL4.out.gw
                    have hwsz := HL4.out.rs.lt
                    go_wp2_with (at_builtin; refine wpList_append_own _ rfl _ _ 29 rfl w.heap.size 5 i0 (.int .u8 0) 1 1 Tryd.underlying29 hi hz0 hz1 hz2 rfl (by decide) _ _ _ rfl (hown3.alloc _) ⟨w3.heap.size, 0, none⟩ 1 1 [Value.int .u8 ((octB ds).toNat : Int)] rfl rfl (cell_one _ _ _ _ (by simp)) (by intro u' hu'; simp at hu'; subst hu'; rfl) (by have := HOB.out; unfold maxLen; omega) (by have := HOB.out; omega) (by have := HWB2.out; simp at this ⊢; omega) ?_; intro v2 w2 hown4 hgrow _; refine Hid.out ?_)
                    refine Lib.hid ?_
                    have HL5 : Hid (LS g T (n + 1 + ds.length) v2 (out ++ [octB ds]) w w2) := Lib.hid (HL4.out.app hown4 hgrow)
                    clear hown3 hown4 hgrow
                    go_wp2_with fail
                    go_roundw
                    case rel => exact ⟨v2, o, n + 1 + ds.length, out ++ [octB ds], rfl, rfl, Lib.hid (Or.inr (Or.inl ⟨pre ++ 92 :: ds, r', HTX4.out, by have := HPL4.out; have := HN.out; omega, by omega, by have := HPL4.out; have := HO2.out; have := HDL.out; omega, by have := HUN.out; rw [HU2.out] at this; rw [← this]; simp, by have := HPL4.out; have := HOBP.out; have := HDL.out; simp; omega⟩)), HL5⟩
                    case measure =>
                      rw [atOf_eq HL5.out.rs, HAT.out]
                      have := HLT.out
                      omega
            · have hm92 : ¬ (c.toNat : Int) = 92 := fun e => h92 (UInt8.toNat_inj.1 (by show c.toNat = 92; omega))
              have hown3 := HL3.out.own
              have HWB2 := Lib.hid HL3.out.bel.size
              have hgw3 := HL3.out.gw
              have hwsz := HL3.out.rs.lt
              go_wp2_with (at_builtin; refine wpList_append_own _ rfl _ _ 29 rfl w.heap.size 5 i0 (.int .u8 0) 1 1 Tryd.underlying29 hi hz0 hz1 hz2 rfl (by decide) _ _ _ rfl (hown3.alloc _) ⟨W2.heap.size, 0, none⟩ 1 1 [Value.int .u8 (c.toNat : Int)] rfl rfl (cell_one _ _ _ _ (by simp)) (by intro u' hu'; simp at hu'; subst hu'; rfl) (by have := HOB.out; unfold maxLen; omega) (by have := HOB.out; omega) (by have := HWB2.out; simp at this ⊢; omega) ?_; intro v2 w2 hown4 hgrow _; refine Hid.out ?_)
              refine Lib.hid ?_
              have HL5 : Hid (LS g T (n + 1) v2 (out ++ [c]) w w2) := Lib.hid (HL3.out.app hown4 hgrow)
              clear hown3 hown4 hgrow
              go_wp2_with fail
              go_roundw
              case rel => exact ⟨v2, o, n + 1, out ++ [c], rfl, rfl, Lib.hid (Or.inr (Or.inl ⟨pre ++ [c], suf, HTX2.out, by have := HPL.out; have := HN.out; omega, by omega, by have := HPL.out; have := HO2.out; omega, by have := HUN.out; rw [un_plain c suf h92] at this; rw [← this]; simp, by have := HPL.out; have := HOBP.out; simp; omega⟩)), HL5⟩
              case measure =>
                rw [atOf_eq HL5.out.rs, HAT.out]
                have := HLT.out
                omega
    · -- behind all
      subst hn
      have hlti : ¬ (T.size : Int) < (T.size : Int) := by omega
      have cb : decide ((T.size : Int) < (T.size : Int)) = false := decide_eq_false (by omega)
      obtain ⟨c0, c1, c2, f1⟩ := HL.out.rs
      go_wp2_with fail
      go_quiet (fail)
      obtain ⟨W1, hW1⟩ : ∃ X, wr.drewN nq = X := ⟨_, rfl⟩
      have HL1 : Hid (LS g T T.size v out w W1) := Lib.hid (by rw [← hW1]; exact HL.out.draws _)
      rw [hW1]
      clear hW1 c0 c1 c2 f1
      have e5 := HL1.out.e5
      have f5 := HL1.out.f5
      obtain ⟨W2, hW2⟩ : ∃ X, W1.setCell ⟨g, 5, none⟩ (.bool true) = X := ⟨_, rfl⟩
      have hc2 : W2.cell? ⟨g, 2, none⟩ = some (.int .i64 0) := by rw [← hW2, World.cell?_setCell_other _ _ _ _ (by simp)]; exact HL1.out.rs.c2
      have hf2 : W2.frozen? ⟨g, 2, none⟩ = false := by rw [← hW2]; have := HL1.out.f2; simpa [go_sem] using this
      have hb2 : Hid (Below g w W2) := Lib.hid (by rw [← hW2]; exact HL1.out.bel.setCell (p := ⟨g, 5, none⟩) (Nat.le_refl _) _)
      have hk0 : Hid (W2.cell? ⟨g, 0, none⟩ = some (.string T)) := Lib.hid (by rw [← hW2, World.cell?_setCell_other _ _ _ _ (by simp)]; exact HL1.out.rs.c0)
      have hk1 : Hid (W2.cell? ⟨g, 1, none⟩ = some (.int .i64 (T.size : Int))) := Lib.hid (by rw [← hW2, World.cell?_setCell_other _ _ _ _ (by simp)]; exact HL1.out.rs.c1)
      have C70 := Lib.hid (fail70 g W2 hc2 hf2)
      have HW2 := Lib.hid hW2
      clear hW2 hc2 hf2
      go_wp2_with (go_at_call 70; rw [HW2.out]; refine C70.out.mono ?_; rintro e w3 ⟨⟨vv, rfl⟩, k2, ko, kb⟩)
      go_ret
      exact ⟨_, (T.size : Int), 1, rfl, by decide, (ko 0 (by decide)).trans hk0.out, (ko 1 (by decide)).trans hk1.out, k2, fun h => absurd h (by decide), hb2.out.trans kb⟩
end Go.Proofs.YtcohlcijgfdanaaDoor.lt
