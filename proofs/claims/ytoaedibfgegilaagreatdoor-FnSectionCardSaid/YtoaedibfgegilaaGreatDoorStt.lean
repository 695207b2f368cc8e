/-
  spec.TableText.
-/
import Derived.Test.YtoaedibfgegilaaGreatDoorStf
import Derived.Test.YtoaedibfgegilaaGreatDoorSty
import Derived.Test.YtoaedibfgegilaaGreatDoorSdo
namespace Go.Proofs.YtoaedibfgegilaaGreatDoor.st
open Go.RowKit
set_option linter.unusedVariables false
set_option linter.unusedSimpArgs false

/-- The first run's two words. -/
structure Head5 (wr : World) (hb : Nat) (f : Nat → Ent) (n j0 : Nat) : Prop where
  h : wr.heap[hb]? = some (.cells #[.string (str (Lib.itoa (f 0).num)), .string (str (Lib.itoa (j0 : Int)))] 25 (0, 0))
  j1 : 0 < j0
  jn : j0 ≤ n
  run : ∀ t, t < j0 → (f t).num = (f 0).num + (t : Int)
theorem Head5.kept {w w' : World} {hb : Nat} {f : Nat → Ent} {n j0 : Nat} (h : Head5 w hb f n j0) (k : Kept [] w w') : Head5 w' hb f n j0 := ⟨(k.block hb (Array.getElem?_eq_some_iff.1 h.h).1 (by simp)).trans h.h, h.j1, h.jn, h.run⟩
/-- Between two runs. -/
structure Out5 (w wr : World) (hb : Nat) (f : Nat → Ent) (n z k : Nat) (S : List UInt8) : Prop where
  kept : Kept [] w wr
  le : k ≤ n
  len : S.length ≤ 60 * k
  st : (k = 0 ∧ S = [] ∧ wr.heap[hb]? = some (.cells #[.string ⟨#[]⟩, .string ⟨#[]⟩] 25 (0, 0))) ∨ (0 < k ∧ ∃ j0, Head5 wr hb f n j0 ∧ ∀ X, Sec f n z k k X → Sec f n z 0 j0 (S ++ X))
/-- Within a run that ends at j. -/
structure In5 (w wr : World) (hb : Nat) (f : Nat → Ent) (n z k j : Nat) (S : List UInt8) : Prop where
  kept : Kept [] w wr
  le : k ≤ j
  jn : j ≤ n
  st : ∃ j0, Head5 wr hb f n j0 ∧ ∀ X, Sec f n z k j X → Sec f n z 0 j0 (S ++ X)
theorem In5.step {w wr wr' : World} {hb : Nat} {f : Nat → Ent} {n z k j : Nat} {S : List UInt8} (h : In5 w wr hb f n z k j S) (hk : k < j) (ho : Ok (f k)) (kk : Kept [] wr wr') : In5 w wr' hb f n z (k + 1) j (S ++ entL (f k) z) := by
  obtain ⟨j0, h1, h2⟩ := h.st
  refine ⟨h.kept.trans kk, hk, h.jn, j0, h1.kept kk, fun X hX => ?_⟩
  rw [List.append_assoc]
  exact h2 _ (.ent hk hX)
theorem In5.out {w wr : World} {hb : Nat} {f : Nat → Ent} {n z j : Nat} {S : List UInt8} (h : In5 w wr hb f n z j j S) (hj : 0 < j) (hl : S.length ≤ 60 * j) : Out5 w wr hb f n z j S := by
  obtain ⟨j0, h1, h2⟩ := h.st
  exact ⟨h.kept, h.jn, hl, .inr ⟨hj, j0, h1, h2⟩⟩
/-- What TableText tells where it says yes. -/
structure Text5 (f : Nat → Ent) (n z j0 : Nat) (a c t : ByteArray) : Prop where
  a : a = str (Lib.itoa (f 0).num)
  c : c = str (Lib.itoa (j0 : Int))
  j1 : 0 < j0
  jn : j0 ≤ n
  run : ∀ t, t < j0 → (f t).num = (f 0).num + (t : Int)
  text : ∃ S, t = str S ∧ Sec f n z 0 j0 S
def TextE (w : World) (f : Nat → Ent) (n : Nat) (e : Ending) (w' : World) : Prop := ∃ a c t b, e = .returned (.tuple #[.agg #[.string a, .string c], .string t, .bool b]) ∧ (b = true → n ≤ 500 ∧ ∃ z j0, Text5 f n z j0 a c t) ∧ Kept [] w w'

set_option maxHeartbeats 8000000 in
set_option maxRecDepth 100000 in
theorem text5 (v : Value) (n : Nat) (f : Nat → Ent) (sv : Value) (N : Nat) (zs : Nat → Int) (en : Int) (w : World) (hE : EntsV w v n f) (hI : IntsV w sv N zs) (hF : FitsK f n) (hn : (n : Int) ≤ 2147483647) (hN : (N : Int) ≤ 2147483647) (hT : Tab w) :
    Calls Tryz.prog 5 #[v, sv, .int .i64 en] w fun e w' => TextE w f n e w' := by
  obtain ⟨ea, eC, rfl⟩ := hE.slice
  obtain ⟨ia, iC, rfl⟩ := hI.slice
  have HE := Lib.hid hE
  have HI := Lib.hid hI
  have HF := Lib.hid hF
  have HT := Lib.hid hT
  clear hE hI hF hT
  have hal : Hid (∀ o : Obj, Kept [] w (w.alloc o)) := Lib.hid fun o => (Kept.refl [] w).alloc o
  by_cases c1 : n = 0
  · subst c1
    go_enter Tryz.func5, Tryz.ntmps5
    go_wp2_with fail
    refine bodyPost_ret (v := .tuple #[.agg #[.string ⟨#[]⟩, .string ⟨#[]⟩], .string ⟨#[]⟩, .bool false]) (by simp only [results, Tryz.results5]; go_simp) rfl ⟨_, _, _, false, rfl, (fun h => by cases h), hal.out _⟩
  by_cases c2 : (500 : Int) < (n : Int)
  · go_enter Tryz.func5, Tryz.ntmps5
    go_wp2_with fail
    refine bodyPost_ret (v := .tuple #[.agg #[.string ⟨#[]⟩, .string ⟨#[]⟩], .string ⟨#[]⟩, .bool false]) (by simp only [results, Tryz.results5]; go_simp) rfl ⟨_, _, _, false, rfl, (fun h => by cases h), hal.out _⟩
  by_cases c3 : en < 0
  · go_enter Tryz.func5, Tryz.ntmps5
    go_wp2_with fail
    refine bodyPost_ret (v := .tuple #[.agg #[.string ⟨#[]⟩, .string ⟨#[]⟩], .string ⟨#[]⟩, .bool false]) (by simp only [results, Tryz.results5]; go_simp) rfl ⟨_, _, _, false, rfl, (fun h => by cases h), hal.out _⟩
  by_cases c4 : 2 < en
  · go_enter Tryz.func5, Tryz.ntmps5
    go_wp2_with fail
    refine bodyPost_ret (v := .tuple #[.agg #[.string ⟨#[]⟩, .string ⟨#[]⟩], .string ⟨#[]⟩, .bool false]) (by simp only [results, Tryz.results5]; go_simp) rfl ⟨_, _, _, false, rfl, (fun h => by cases h), hal.out _⟩
  obtain ⟨z, rfl⟩ := Int.eq_ofNat_of_zero_le (Int.not_lt.1 c3)
  obtain ⟨W, hW⟩ : ∃ W, w.alloc (.cells #[.string ⟨#[]⟩, .string ⟨#[]⟩] 25) = W := ⟨_, rfl⟩
  have hb0 : W.heap[w.heap.size]? = some (.cells #[.string ⟨#[]⟩, .string ⟨#[]⟩] 25 (0, 0)) := by rw [← hW]; exact heap_alloc_new w _
  have kW : Kept [] w W := by rw [← hW]; exact (Kept.refl [] w).alloc _
  have hz2 : z ≤ 2 := by omega
  have hn5 : n ≤ 500 := by omega
  have HO0 : Hid (Out5 w W w.heap.size f n z 0 []) := Lib.hid ⟨kW, by omega, by simp, .inl ⟨rfl, rfl, hb0⟩⟩
  obtain ⟨hb, hhb⟩ : ∃ hb, w.heap.size = hb := ⟨_, rfl⟩
  rw [hhb] at HO0
  have HHB : Hid (w.heap.size = hb) := Lib.hid hhb
  clear hb0 kW hal
  have cn : ((n : Int) == 0) = false := by simp; omega
  have cn2 : ¬ (n : Int) = 0 := by omega
  have str0 : str [] = ⟨#[]⟩ := rfl
  have HS0 := Lib.hid str0
  clear str0
  go_enter Tryz.func5, Tryz.ntmps5
  go_wp2_with fail
  try rw [hhb]
  try rw [hW]
  clear hW hhb
  go_loopg [7, 9] n (fun gk s i wr => ∃ (k : Nat) (S : List UInt8), gk = n - k ∧ s = .string (str S) ∧ i = .int .i64 (k : Int) ∧ Hid (Out5 w wr hb f n z k S))
  case atStart => exact ⟨0, [], rfl, by rw [HS0.out], rfl, HO0⟩
  case round =>
    obtain ⟨k, S, rfl, rfl, rfl, HO⟩ := hrel
    obtain ⟨Wk, rfl⟩ : ∃ X, X = wr := ⟨_, rfl⟩
    have hkn := HO.out.le
    rcases Nat.lt_or_ge k n with hlt | hge
    · have hbl := hlt
      have HB : Hid (∀ (V : World), Kept [] w V → ∃ b o, ea = some ⟨b, o, none⟩ ∧ ∀ i, i < n → V.cell? ⟨b, o + i * 9, none⟩ = some (.int .i64 (f i).num)) := Lib.hid fun V hV => by
        obtain ⟨b, o, e, hc⟩ := (HE.out.kept hV).cells (by omega)
        exact ⟨b, o, e, fun i hi => hc i hi 0 _ rfl⟩
      go_wp2_with fail
      go_loopg [10] (n - (k + 1)) (fun gj jv wr2 => ∃ j : Nat, gj = n - j ∧ jv = .int .i64 (j : Int) ∧ Hid (k < j ∧ j ≤ n ∧ (∀ t, k ≤ t → t < j → (f t).num = (f k).num + ((t - k : Nat) : Int)) ∧ Kept [] Wk wr2))
      case atStart => exact ⟨k + 1, rfl, by go_num, Lib.hid ⟨by omega, hlt, (fun t h1 h2 => by
        have e : t = k := by omega
        rw [e]
        simp), Kept.refl _ _⟩⟩
      case round =>
        obtain ⟨j, rfl, rfl, HJ⟩ := hrel
        obtain ⟨hkj, hjn, hrun, hkk⟩ := HJ.out
        have HRN := Lib.hid (And.intro hrun hkk)
        have hw2 := HO.out.kept.trans hkk
        obtain ⟨b, o, hab, hc⟩ := HB.out wr hw2
        subst hab
        have HC := Lib.hid hc
        have HW2 := Lib.hid hw2
        clear hrun hkk hw2 hc
        by_cases q1 : j < n
        · have v1 := HC.out j q1
          have v2 := HC.out (j - 1) (by omega)
          obtain ⟨x, hx⟩ : ∃ x, (f j).num = x := ⟨_, rfl⟩
          obtain ⟨y, hy⟩ : ∃ y, (f (j - 1)).num = y := ⟨_, rfl⟩
          have y0 : 0 ≤ y := by rw [← hy]; exact (HF.out.ok _ (by omega)).num0
          have y1 : y ≤ 1048576 := by rw [← hy]; exact (HF.out.ok _ (by omega)).num1
          rw [hx] at v1
          rw [hy] at v2
          have HXY := Lib.hid (And.intro hx hy)
          clear hx hy
          by_cases q2 : x = y + 1
          · by_cases q3 : ∃ i, i < N ∧ zs i = (j : Int)
            · have H8 : Hid (∀ V, Kept [] w V → Calls Tryz.prog 8 #[.slice ia N iC, .int .i64 (j : Int)] V fun e w' => e = .returned (.bool true) ∧ ∃ m, w' = V.drewN m) := Lib.hid fun V hV => (in8_yes _ N zs (j : Int) V (HI.out.kept hV) q3 hN).mono (by rintro e w' ⟨rfl, rfl⟩; exact ⟨rfl, 0, rfl⟩)
              have e2 : (x == y + 1) = true := by simpa using q2
              go_wp2_with fail
              go_quiet (first | (go_at_call 8; with_reducible exact Calls.quiet_of (H8.out _ (HW2.out.drewN _))) | fail)
              have kV : Kept [] wr (wr.drewN nq) := (Kept.refl _ _).drewN _
              generalize wr.drewN nq = V at kV ⊢
              have HWV := Lib.hid (HRN.out.2.trans kV)
              have HV0 := Lib.hid (HW2.out.trans kV)
              have HRUN := Lib.hid HRN.out.1
              clear kV HRN HJ HC HW2
              have HNB : Hid (0 ≤ (f k).num ∧ (f k).num ≤ 1048576) := Lib.hid ⟨(HF.out.ok k hlt).num0, (HF.out.ok k hlt).num1⟩
              rcases Nat.eq_zero_or_pos k with hk0 | hk0
              · have hst : S = [] ∧ Wk.heap[hb]? = some (.cells #[.string ⟨#[]⟩, .string ⟨#[]⟩] 25 (0, 0)) := by
                  rcases HO.out.st with ⟨_, h1, h2⟩ | ⟨h1, _⟩
                  · exact ⟨h1, h2⟩
                  · omega
                have HHB0 := Lib.hid ((HWV.out.block hb (Array.getElem?_eq_some_iff.1 hst.2).1 (by simp)).trans hst.2)
                have HS := Lib.hid hst.1
                obtain ⟨b2, o2, hab2, hc2⟩ := HB.out V HV0.out
                obtain ⟨rfl, rfl⟩ : b = b2 ∧ o = o2 := by simpa using hab2
                have x0 : V.cell? ⟨b, o, none⟩ = some (.int .i64 (f 0).num) := by have := hc2 0 (by omega); simpa using this
                have e0 : ((k : Int) == 0) = true := by simp; omega
                rw [hk0] at HNB
                obtain ⟨n0, hn0⟩ : ∃ x, (f 0).num = x := ⟨_, rfl⟩
                rw [hn0] at x0 HNB
                have H9a : Hid (∀ U, Kept [] w U → Calls Tryz.prog 9 #[.int .i64 n0] U fun e w' => e = .returned (.string (str (Lib.itoa n0))) ∧ Kept [] U w') := Lib.hid fun U hU => text9 n0 HNB.out.1 (by have := HNB.out.2; omega) U (HT.out.kept hU)
                have H9b : Hid (∀ U, Kept [] w U → Calls Tryz.prog 9 #[.int .i64 (j : Int)] U fun e w' => e = .returned (.string (str (Lib.itoa (j : Int)))) ∧ Kept [] U w') := Lib.hid fun U hU => text9 (j : Int) (by omega) (by omega) U (HT.out.kept hU)
                obtain ⟨A0, hA0⟩ : ∃ x, str (Lib.itoa n0) = x := ⟨_, rfl⟩
                obtain ⟨B0, hB0⟩ : ∃ x, str (Lib.itoa (j : Int)) = x := ⟨_, rfl⟩
                rw [hA0] at H9a
                rw [hB0] at H9b
                have HAB := Lib.hid (And.intro hn0 (And.intro hA0 hB0))
                clear hst hab2 hc2 hn0 hA0 hB0
                go_wp2_with (go_at_call 9; (with_reducible refine (H9a.out _ HV0.out).mono ?_); rintro e U1 ⟨rfl, hk1⟩; refine Hid.out ?_)
                refine Lib.hid ?_
                have HU1 := Lib.hid (HV0.out.trans hk1)
                have HWU1 := Lib.hid hk1
                clear hk1
                go_wp2_with (go_at_call 9; (with_reducible refine (H9b.out _ HU1.out).mono ?_); rintro e U2 ⟨rfl, hk2⟩; refine Hid.out ?_)
                refine Lib.hid ?_
                have kVU := HWU1.out.trans hk2
                have hh2 := (kVU.block hb (Array.getElem?_eq_some_iff.1 HHB0.out).1 (by simp)).trans HHB0.out
                have z0 : U2.cell? ⟨hb, 0, none⟩ = some (.string ⟨#[]⟩) := cellsOf hh2 0
                have z1 : U2.cell? ⟨hb, 1, none⟩ = some (.string ⟨#[]⟩) := cellsOf hh2 1
                have zf0 := frozenOf hh2 0
                have zf1 := frozenOf hh2 1
                have HU2 := Lib.hid (And.intro (HV0.out.trans kVU) (And.intro (HWV.out.trans kVU) hh2))
                clear hk2 kVU hh2 x0
                go_wp2_with fail
                have HIN : Hid (In5 w ((U2.setCell ⟨hb, 0, none⟩ (.string A0)).setCell ⟨hb, 1, none⟩ (.string B0)) hb f n z k j [] ∧ ([] : List UInt8).length ≤ 60 * k + 40) := Lib.hid (by
                  obtain ⟨k1, k2, hh2⟩ := HU2.out
                  obtain ⟨n1, n2, n3⟩ := HAB.out
                  have hs := heap_set (heap_set hh2 0 (.string A0)) 1 (.string B0)
                  refine ⟨⟨(((k1.mono (by simp)).setCell (L := [hb]) (by simp) _).setCell (by simp) _).cut (by have := HHB.out; simp; omega), by omega, hjn, j, ⟨?_, by omega, hjn, fun t ht => ?_⟩, fun X hX => ?_⟩, by simp⟩
                  · rw [hs, n1, n2, n3]
                    rfl
                  · have := HRUN.out t (by omega) ht
                    rw [this, hk0, Nat.sub_zero]
                  · rw [hk0] at hX
                    exact hX)
                obtain ⟨S0, hS0⟩ : ∃ S0, ([] : List UInt8) = S0 := ⟨_, rfl⟩
                rw [HS.out, hS0]
                rw [hS0] at HIN
                obtain ⟨X3, hX3⟩ : ∃ X3, (U2.setCell ⟨hb, 0, none⟩ (.string A0)).setCell ⟨hb, 1, none⟩ (.string B0) = X3 := ⟨_, rfl⟩
                rw [hX3] at HIN
                try rw [hX3]
                clear hX3 hS0 z0 z1 zf0 zf1 HU2 HU1 HWU1
                go_loopg [7, 9] (j - k) (fun gi s iv wr3 => ∃ (i : Nat) (S' : List UInt8), gi = j - i ∧ s = .string (str S') ∧ iv = .int .i64 (i : Int) ∧ Hid (k ≤ i ∧ In5 w wr3 hb f n z i j S' ∧ S'.length ≤ 60 * k + 40 + 20 * (i - k)))
                case atStart => exact ⟨k, S0, rfl, rfl, (by first | rfl | simp [hk0]), Lib.hid ⟨Nat.le_refl _, HIN.out.1, by have := HIN.out.2; omega⟩⟩
                case round =>
                  obtain ⟨i, S', rfl, rfl, rfl, HL⟩ := hrel
                  obtain ⟨hki, hin, hlen⟩ := HL.out
                  have hij := hin.le
                  have HIL := Lib.hid hin
                  have HLE := Lib.hid hlen
                  clear hin hlen
                  rcases Nat.lt_or_ge i j with hlt2 | hge2
                  · have hir : i < n := by omega
                    obtain ⟨b4, o4, hab4, hc4⟩ := (HE.out.kept HIL.out.kept).cells (by omega)
                    obtain ⟨rfl, rfl⟩ : b = b4 ∧ o = o4 := by simpa using hab4
                    have hg := hc4 i hir
                    have hok := HF.out.ok i hir
                    have HSTEP : Hid (∀ V', Kept [] wr V' → In5 w V' hb f n z (i + 1) j (S' ++ entL (f i) z)) := Lib.hid fun V' hV' => HIL.out.step hlt2 hok hV'
                    have hle20 := entL_length hok z
                    obtain ⟨e, he⟩ : ∃ e, f i = e := ⟨_, rfl⟩
                    rw [he] at hg hok HSTEP hle20
                    obtain ⟨num, fr, cm, off, gen, hf, hh, st, ix⟩ := e
                    have H10 := Lib.hid (entry10 num off gen st ix fr cm hf hh z wr hz2 hok (HT.out.kept HIL.out.kept))
                    have g0 : wr.cell? ⟨b, o + i * 9, none⟩ = some (.int .i64 num) := hg 0 _ rfl
                    have g1 : wr.cell? ⟨b, o + i * 9 + 1, none⟩ = some (.bool fr) := hg 1 _ rfl
                    have g2 : wr.cell? ⟨b, o + i * 9 + 2, none⟩ = some (.bool cm) := hg 2 _ rfl
                    have g3 : wr.cell? ⟨b, o + i * 9 + 3, none⟩ = some (.int .i64 off) := hg 3 _ rfl
                    have g4 : wr.cell? ⟨b, o + i * 9 + 4, none⟩ = some (.int .i64 gen) := hg 4 _ rfl
                    have g5 : wr.cell? ⟨b, o + i * 9 + 5, none⟩ = some (.bool hf) := hg 5 _ rfl
                    have g6 : wr.cell? ⟨b, o + i * 9 + 6, none⟩ = some (.bool hh) := hg 6 _ rfl
                    have g7 : wr.cell? ⟨b, o + i * 9 + 7, none⟩ = some (.int .i64 st) := hg 7 _ rfl
                    have g8 : wr.cell? ⟨b, o + i * 9 + 8, none⟩ = some (.int .i64 ix) := hg 8 _ rfl
                    obtain ⟨EL, hEL⟩ : ∃ EL, entL ⟨num, fr, cm, off, gen, hf, hh, st, ix⟩ z = EL := ⟨_, rfl⟩
                    rw [hEL] at HSTEP H10 hle20
                    have hz1 : (str S').size ≤ 40000 := by rw [str_size]; have := HLE.out; omega
                    have hz2' : (str EL).size = 20 := by rw [str_size]; exact hle20
                    have hcat := str_cat S' EL
                    obtain ⟨Q1, hQ1⟩ : ∃ Q1, str S' = Q1 := ⟨_, rfl⟩
                    obtain ⟨Q2, hQ2⟩ : ∃ Q2, str EL = Q2 := ⟨_, rfl⟩
                    rw [hQ1] at hz1 hcat ⊢
                    rw [hQ2] at H10 hz2' hcat
                    have HQ := Lib.hid hcat
                    have HLQ : Hid ((S' ++ EL).length ≤ 60 * k + 40 + 20 * (i + 1 - k)) := Lib.hid (by rw [List.length_append, hle20]; have := HLE.out; omega)
                    clear hc4 hab4 hg hok he hEL hcat hQ1 hQ2 hle20
                    go_wp2_with (go_at_call 10; (with_reducible refine H10.out.mono ?_); rintro e V5 ⟨rfl, hk5⟩; refine Hid.out ?_)
                    refine Lib.hid ?_
                    have HV5 := Lib.hid (HSTEP.out V5 hk5)
                    clear hk5 g0 g1 g2 g3 g4 g5 g6 g7 g8
                    go_wp2_with fail
                    go_roundg (j - (i + 1))
                    case measure => omega
                    case rel => exact ⟨i + 1, S' ++ EL, rfl, by rw [← HQ.out], by go_num, Lib.hid ⟨by omega, HV5.out, HLQ.out⟩⟩
                  · have HOUT : Hid (Out5 w wr hb f n z j S') := Lib.hid (by
                      have e : i = j := by omega
                      have h := HIL.out
                      have h2 := HLE.out
                      rw [e] at h h2
                      exact h.out (by omega) (by omega))
                    go_wp2_with fail
                    go_roundg (n - j)
                    case measure => omega
                    case rel => exact ⟨j, S', rfl, rfl, by go_num, HOUT⟩
              · have e0 : ((k : Int) == 0) = false := by simp; omega
                have hst : ∃ j0, Head5 Wk hb f n j0 ∧ ∀ X, Sec f n z k k X → Sec f n z 0 j0 (S ++ X) := by
                  rcases HO.out.st with ⟨h1, _⟩ | ⟨_, h2⟩
                  · omega
                  · exact h2
                obtain ⟨j0, hd0, hsec⟩ := hst
                have HSEC := Lib.hid (And.intro hd0 hsec)
                obtain ⟨b2, o2, hab2, hc2⟩ := HB.out V HV0.out
                obtain ⟨rfl, rfl⟩ : b = b2 ∧ o = o2 := by simpa using hab2
                have x0 := hc2 k hlt
                obtain ⟨n0, hn0⟩ : ∃ x, (f k).num = x := ⟨_, rfl⟩
                rw [hn0] at x0 HNB
                have hjk : (j : Int) - (k : Int) = ((j - k : Nat) : Int) := by omega
                have H9a : Hid (∀ U, Kept [] w U → Calls Tryz.prog 9 #[.int .i64 n0] U fun e w' => e = .returned (.string (str (Lib.itoa n0))) ∧ Kept [] U w') := Lib.hid fun U hU => text9 n0 HNB.out.1 (by have := HNB.out.2; omega) U (HT.out.kept hU)
                have H9b : Hid (∀ U, Kept [] w U → Calls Tryz.prog 9 #[.int .i64 ((j : Int) - (k : Int))] U fun e w' => e = .returned (.string (str (Lib.itoa ((j - k : Nat) : Int)))) ∧ Kept [] U w') := Lib.hid fun U hU => by
                  rw [hjk]
                  exact text9 ((j - k : Nat) : Int) (by omega) (by omega) U (HT.out.kept hU)
                have l1 : (Lib.itoa n0).length ≤ 10 := itoa_le HNB.out.1 10 (by omega) (by have := HNB.out.2; simp; omega)
                have l2 : (Lib.itoa ((j - k : Nat) : Int)).length ≤ 10 := itoa_le (by omega) 10 (by omega) (by simp; omega)
                have l3 := HO.out.len
                have a1 : (str (Lib.itoa n0)).size ≤ 10 := by rw [str_size]; exact l1
                have a2 : (str (Lib.itoa ((j - k : Nat) : Int))).size ≤ 10 := by rw [str_size]; exact l2
                have a3 : (str S).size ≤ 30000 := by rw [str_size]; omega
                have sz1 : ∀ c : UInt8, (⟨#[c]⟩ : ByteArray).size = 1 := fun _ => rfl
                have hcat : str S ++ (((str (Lib.itoa n0) ++ ⟨#[32]⟩) ++ str (Lib.itoa ((j - k : Nat) : Int))) ++ ⟨#[10]⟩) = str (S ++ hdr n0 ((j - k : Nat) : Int)) := by
                  rw [show (⟨#[32]⟩ : ByteArray) = str [32] from rfl, show (⟨#[10]⟩ : ByteArray) = str [10] from rfl, str_cat, str_cat, str_cat, str_cat]
                  rfl
                have hl5 : (S ++ hdr n0 ((j - k : Nat) : Int)).length ≤ 60 * k + 40 := by
                  unfold hdr
                  simp only [List.length_append, List.length_cons, List.length_nil]
                  omega
                obtain ⟨A0, hA0⟩ : ∃ x, str (Lib.itoa n0) = x := ⟨_, rfl⟩
                obtain ⟨B0, hB0⟩ : ∃ x, str (Lib.itoa ((j - k : Nat) : Int)) = x := ⟨_, rfl⟩
                obtain ⟨Q0, hQ0⟩ : ∃ x, str S = x := ⟨_, rfl⟩
                rw [hA0] at H9a a1 hcat
                rw [hB0] at H9b a2 hcat
                rw [hQ0] at a3 hcat ⊢
                have a4 : (A0 ++ ⟨#[32]⟩).size ≤ 11 := by simp [sz1]; omega
                have a5 : (A0 ++ ⟨#[32]⟩ ++ B0).size ≤ 21 := by simp [sz1]; omega
                have a6 : (A0 ++ ⟨#[32]⟩ ++ B0 ++ ⟨#[10]⟩).size ≤ 22 := by simp [sz1]; omega
                have HAB := Lib.hid (And.intro hn0 (And.intro hcat hl5))
                clear hd0 hsec hab2 hc2 hn0 hA0 hB0 hQ0 hcat hl5 l1 l2 l3 sz1 hjk
                go_wp2_with (go_at_call 9; (with_reducible refine (H9a.out _ HV0.out).mono ?_); rintro e U1 ⟨rfl, hk1⟩; refine Hid.out ?_)
                refine Lib.hid ?_
                have HU1 := Lib.hid (HV0.out.trans hk1)
                have HWU1 := Lib.hid hk1
                clear hk1
                go_wp2_with (go_at_call 9; (with_reducible refine (H9b.out _ HU1.out).mono ?_); rintro e U2 ⟨rfl, hk2⟩; refine Hid.out ?_)
                refine Lib.hid ?_
                have kVU := HWU1.out.trans hk2
                have HU2 := Lib.hid (And.intro (HV0.out.trans kVU) (HWV.out.trans kVU))
                clear hk2 kVU x0
                go_wp2_with fail
                have HIN : Hid (In5 w U2 hb f n z k j (S ++ hdr n0 ((j - k : Nat) : Int)) ∧ (S ++ hdr n0 ((j - k : Nat) : Int)).length ≤ 60 * k + 40) := Lib.hid (by
                  obtain ⟨k1, k2⟩ := HU2.out
                  obtain ⟨n1, n2, n3⟩ := HAB.out
                  obtain ⟨s1, s2⟩ := HSEC.out
                  refine ⟨⟨k1, by omega, hjn, j0, s1.kept k2, fun X hX => ?_⟩, n3⟩
                  rw [List.append_assoc, ← n1]
                  exact s2 _ (.head hlt hkj HRUN.out hX))
                rw [HAB.out.2.1]
                obtain ⟨S0, hS0⟩ : ∃ S0, S ++ hdr n0 ((j - k : Nat) : Int) = S0 := ⟨_, rfl⟩
                rw [hS0] at HIN ⊢
                clear hS0 a1 a2 a3 a4 a5 a6 HU1 HU2 HWU1
                go_loopg [7, 9] (j - k) (fun gi s iv wr3 => ∃ (i : Nat) (S' : List UInt8), gi = j - i ∧ s = .string (str S') ∧ iv = .int .i64 (i : Int) ∧ Hid (k ≤ i ∧ In5 w wr3 hb f n z i j S' ∧ S'.length ≤ 60 * k + 40 + 20 * (i - k)))
                case atStart => exact ⟨k, S0, rfl, rfl, (by first | rfl | simp [hk0]), Lib.hid ⟨Nat.le_refl _, HIN.out.1, by have := HIN.out.2; omega⟩⟩
                case round =>
                  obtain ⟨i, S', rfl, rfl, rfl, HL⟩ := hrel
                  obtain ⟨hki, hin, hlen⟩ := HL.out
                  have hij := hin.le
                  have HIL := Lib.hid hin
                  have HLE := Lib.hid hlen
                  clear hin hlen
                  rcases Nat.lt_or_ge i j with hlt2 | hge2
                  · have hir : i < n := by omega
                    obtain ⟨b4, o4, hab4, hc4⟩ := (HE.out.kept HIL.out.kept).cells (by omega)
                    obtain ⟨rfl, rfl⟩ : b = b4 ∧ o = o4 := by simpa using hab4
                    have hg := hc4 i hir
                    have hok := HF.out.ok i hir
                    have HSTEP : Hid (∀ V', Kept [] wr V' → In5 w V' hb f n z (i + 1) j (S' ++ entL (f i) z)) := Lib.hid fun V' hV' => HIL.out.step hlt2 hok hV'
                    have hle20 := entL_length hok z
                    obtain ⟨e, he⟩ : ∃ e, f i = e := ⟨_, rfl⟩
                    rw [he] at hg hok HSTEP hle20
                    obtain ⟨num, fr, cm, off, gen, hf, hh, st, ix⟩ := e
                    have H10 := Lib.hid (entry10 num off gen st ix fr cm hf hh z wr hz2 hok (HT.out.kept HIL.out.kept))
                    have g0 : wr.cell? ⟨b, o + i * 9, none⟩ = some (.int .i64 num) := hg 0 _ rfl
                    have g1 : wr.cell? ⟨b, o + i * 9 + 1, none⟩ = some (.bool fr) := hg 1 _ rfl
                    have g2 : wr.cell? ⟨b, o + i * 9 + 2, none⟩ = some (.bool cm) := hg 2 _ rfl
                    have g3 : wr.cell? ⟨b, o + i * 9 + 3, none⟩ = some (.int .i64 off) := hg 3 _ rfl
                    have g4 : wr.cell? ⟨b, o + i * 9 + 4, none⟩ = some (.int .i64 gen) := hg 4 _ rfl
                    have g5 : wr.cell? ⟨b, o + i * 9 + 5, none⟩ = some (.bool hf) := hg 5 _ rfl
                    have g6 : wr.cell? ⟨b, o + i * 9 + 6, none⟩ = some (.bool hh) := hg 6 _ rfl
                    have g7 : wr.cell? ⟨b, o + i * 9 + 7, none⟩ = some (.int .i64 st) := hg 7 _ rfl
                    have g8 : wr.cell? ⟨b, o + i * 9 + 8, none⟩ = some (.int .i64 ix) := hg 8 _ rfl
                    obtain ⟨EL, hEL⟩ : ∃ EL, entL ⟨num, fr, cm, off, gen, hf, hh, st, ix⟩ z = EL := ⟨_, rfl⟩
                    rw [hEL] at HSTEP H10 hle20
                    have hz1 : (str S').size ≤ 40000 := by rw [str_size]; have := HLE.out; omega
                    have hz2' : (str EL).size = 20 := by rw [str_size]; exact hle20
                    have hcat := str_cat S' EL
                    obtain ⟨Q1, hQ1⟩ : ∃ Q1, str S' = Q1 := ⟨_, rfl⟩
                    obtain ⟨Q2, hQ2⟩ : ∃ Q2, str EL = Q2 := ⟨_, rfl⟩
                    rw [hQ1] at hz1 hcat ⊢
                    rw [hQ2] at H10 hz2' hcat
                    have HQ := Lib.hid hcat
                    have HLQ : Hid ((S' ++ EL).length ≤ 60 * k + 40 + 20 * (i + 1 - k)) := Lib.hid (by rw [List.length_append, hle20]; have := HLE.out; omega)
                    clear hc4 hab4 hg hok he hEL hcat hQ1 hQ2 hle20
                    go_wp2_with (go_at_call 10; (with_reducible refine H10.out.mono ?_); rintro e V5 ⟨rfl, hk5⟩; refine Hid.out ?_)
                    refine Lib.hid ?_
                    have HV5 := Lib.hid (HSTEP.out V5 hk5)
                    clear hk5 g0 g1 g2 g3 g4 g5 g6 g7 g8
                    go_wp2_with fail
                    go_roundg (j - (i + 1))
                    case measure => omega
                    case rel => exact ⟨i + 1, S' ++ EL, rfl, by rw [← HQ.out], by go_num, Lib.hid ⟨by omega, HV5.out, HLQ.out⟩⟩
                  · have HOUT : Hid (Out5 w wr hb f n z j S') := Lib.hid (by
                      have e : i = j := by omega
                      have h := HIL.out
                      have h2 := HLE.out
                      rw [e] at h h2
                      exact h.out (by omega) (by omega))
                    go_wp2_with fail
                    go_roundg (n - j)
                    case measure => omega
                    case rel => exact ⟨j, S', rfl, rfl, by go_num, HOUT⟩
            · have H8 : Hid (∀ V, Kept [] w V → Calls Tryz.prog 8 #[.slice ia N iC, .int .i64 (j : Int)] V fun e w' => e = .returned (.bool false) ∧ ∃ m, w' = V.drewN m) := Lib.hid fun V hV => (in8_no _ N zs (j : Int) V (HI.out.kept hV) (fun i hi e => q3 ⟨i, hi, e⟩) hN).mono (by rintro e w' ⟨rfl, rfl⟩; exact ⟨rfl, 0, rfl⟩)
              have e2 : (x == y + 1) = true := by simpa using q2
              go_wp2_with fail
              go_quiet (first | (go_at_call 8; with_reducible exact Calls.quiet_of (H8.out _ (HW2.out.drewN _))) | fail)
              have HN2 : Hid (k < j + 1 ∧ j + 1 ≤ n ∧ (∀ t, k ≤ t → t < j + 1 → (f t).num = (f k).num + ((t - k : Nat) : Int)) ∧ Kept [] Wk (wr.drewN nq)) := Lib.hid ⟨by omega, q1, (fun t h1 h2 => by
                rcases Nat.lt_or_ge t j with h | h
                · exact HRN.out.1 t h1 h
                · have e : t = j := by omega
                  have h3 := HRN.out.1 (j - 1) (by omega) (by omega)
                  rw [e, HXY.out.1, q2, ← HXY.out.2, h3]
                  omega), HRN.out.2.drewN _⟩
              go_wp2_with fail
              go_roundg (n - (j + 1))
              case measure => omega
              case rel => exact ⟨j + 1, rfl, by go_num, HN2⟩
          · have e2 : (x == y + 1) = false := by simpa using q2
            go_wp2_with fail
            go_quiet (fail)
            have kV : Kept [] wr (wr.drewN nq) := (Kept.refl _ _).drewN _
            generalize wr.drewN nq = V at kV ⊢
            have HWV := Lib.hid (HRN.out.2.trans kV)
            have HV0 := Lib.hid (HW2.out.trans kV)
            have HRUN := Lib.hid HRN.out.1
            clear kV HRN HJ HC HW2
            have HNB : Hid (0 ≤ (f k).num ∧ (f k).num ≤ 1048576) := Lib.hid ⟨(HF.out.ok k hlt).num0, (HF.out.ok k hlt).num1⟩
            rcases Nat.eq_zero_or_pos k with hk0 | hk0
            · have hst : S = [] ∧ Wk.heap[hb]? = some (.cells #[.string ⟨#[]⟩, .string ⟨#[]⟩] 25 (0, 0)) := by
                rcases HO.out.st with ⟨_, h1, h2⟩ | ⟨h1, _⟩
                · exact ⟨h1, h2⟩
                · omega
              have HHB0 := Lib.hid ((HWV.out.block hb (Array.getElem?_eq_some_iff.1 hst.2).1 (by simp)).trans hst.2)
              have HS := Lib.hid hst.1
              obtain ⟨b2, o2, hab2, hc2⟩ := HB.out V HV0.out
              obtain ⟨rfl, rfl⟩ : b = b2 ∧ o = o2 := by simpa using hab2
              have x0 : V.cell? ⟨b, o, none⟩ = some (.int .i64 (f 0).num) := by have := hc2 0 (by omega); simpa using this
              have e0 : ((k : Int) == 0) = true := by simp; omega
              rw [hk0] at HNB
              obtain ⟨n0, hn0⟩ : ∃ x, (f 0).num = x := ⟨_, rfl⟩
              rw [hn0] at x0 HNB
              have H9a : Hid (∀ U, Kept [] w U → Calls Tryz.prog 9 #[.int .i64 n0] U fun e w' => e = .returned (.string (str (Lib.itoa n0))) ∧ Kept [] U w') := Lib.hid fun U hU => text9 n0 HNB.out.1 (by have := HNB.out.2; omega) U (HT.out.kept hU)
              have H9b : Hid (∀ U, Kept [] w U → Calls Tryz.prog 9 #[.int .i64 (j : Int)] U fun e w' => e = .returned (.string (str (Lib.itoa (j : Int)))) ∧ Kept [] U w') := Lib.hid fun U hU => text9 (j : Int) (by omega) (by omega) U (HT.out.kept hU)
              obtain ⟨A0, hA0⟩ : ∃ x, str (Lib.itoa n0) = x := ⟨_, rfl⟩
              obtain ⟨B0, hB0⟩ : ∃ x, str (Lib.itoa (j : Int)) = x := ⟨_, rfl⟩
              rw [hA0] at H9a
              rw [hB0] at H9b
              have HAB := Lib.hid (And.intro hn0 (And.intro hA0 hB0))
              clear hst hab2 hc2 hn0 hA0 hB0
              go_wp2_with (go_at_call 9; (with_reducible refine (H9a.out _ HV0.out).mono ?_); rintro e U1 ⟨rfl, hk1⟩; refine Hid.out ?_)
              refine Lib.hid ?_
              have HU1 := Lib.hid (HV0.out.trans hk1)
              have HWU1 := Lib.hid hk1
              clear hk1
              go_wp2_with (go_at_call 9; (with_reducible refine (H9b.out _ HU1.out).mono ?_); rintro e U2 ⟨rfl, hk2⟩; refine Hid.out ?_)
              refine Lib.hid ?_
              have kVU := HWU1.out.trans hk2
              have hh2 := (kVU.block hb (Array.getElem?_eq_some_iff.1 HHB0.out).1 (by simp)).trans HHB0.out
              have z0 : U2.cell? ⟨hb, 0, none⟩ = some (.string ⟨#[]⟩) := cellsOf hh2 0
              have z1 : U2.cell? ⟨hb, 1, none⟩ = some (.string ⟨#[]⟩) := cellsOf hh2 1
              have zf0 := frozenOf hh2 0
              have zf1 := frozenOf hh2 1
              have HU2 := Lib.hid (And.intro (HV0.out.trans kVU) (And.intro (HWV.out.trans kVU) hh2))
              clear hk2 kVU hh2 x0
              go_wp2_with fail
              have HIN : Hid (In5 w ((U2.setCell ⟨hb, 0, none⟩ (.string A0)).setCell ⟨hb, 1, none⟩ (.string B0)) hb f n z k j [] ∧ ([] : List UInt8).length ≤ 60 * k + 40) := Lib.hid (by
                obtain ⟨k1, k2, hh2⟩ := HU2.out
                obtain ⟨n1, n2, n3⟩ := HAB.out
                have hs := heap_set (heap_set hh2 0 (.string A0)) 1 (.string B0)
                refine ⟨⟨(((k1.mono (by simp)).setCell (L := [hb]) (by simp) _).setCell (by simp) _).cut (by have := HHB.out; simp; omega), by omega, hjn, j, ⟨?_, by omega, hjn, fun t ht => ?_⟩, fun X hX => ?_⟩, by simp⟩
                · rw [hs, n1, n2, n3]
                  rfl
                · have := HRUN.out t (by omega) ht
                  rw [this, hk0, Nat.sub_zero]
                · rw [hk0] at hX
                  exact hX)
              obtain ⟨S0, hS0⟩ : ∃ S0, ([] : List UInt8) = S0 := ⟨_, rfl⟩
              rw [HS.out, hS0]
              rw [hS0] at HIN
              obtain ⟨X3, hX3⟩ : ∃ X3, (U2.setCell ⟨hb, 0, none⟩ (.string A0)).setCell ⟨hb, 1, none⟩ (.string B0) = X3 := ⟨_, rfl⟩
              rw [hX3] at HIN
              try rw [hX3]
              clear hX3 hS0 z0 z1 zf0 zf1 HU2 HU1 HWU1
              go_loopg [7, 9] (j - k) (fun gi s iv wr3 => ∃ (i : Nat) (S' : List UInt8), gi = j - i ∧ s = .string (str S') ∧ iv = .int .i64 (i : Int) ∧ Hid (k ≤ i ∧ In5 w wr3 hb f n z i j S' ∧ S'.length ≤ 60 * k + 40 + 20 * (i - k)))
              case atStart => exact ⟨k, S0, rfl, rfl, (by first | rfl | simp [hk0]), Lib.hid ⟨Nat.le_refl _, HIN.out.1, by have := HIN.out.2; omega⟩⟩
              case round =>
                obtain ⟨i, S', rfl, rfl, rfl, HL⟩ := hrel
                obtain ⟨hki, hin, hlen⟩ := HL.out
                have hij := hin.le
                have HIL := Lib.hid hin
                have HLE := Lib.hid hlen
                clear hin hlen
                rcases Nat.lt_or_ge i j with hlt2 | hge2
                · have hir : i < n := by omega
                  obtain ⟨b4, o4, hab4, hc4⟩ := (HE.out.kept HIL.out.kept).cells (by omega)
                  obtain ⟨rfl, rfl⟩ : b = b4 ∧ o = o4 := by simpa using hab4
                  have hg := hc4 i hir
                  have hok := HF.out.ok i hir
                  have HSTEP : Hid (∀ V', Kept [] wr V' → In5 w V' hb f n z (i + 1) j (S' ++ entL (f i) z)) := Lib.hid fun V' hV' => HIL.out.step hlt2 hok hV'
                  have hle20 := entL_length hok z
                  obtain ⟨e, he⟩ : ∃ e, f i = e := ⟨_, rfl⟩
                  rw [he] at hg hok HSTEP hle20
                  obtain ⟨num, fr, cm, off, gen, hf, hh, st, ix⟩ := e
                  have H10 := Lib.hid (entry10 num off gen st ix fr cm hf hh z wr hz2 hok (HT.out.kept HIL.out.kept))
                  have g0 : wr.cell? ⟨b, o + i * 9, none⟩ = some (.int .i64 num) := hg 0 _ rfl
                  have g1 : wr.cell? ⟨b, o + i * 9 + 1, none⟩ = some (.bool fr) := hg 1 _ rfl
                  have g2 : wr.cell? ⟨b, o + i * 9 + 2, none⟩ = some (.bool cm) := hg 2 _ rfl
                  have g3 : wr.cell? ⟨b, o + i * 9 + 3, none⟩ = some (.int .i64 off) := hg 3 _ rfl
                  have g4 : wr.cell? ⟨b, o + i * 9 + 4, none⟩ = some (.int .i64 gen) := hg 4 _ rfl
                  have g5 : wr.cell? ⟨b, o + i * 9 + 5, none⟩ = some (.bool hf) := hg 5 _ rfl
                  have g6 : wr.cell? ⟨b, o + i * 9 + 6, none⟩ = some (.bool hh) := hg 6 _ rfl
                  have g7 : wr.cell? ⟨b, o + i * 9 + 7, none⟩ = some (.int .i64 st) := hg 7 _ rfl
                  have g8 : wr.cell? ⟨b, o + i * 9 + 8, none⟩ = some (.int .i64 ix) := hg 8 _ rfl
                  obtain ⟨EL, hEL⟩ : ∃ EL, entL ⟨num, fr, cm, off, gen, hf, hh, st, ix⟩ z = EL := ⟨_, rfl⟩
                  rw [hEL] at HSTEP H10 hle20
                  have hz1 : (str S').size ≤ 40000 := by rw [str_size]; have := HLE.out; omega
                  have hz2' : (str EL).size = 20 := by rw [str_size]; exact hle20
                  have hcat := str_cat S' EL
                  obtain ⟨Q1, hQ1⟩ : ∃ Q1, str S' = Q1 := ⟨_, rfl⟩
                  obtain ⟨Q2, hQ2⟩ : ∃ Q2, str EL = Q2 := ⟨_, rfl⟩
                  rw [hQ1] at hz1 hcat ⊢
                  rw [hQ2] at H10 hz2' hcat
                  have HQ := Lib.hid hcat
                  have HLQ : Hid ((S' ++ EL).length ≤ 60 * k + 40 + 20 * (i + 1 - k)) := Lib.hid (by rw [List.length_append, hle20]; have := HLE.out; omega)
                  clear hc4 hab4 hg hok he hEL hcat hQ1 hQ2 hle20
                  go_wp2_with (go_at_call 10; (with_reducible refine H10.out.mono ?_); rintro e V5 ⟨rfl, hk5⟩; refine Hid.out ?_)
                  refine Lib.hid ?_
                  have HV5 := Lib.hid (HSTEP.out V5 hk5)
                  clear hk5 g0 g1 g2 g3 g4 g5 g6 g7 g8
                  go_wp2_with fail
                  go_roundg (j - (i + 1))
                  case measure => omega
                  case rel => exact ⟨i + 1, S' ++ EL, rfl, by rw [← HQ.out], by go_num, Lib.hid ⟨by omega, HV5.out, HLQ.out⟩⟩
                · have HOUT : Hid (Out5 w wr hb f n z j S') := Lib.hid (by
                    have e : i = j := by omega
                    have h := HIL.out
                    have h2 := HLE.out
                    rw [e] at h h2
                    exact h.out (by omega) (by omega))
                  go_wp2_with fail
                  go_roundg (n - j)
                  case measure => omega
                  case rel => exact ⟨j, S', rfl, rfl, by go_num, HOUT⟩
            · have e0 : ((k : Int) == 0) = false := by simp; omega
              have hst : ∃ j0, Head5 Wk hb f n j0 ∧ ∀ X, Sec f n z k k X → Sec f n z 0 j0 (S ++ X) := by
                rcases HO.out.st with ⟨h1, _⟩ | ⟨_, h2⟩
                · omega
                · exact h2
              obtain ⟨j0, hd0, hsec⟩ := hst
              have HSEC := Lib.hid (And.intro hd0 hsec)
              obtain ⟨b2, o2, hab2, hc2⟩ := HB.out V HV0.out
              obtain ⟨rfl, rfl⟩ : b = b2 ∧ o = o2 := by simpa using hab2
              have x0 := hc2 k hlt
              obtain ⟨n0, hn0⟩ : ∃ x, (f k).num = x := ⟨_, rfl⟩
              rw [hn0] at x0 HNB
              have hjk : (j : Int) - (k : Int) = ((j - k : Nat) : Int) := by omega
              have H9a : Hid (∀ U, Kept [] w U → Calls Tryz.prog 9 #[.int .i64 n0] U fun e w' => e = .returned (.string (str (Lib.itoa n0))) ∧ Kept [] U w') := Lib.hid fun U hU => text9 n0 HNB.out.1 (by have := HNB.out.2; omega) U (HT.out.kept hU)
              have H9b : Hid (∀ U, Kept [] w U → Calls Tryz.prog 9 #[.int .i64 ((j : Int) - (k : Int))] U fun e w' => e = .returned (.string (str (Lib.itoa ((j - k : Nat) : Int)))) ∧ Kept [] U w') := Lib.hid fun U hU => by
                rw [hjk]
                exact text9 ((j - k : Nat) : Int) (by omega) (by omega) U (HT.out.kept hU)
              have l1 : (Lib.itoa n0).length ≤ 10 := itoa_le HNB.out.1 10 (by omega) (by have := HNB.out.2; simp; omega)
              have l2 : (Lib.itoa ((j - k : Nat) : Int)).length ≤ 10 := itoa_le (by omega) 10 (by omega) (by simp; omega)
              have l3 := HO.out.len
              have a1 : (str (Lib.itoa n0)).size ≤ 10 := by rw [str_size]; exact l1
              have a2 : (str (Lib.itoa ((j - k : Nat) : Int))).size ≤ 10 := by rw [str_size]; exact l2
              have a3 : (str S).size ≤ 30000 := by rw [str_size]; omega
              have sz1 : ∀ c : UInt8, (⟨#[c]⟩ : ByteArray).size = 1 := fun _ => rfl
              have hcat : str S ++ (((str (Lib.itoa n0) ++ ⟨#[32]⟩) ++ str (Lib.itoa ((j - k : Nat) : Int))) ++ ⟨#[10]⟩) = str (S ++ hdr n0 ((j - k : Nat) : Int)) := by
                rw [show (⟨#[32]⟩ : ByteArray) = str [32] from rfl, show (⟨#[10]⟩ : ByteArray) = str [10] from rfl, str_cat, str_cat, str_cat, str_cat]
                rfl
              have hl5 : (S ++ hdr n0 ((j - k : Nat) : Int)).length ≤ 60 * k + 40 := by
                unfold hdr
                simp only [List.length_append, List.length_cons, List.length_nil]
                omega
              obtain ⟨A0, hA0⟩ : ∃ x, str (Lib.itoa n0) = x := ⟨_, rfl⟩
              obtain ⟨B0, hB0⟩ : ∃ x, str (Lib.itoa ((j - k : Nat) : Int)) = x := ⟨_, rfl⟩
              obtain ⟨Q0, hQ0⟩ : ∃ x, str S = x := ⟨_, rfl⟩
              rw [hA0] at H9a a1 hcat
              rw [hB0] at H9b a2 hcat
              rw [hQ0] at a3 hcat ⊢
              have a4 : (A0 ++ ⟨#[32]⟩).size ≤ 11 := by simp [sz1]; omega
              have a5 : (A0 ++ ⟨#[32]⟩ ++ B0).size ≤ 21 := by simp [sz1]; omega
              have a6 : (A0 ++ ⟨#[32]⟩ ++ B0 ++ ⟨#[10]⟩).size ≤ 22 := by simp [sz1]; omega
              have HAB := Lib.hid (And.intro hn0 (And.intro hcat hl5))
              clear hd0 hsec hab2 hc2 hn0 hA0 hB0 hQ0 hcat hl5 l1 l2 l3 sz1 hjk
              go_wp2_with (go_at_call 9; (with_reducible refine (H9a.out _ HV0.out).mono ?_); rintro e U1 ⟨rfl, hk1⟩; refine Hid.out ?_)
              refine Lib.hid ?_
              have HU1 := Lib.hid (HV0.out.trans hk1)
              have HWU1 := Lib.hid hk1
              clear hk1
              go_wp2_with (go_at_call 9; (with_reducible refine (H9b.out _ HU1.out).mono ?_); rintro e U2 ⟨rfl, hk2⟩; refine Hid.out ?_)
              refine Lib.hid ?_
              have kVU := HWU1.out.trans hk2
              have HU2 := Lib.hid (And.intro (HV0.out.trans kVU) (HWV.out.trans kVU))
              clear hk2 kVU x0
              go_wp2_with fail
              have HIN : Hid (In5 w U2 hb f n z k j (S ++ hdr n0 ((j - k : Nat) : Int)) ∧ (S ++ hdr n0 ((j - k : Nat) : Int)).length ≤ 60 * k + 40) := Lib.hid (by
                obtain ⟨k1, k2⟩ := HU2.out
                obtain ⟨n1, n2, n3⟩ := HAB.out
                obtain ⟨s1, s2⟩ := HSEC.out
                refine ⟨⟨k1, by omega, hjn, j0, s1.kept k2, fun X hX => ?_⟩, n3⟩
                rw [List.append_assoc, ← n1]
                exact s2 _ (.head hlt hkj HRUN.out hX))
              rw [HAB.out.2.1]
              obtain ⟨S0, hS0⟩ : ∃ S0, S ++ hdr n0 ((j - k : Nat) : Int) = S0 := ⟨_, rfl⟩
              rw [hS0] at HIN ⊢
              clear hS0 a1 a2 a3 a4 a5 a6 HU1 HU2 HWU1
              go_loopg [7, 9] (j - k) (fun gi s iv wr3 => ∃ (i : Nat) (S' : List UInt8), gi = j - i ∧ s = .string (str S') ∧ iv = .int .i64 (i : Int) ∧ Hid (k ≤ i ∧ In5 w wr3 hb f n z i j S' ∧ S'.length ≤ 60 * k + 40 + 20 * (i - k)))
              case atStart => exact ⟨k, S0, rfl, rfl, (by first | rfl | simp [hk0]), Lib.hid ⟨Nat.le_refl _, HIN.out.1, by have := HIN.out.2; omega⟩⟩
              case round =>
                obtain ⟨i, S', rfl, rfl, rfl, HL⟩ := hrel
                obtain ⟨hki, hin, hlen⟩ := HL.out
                have hij := hin.le
                have HIL := Lib.hid hin
                have HLE := Lib.hid hlen
                clear hin hlen
                rcases Nat.lt_or_ge i j with hlt2 | hge2
                · have hir : i < n := by omega
                  obtain ⟨b4, o4, hab4, hc4⟩ := (HE.out.kept HIL.out.kept).cells (by omega)
                  obtain ⟨rfl, rfl⟩ : b = b4 ∧ o = o4 := by simpa using hab4
                  have hg := hc4 i hir
                  have hok := HF.out.ok i hir
                  have HSTEP : Hid (∀ V', Kept [] wr V' → In5 w V' hb f n z (i + 1) j (S' ++ entL (f i) z)) := Lib.hid fun V' hV' => HIL.out.step hlt2 hok hV'
                  have hle20 := entL_length hok z
                  obtain ⟨e, he⟩ : ∃ e, f i = e := ⟨_, rfl⟩
                  rw [he] at hg hok HSTEP hle20
                  obtain ⟨num, fr, cm, off, gen, hf, hh, st, ix⟩ := e
                  have H10 := Lib.hid (entry10 num off gen st ix fr cm hf hh z wr hz2 hok (HT.out.kept HIL.out.kept))
                  have g0 : wr.cell? ⟨b, o + i * 9, none⟩ = some (.int .i64 num) := hg 0 _ rfl
                  have g1 : wr.cell? ⟨b, o + i * 9 + 1, none⟩ = some (.bool fr) := hg 1 _ rfl
                  have g2 : wr.cell? ⟨b, o + i * 9 + 2, none⟩ = some (.bool cm) := hg 2 _ rfl
                  have g3 : wr.cell? ⟨b, o + i * 9 + 3, none⟩ = some (.int .i64 off) := hg 3 _ rfl
                  have g4 : wr.cell? ⟨b, o + i * 9 + 4, none⟩ = some (.int .i64 gen) := hg 4 _ rfl
                  have g5 : wr.cell? ⟨b, o + i * 9 + 5, none⟩ = some (.bool hf) := hg 5 _ rfl
                  have g6 : wr.cell? ⟨b, o + i * 9 + 6, none⟩ = some (.bool hh) := hg 6 _ rfl
                  have g7 : wr.cell? ⟨b, o + i * 9 + 7, none⟩ = some (.int .i64 st) := hg 7 _ rfl
                  have g8 : wr.cell? ⟨b, o + i * 9 + 8, none⟩ = some (.int .i64 ix) := hg 8 _ rfl
                  obtain ⟨EL, hEL⟩ : ∃ EL, entL ⟨num, fr, cm, off, gen, hf, hh, st, ix⟩ z = EL := ⟨_, rfl⟩
                  rw [hEL] at HSTEP H10 hle20
                  have hz1 : (str S').size ≤ 40000 := by rw [str_size]; have := HLE.out; omega
                  have hz2' : (str EL).size = 20 := by rw [str_size]; exact hle20
                  have hcat := str_cat S' EL
                  obtain ⟨Q1, hQ1⟩ : ∃ Q1, str S' = Q1 := ⟨_, rfl⟩
                  obtain ⟨Q2, hQ2⟩ : ∃ Q2, str EL = Q2 := ⟨_, rfl⟩
                  rw [hQ1] at hz1 hcat ⊢
                  rw [hQ2] at H10 hz2' hcat
                  have HQ := Lib.hid hcat
                  have HLQ : Hid ((S' ++ EL).length ≤ 60 * k + 40 + 20 * (i + 1 - k)) := Lib.hid (by rw [List.length_append, hle20]; have := HLE.out; omega)
                  clear hc4 hab4 hg hok he hEL hcat hQ1 hQ2 hle20
                  go_wp2_with (go_at_call 10; (with_reducible refine H10.out.mono ?_); rintro e V5 ⟨rfl, hk5⟩; refine Hid.out ?_)
                  refine Lib.hid ?_
                  have HV5 := Lib.hid (HSTEP.out V5 hk5)
                  clear hk5 g0 g1 g2 g3 g4 g5 g6 g7 g8
                  go_wp2_with fail
                  go_roundg (j - (i + 1))
                  case measure => omega
                  case rel => exact ⟨i + 1, S' ++ EL, rfl, by rw [← HQ.out], by go_num, Lib.hid ⟨by omega, HV5.out, HLQ.out⟩⟩
                · have HOUT : Hid (Out5 w wr hb f n z j S') := Lib.hid (by
                    have e : i = j := by omega
                    have h := HIL.out
                    have h2 := HLE.out
                    rw [e] at h h2
                    exact h.out (by omega) (by omega))
                  go_wp2_with fail
                  go_roundg (n - j)
                  case measure => omega
                  case rel => exact ⟨j, S', rfl, rfl, by go_num, HOUT⟩
        · go_wp2_with fail
          go_quiet (fail)
          have kV : Kept [] wr (wr.drewN nq) := (Kept.refl _ _).drewN _
          generalize wr.drewN nq = V at kV ⊢
          have HWV := Lib.hid (HRN.out.2.trans kV)
          have HV0 := Lib.hid (HW2.out.trans kV)
          have HRUN := Lib.hid HRN.out.1
          clear kV HRN HJ HC HW2
          have HNB : Hid (0 ≤ (f k).num ∧ (f k).num ≤ 1048576) := Lib.hid ⟨(HF.out.ok k hlt).num0, (HF.out.ok k hlt).num1⟩
          rcases Nat.eq_zero_or_pos k with hk0 | hk0
          · have hst : S = [] ∧ Wk.heap[hb]? = some (.cells #[.string ⟨#[]⟩, .string ⟨#[]⟩] 25 (0, 0)) := by
              rcases HO.out.st with ⟨_, h1, h2⟩ | ⟨h1, _⟩
              · exact ⟨h1, h2⟩
              · omega
            have HHB0 := Lib.hid ((HWV.out.block hb (Array.getElem?_eq_some_iff.1 hst.2).1 (by simp)).trans hst.2)
            have HS := Lib.hid hst.1
            obtain ⟨b2, o2, hab2, hc2⟩ := HB.out V HV0.out
            obtain ⟨rfl, rfl⟩ : b = b2 ∧ o = o2 := by simpa using hab2
            have x0 : V.cell? ⟨b, o, none⟩ = some (.int .i64 (f 0).num) := by have := hc2 0 (by omega); simpa using this
            have e0 : ((k : Int) == 0) = true := by simp; omega
            rw [hk0] at HNB
            obtain ⟨n0, hn0⟩ : ∃ x, (f 0).num = x := ⟨_, rfl⟩
            rw [hn0] at x0 HNB
            have H9a : Hid (∀ U, Kept [] w U → Calls Tryz.prog 9 #[.int .i64 n0] U fun e w' => e = .returned (.string (str (Lib.itoa n0))) ∧ Kept [] U w') := Lib.hid fun U hU => text9 n0 HNB.out.1 (by have := HNB.out.2; omega) U (HT.out.kept hU)
            have H9b : Hid (∀ U, Kept [] w U → Calls Tryz.prog 9 #[.int .i64 (j : Int)] U fun e w' => e = .returned (.string (str (Lib.itoa (j : Int)))) ∧ Kept [] U w') := Lib.hid fun U hU => text9 (j : Int) (by omega) (by omega) U (HT.out.kept hU)
            obtain ⟨A0, hA0⟩ : ∃ x, str (Lib.itoa n0) = x := ⟨_, rfl⟩
            obtain ⟨B0, hB0⟩ : ∃ x, str (Lib.itoa (j : Int)) = x := ⟨_, rfl⟩
            rw [hA0] at H9a
            rw [hB0] at H9b
            have HAB := Lib.hid (And.intro hn0 (And.intro hA0 hB0))
            clear hst hab2 hc2 hn0 hA0 hB0
            go_wp2_with (go_at_call 9; (with_reducible refine (H9a.out _ HV0.out).mono ?_); rintro e U1 ⟨rfl, hk1⟩; refine Hid.out ?_)
            refine Lib.hid ?_
            have HU1 := Lib.hid (HV0.out.trans hk1)
            have HWU1 := Lib.hid hk1
            clear hk1
            go_wp2_with (go_at_call 9; (with_reducible refine (H9b.out _ HU1.out).mono ?_); rintro e U2 ⟨rfl, hk2⟩; refine Hid.out ?_)
            refine Lib.hid ?_
            have kVU := HWU1.out.trans hk2
            have hh2 := (kVU.block hb (Array.getElem?_eq_some_iff.1 HHB0.out).1 (by simp)).trans HHB0.out
            have z0 : U2.cell? ⟨hb, 0, none⟩ = some (.string ⟨#[]⟩) := cellsOf hh2 0
            have z1 : U2.cell? ⟨hb, 1, none⟩ = some (.string ⟨#[]⟩) := cellsOf hh2 1
            have zf0 := frozenOf hh2 0
            have zf1 := frozenOf hh2 1
            have HU2 := Lib.hid (And.intro (HV0.out.trans kVU) (And.intro (HWV.out.trans kVU) hh2))
            clear hk2 kVU hh2 x0
            go_wp2_with fail
            have HIN : Hid (In5 w ((U2.setCell ⟨hb, 0, none⟩ (.string A0)).setCell ⟨hb, 1, none⟩ (.string B0)) hb f n z k j [] ∧ ([] : List UInt8).length ≤ 60 * k + 40) := Lib.hid (by
              obtain ⟨k1, k2, hh2⟩ := HU2.out
              obtain ⟨n1, n2, n3⟩ := HAB.out
              have hs := heap_set (heap_set hh2 0 (.string A0)) 1 (.string B0)
              refine ⟨⟨(((k1.mono (by simp)).setCell (L := [hb]) (by simp) _).setCell (by simp) _).cut (by have := HHB.out; simp; omega), by omega, hjn, j, ⟨?_, by omega, hjn, fun t ht => ?_⟩, fun X hX => ?_⟩, by simp⟩
              · rw [hs, n1, n2, n3]
                rfl
              · have := HRUN.out t (by omega) ht
                rw [this, hk0, Nat.sub_zero]
              · rw [hk0] at hX
                exact hX)
            obtain ⟨S0, hS0⟩ : ∃ S0, ([] : List UInt8) = S0 := ⟨_, rfl⟩
            rw [HS.out, hS0]
            rw [hS0] at HIN
            obtain ⟨X3, hX3⟩ : ∃ X3, (U2.setCell ⟨hb, 0, none⟩ (.string A0)).setCell ⟨hb, 1, none⟩ (.string B0) = X3 := ⟨_, rfl⟩
            rw [hX3] at HIN
            try rw [hX3]
            clear hX3 hS0 z0 z1 zf0 zf1 HU2 HU1 HWU1
            go_loopg [7, 9] (j - k) (fun gi s iv wr3 => ∃ (i : Nat) (S' : List UInt8), gi = j - i ∧ s = .string (str S') ∧ iv = .int .i64 (i : Int) ∧ Hid (k ≤ i ∧ In5 w wr3 hb f n z i j S' ∧ S'.length ≤ 60 * k + 40 + 20 * (i - k)))
            case atStart => exact ⟨k, S0, rfl, rfl, (by first | rfl | simp [hk0]), Lib.hid ⟨Nat.le_refl _, HIN.out.1, by have := HIN.out.2; omega⟩⟩
            case round =>
              obtain ⟨i, S', rfl, rfl, rfl, HL⟩ := hrel
              obtain ⟨hki, hin, hlen⟩ := HL.out
              have hij := hin.le
              have HIL := Lib.hid hin
              have HLE := Lib.hid hlen
              clear hin hlen
              rcases Nat.lt_or_ge i j with hlt2 | hge2
              · have hir : i < n := by omega
                obtain ⟨b4, o4, hab4, hc4⟩ := (HE.out.kept HIL.out.kept).cells (by omega)
                obtain ⟨rfl, rfl⟩ : b = b4 ∧ o = o4 := by simpa using hab4
                have hg := hc4 i hir
                have hok := HF.out.ok i hir
                have HSTEP : Hid (∀ V', Kept [] wr V' → In5 w V' hb f n z (i + 1) j (S' ++ entL (f i) z)) := Lib.hid fun V' hV' => HIL.out.step hlt2 hok hV'
                have hle20 := entL_length hok z
                obtain ⟨e, he⟩ : ∃ e, f i = e := ⟨_, rfl⟩
                rw [he] at hg hok HSTEP hle20
                obtain ⟨num, fr, cm, off, gen, hf, hh, st, ix⟩ := e
                have H10 := Lib.hid (entry10 num off gen st ix fr cm hf hh z wr hz2 hok (HT.out.kept HIL.out.kept))
                have g0 : wr.cell? ⟨b, o + i * 9, none⟩ = some (.int .i64 num) := hg 0 _ rfl
                have g1 : wr.cell? ⟨b, o + i * 9 + 1, none⟩ = some (.bool fr) := hg 1 _ rfl
                have g2 : wr.cell? ⟨b, o + i * 9 + 2, none⟩ = some (.bool cm) := hg 2 _ rfl
                have g3 : wr.cell? ⟨b, o + i * 9 + 3, none⟩ = some (.int .i64 off) := hg 3 _ rfl
                have g4 : wr.cell? ⟨b, o + i * 9 + 4, none⟩ = some (.int .i64 gen) := hg 4 _ rfl
                have g5 : wr.cell? ⟨b, o + i * 9 + 5, none⟩ = some (.bool hf) := hg 5 _ rfl
                have g6 : wr.cell? ⟨b, o + i * 9 + 6, none⟩ = some (.bool hh) := hg 6 _ rfl
                have g7 : wr.cell? ⟨b, o + i * 9 + 7, none⟩ = some (.int .i64 st) := hg 7 _ rfl
                have g8 : wr.cell? ⟨b, o + i * 9 + 8, none⟩ = some (.int .i64 ix) := hg 8 _ rfl
                obtain ⟨EL, hEL⟩ : ∃ EL, entL ⟨num, fr, cm, off, gen, hf, hh, st, ix⟩ z = EL := ⟨_, rfl⟩
                rw [hEL] at HSTEP H10 hle20
                have hz1 : (str S').size ≤ 40000 := by rw [str_size]; have := HLE.out; omega
                have hz2' : (str EL).size = 20 := by rw [str_size]; exact hle20
                have hcat := str_cat S' EL
                obtain ⟨Q1, hQ1⟩ : ∃ Q1, str S' = Q1 := ⟨_, rfl⟩
                obtain ⟨Q2, hQ2⟩ : ∃ Q2, str EL = Q2 := ⟨_, rfl⟩
                rw [hQ1] at hz1 hcat ⊢
                rw [hQ2] at H10 hz2' hcat
                have HQ := Lib.hid hcat
                have HLQ : Hid ((S' ++ EL).length ≤ 60 * k + 40 + 20 * (i + 1 - k)) := Lib.hid (by rw [List.length_append, hle20]; have := HLE.out; omega)
                clear hc4 hab4 hg hok he hEL hcat hQ1 hQ2 hle20
                go_wp2_with (go_at_call 10; (with_reducible refine H10.out.mono ?_); rintro e V5 ⟨rfl, hk5⟩; refine Hid.out ?_)
                refine Lib.hid ?_
                have HV5 := Lib.hid (HSTEP.out V5 hk5)
                clear hk5 g0 g1 g2 g3 g4 g5 g6 g7 g8
                go_wp2_with fail
                go_roundg (j - (i + 1))
                case measure => omega
                case rel => exact ⟨i + 1, S' ++ EL, rfl, by rw [← HQ.out], by go_num, Lib.hid ⟨by omega, HV5.out, HLQ.out⟩⟩
              · have HOUT : Hid (Out5 w wr hb f n z j S') := Lib.hid (by
                  have e : i = j := by omega
                  have h := HIL.out
                  have h2 := HLE.out
                  rw [e] at h h2
                  exact h.out (by omega) (by omega))
                go_wp2_with fail
                go_roundg (n - j)
                case measure => omega
                case rel => exact ⟨j, S', rfl, rfl, by go_num, HOUT⟩
          · have e0 : ((k : Int) == 0) = false := by simp; omega
            have hst : ∃ j0, Head5 Wk hb f n j0 ∧ ∀ X, Sec f n z k k X → Sec f n z 0 j0 (S ++ X) := by
              rcases HO.out.st with ⟨h1, _⟩ | ⟨_, h2⟩
              · omega
              · exact h2
            obtain ⟨j0, hd0, hsec⟩ := hst
            have HSEC := Lib.hid (And.intro hd0 hsec)
            obtain ⟨b2, o2, hab2, hc2⟩ := HB.out V HV0.out
            obtain ⟨rfl, rfl⟩ : b = b2 ∧ o = o2 := by simpa using hab2
            have x0 := hc2 k hlt
            obtain ⟨n0, hn0⟩ : ∃ x, (f k).num = x := ⟨_, rfl⟩
            rw [hn0] at x0 HNB
            have hjk : (j : Int) - (k : Int) = ((j - k : Nat) : Int) := by omega
            have H9a : Hid (∀ U, Kept [] w U → Calls Tryz.prog 9 #[.int .i64 n0] U fun e w' => e = .returned (.string (str (Lib.itoa n0))) ∧ Kept [] U w') := Lib.hid fun U hU => text9 n0 HNB.out.1 (by have := HNB.out.2; omega) U (HT.out.kept hU)
            have H9b : Hid (∀ U, Kept [] w U → Calls Tryz.prog 9 #[.int .i64 ((j : Int) - (k : Int))] U fun e w' => e = .returned (.string (str (Lib.itoa ((j - k : Nat) : Int)))) ∧ Kept [] U w') := Lib.hid fun U hU => by
              rw [hjk]
              exact text9 ((j - k : Nat) : Int) (by omega) (by omega) U (HT.out.kept hU)
            have l1 : (Lib.itoa n0).length ≤ 10 := itoa_le HNB.out.1 10 (by omega) (by have := HNB.out.2; simp; omega)
            have l2 : (Lib.itoa ((j - k : Nat) : Int)).length ≤ 10 := itoa_le (by omega) 10 (by omega) (by simp; omega)
            have l3 := HO.out.len
            have a1 : (str (Lib.itoa n0)).size ≤ 10 := by rw [str_size]; exact l1
            have a2 : (str (Lib.itoa ((j - k : Nat) : Int))).size ≤ 10 := by rw [str_size]; exact l2
            have a3 : (str S).size ≤ 30000 := by rw [str_size]; omega
            have sz1 : ∀ c : UInt8, (⟨#[c]⟩ : ByteArray).size = 1 := fun _ => rfl
            have hcat : str S ++ (((str (Lib.itoa n0) ++ ⟨#[32]⟩) ++ str (Lib.itoa ((j - k : Nat) : Int))) ++ ⟨#[10]⟩) = str (S ++ hdr n0 ((j - k : Nat) : Int)) := by
              rw [show (⟨#[32]⟩ : ByteArray) = str [32] from rfl, show (⟨#[10]⟩ : ByteArray) = str [10] from rfl, str_cat, str_cat, str_cat, str_cat]
              rfl
            have hl5 : (S ++ hdr n0 ((j - k : Nat) : Int)).length ≤ 60 * k + 40 := by
              unfold hdr
              simp only [List.length_append, List.length_cons, List.length_nil]
              omega
            obtain ⟨A0, hA0⟩ : ∃ x, str (Lib.itoa n0) = x := ⟨_, rfl⟩
            obtain ⟨B0, hB0⟩ : ∃ x, str (Lib.itoa ((j - k : Nat) : Int)) = x := ⟨_, rfl⟩
            obtain ⟨Q0, hQ0⟩ : ∃ x, str S = x := ⟨_, rfl⟩
            rw [hA0] at H9a a1 hcat
            rw [hB0] at H9b a2 hcat
            rw [hQ0] at a3 hcat ⊢
            have a4 : (A0 ++ ⟨#[32]⟩).size ≤ 11 := by simp [sz1]; omega
            have a5 : (A0 ++ ⟨#[32]⟩ ++ B0).size ≤ 21 := by simp [sz1]; omega
            have a6 : (A0 ++ ⟨#[32]⟩ ++ B0 ++ ⟨#[10]⟩).size ≤ 22 := by simp [sz1]; omega
            have HAB := Lib.hid (And.intro hn0 (And.intro hcat hl5))
            clear hd0 hsec hab2 hc2 hn0 hA0 hB0 hQ0 hcat hl5 l1 l2 l3 sz1 hjk
            go_wp2_with (go_at_call 9; (with_reducible refine (H9a.out _ HV0.out).mono ?_); rintro e U1 ⟨rfl, hk1⟩; refine Hid.out ?_)
            refine Lib.hid ?_
            have HU1 := Lib.hid (HV0.out.trans hk1)
            have HWU1 := Lib.hid hk1
            clear hk1
            go_wp2_with (go_at_call 9; (with_reducible refine (H9b.out _ HU1.out).mono ?_); rintro e U2 ⟨rfl, hk2⟩; refine Hid.out ?_)
            refine Lib.hid ?_
            have kVU := HWU1.out.trans hk2
            have HU2 := Lib.hid (And.intro (HV0.out.trans kVU) (HWV.out.trans kVU))
            clear hk2 kVU x0
            go_wp2_with fail
            have HIN : Hid (In5 w U2 hb f n z k j (S ++ hdr n0 ((j - k : Nat) : Int)) ∧ (S ++ hdr n0 ((j - k : Nat) : Int)).length ≤ 60 * k + 40) := Lib.hid (by
              obtain ⟨k1, k2⟩ := HU2.out
              obtain ⟨n1, n2, n3⟩ := HAB.out
              obtain ⟨s1, s2⟩ := HSEC.out
              refine ⟨⟨k1, by omega, hjn, j0, s1.kept k2, fun X hX => ?_⟩, n3⟩
              rw [List.append_assoc, ← n1]
              exact s2 _ (.head hlt hkj HRUN.out hX))
            rw [HAB.out.2.1]
            obtain ⟨S0, hS0⟩ : ∃ S0, S ++ hdr n0 ((j - k : Nat) : Int) = S0 := ⟨_, rfl⟩
            rw [hS0] at HIN ⊢
            clear hS0 a1 a2 a3 a4 a5 a6 HU1 HU2 HWU1
            go_loopg [7, 9] (j - k) (fun gi s iv wr3 => ∃ (i : Nat) (S' : List UInt8), gi = j - i ∧ s = .string (str S') ∧ iv = .int .i64 (i : Int) ∧ Hid (k ≤ i ∧ In5 w wr3 hb f n z i j S' ∧ S'.length ≤ 60 * k + 40 + 20 * (i - k)))
            case atStart => exact ⟨k, S0, rfl, rfl, (by first | rfl | simp [hk0]), Lib.hid ⟨Nat.le_refl _, HIN.out.1, by have := HIN.out.2; omega⟩⟩
            case round =>
              obtain ⟨i, S', rfl, rfl, rfl, HL⟩ := hrel
              obtain ⟨hki, hin, hlen⟩ := HL.out
              have hij := hin.le
              have HIL := Lib.hid hin
              have HLE := Lib.hid hlen
              clear hin hlen
              rcases Nat.lt_or_ge i j with hlt2 | hge2
              · have hir : i < n := by omega
                obtain ⟨b4, o4, hab4, hc4⟩ := (HE.out.kept HIL.out.kept).cells (by omega)
                obtain ⟨rfl, rfl⟩ : b = b4 ∧ o = o4 := by simpa using hab4
                have hg := hc4 i hir
                have hok := HF.out.ok i hir
                have HSTEP : Hid (∀ V', Kept [] wr V' → In5 w V' hb f n z (i + 1) j (S' ++ entL (f i) z)) := Lib.hid fun V' hV' => HIL.out.step hlt2 hok hV'
                have hle20 := entL_length hok z
                obtain ⟨e, he⟩ : ∃ e, f i = e := ⟨_, rfl⟩
                rw [he] at hg hok HSTEP hle20
                obtain ⟨num, fr, cm, off, gen, hf, hh, st, ix⟩ := e
                have H10 := Lib.hid (entry10 num off gen st ix fr cm hf hh z wr hz2 hok (HT.out.kept HIL.out.kept))
                have g0 : wr.cell? ⟨b, o + i * 9, none⟩ = some (.int .i64 num) := hg 0 _ rfl
                have g1 : wr.cell? ⟨b, o + i * 9 + 1, none⟩ = some (.bool fr) := hg 1 _ rfl
                have g2 : wr.cell? ⟨b, o + i * 9 + 2, none⟩ = some (.bool cm) := hg 2 _ rfl
                have g3 : wr.cell? ⟨b, o + i * 9 + 3, none⟩ = some (.int .i64 off) := hg 3 _ rfl
                have g4 : wr.cell? ⟨b, o + i * 9 + 4, none⟩ = some (.int .i64 gen) := hg 4 _ rfl
                have g5 : wr.cell? ⟨b, o + i * 9 + 5, none⟩ = some (.bool hf) := hg 5 _ rfl
                have g6 : wr.cell? ⟨b, o + i * 9 + 6, none⟩ = some (.bool hh) := hg 6 _ rfl
                have g7 : wr.cell? ⟨b, o + i * 9 + 7, none⟩ = some (.int .i64 st) := hg 7 _ rfl
                have g8 : wr.cell? ⟨b, o + i * 9 + 8, none⟩ = some (.int .i64 ix) := hg 8 _ rfl
                obtain ⟨EL, hEL⟩ : ∃ EL, entL ⟨num, fr, cm, off, gen, hf, hh, st, ix⟩ z = EL := ⟨_, rfl⟩
                rw [hEL] at HSTEP H10 hle20
                have hz1 : (str S').size ≤ 40000 := by rw [str_size]; have := HLE.out; omega
                have hz2' : (str EL).size = 20 := by rw [str_size]; exact hle20
                have hcat := str_cat S' EL
                obtain ⟨Q1, hQ1⟩ : ∃ Q1, str S' = Q1 := ⟨_, rfl⟩
                obtain ⟨Q2, hQ2⟩ : ∃ Q2, str EL = Q2 := ⟨_, rfl⟩
                rw [hQ1] at hz1 hcat ⊢
                rw [hQ2] at H10 hz2' hcat
                have HQ := Lib.hid hcat
                have HLQ : Hid ((S' ++ EL).length ≤ 60 * k + 40 + 20 * (i + 1 - k)) := Lib.hid (by rw [List.length_append, hle20]; have := HLE.out; omega)
                clear hc4 hab4 hg hok he hEL hcat hQ1 hQ2 hle20
                go_wp2_with (go_at_call 10; (with_reducible refine H10.out.mono ?_); rintro e V5 ⟨rfl, hk5⟩; refine Hid.out ?_)
                refine Lib.hid ?_
                have HV5 := Lib.hid (HSTEP.out V5 hk5)
                clear hk5 g0 g1 g2 g3 g4 g5 g6 g7 g8
                go_wp2_with fail
                go_roundg (j - (i + 1))
                case measure => omega
                case rel => exact ⟨i + 1, S' ++ EL, rfl, by rw [← HQ.out], by go_num, Lib.hid ⟨by omega, HV5.out, HLQ.out⟩⟩
              · have HOUT : Hid (Out5 w wr hb f n z j S') := Lib.hid (by
                  have e : i = j := by omega
                  have h := HIL.out
                  have h2 := HLE.out
                  rw [e] at h h2
                  exact h.out (by omega) (by omega))
                go_wp2_with fail
                go_roundg (n - j)
                case measure => omega
                case rel => exact ⟨j, S', rfl, rfl, by go_num, HOUT⟩
    · obtain rfl : k = n := by omega
      have hst : ∃ j0, Head5 Wk hb f k j0 ∧ ∀ X, Sec f k z k k X → Sec f k z 0 j0 (S ++ X) := by
        rcases HO.out.st with ⟨h1, _⟩ | ⟨_, h2⟩
        · omega
        · exact h2
      obtain ⟨j0, hd0, hsec⟩ := hst
      have hsec := hsec [] .done
      rw [List.append_nil] at hsec
      have HSEC := Lib.hid (And.intro hd0 hsec)
      obtain ⟨A0, hA0⟩ : ∃ x, str (Lib.itoa (f 0).num) = x := ⟨_, rfl⟩
      obtain ⟨B0, hB0⟩ : ∃ x, str (Lib.itoa (j0 : Int)) = x := ⟨_, rfl⟩
      have hh := hd0.h
      rw [hA0, hB0] at hh
      have y0 : Wk.cell? ⟨hb, 0, none⟩ = some (.string A0) := cellsOf hh 0
      have y1 : Wk.cell? ⟨hb, 1, none⟩ = some (.string B0) := cellsOf hh 1
      have yf0 := frozenOf hh 0
      have yf1 := frozenOf hh 1
      have hs := heap_set (heap_set hh 0 (.string A0)) 1 (.string B0)
      have t0 : ((Wk.setCell ⟨hb, 0, none⟩ (.string A0)).setCell ⟨hb, 1, none⟩ (.string B0)).cell? ⟨hb, 0, none⟩ = some (.string A0) := by rw [cellsOf hs 0]; rfl
      have t1 : ((Wk.setCell ⟨hb, 0, none⟩ (.string A0)).setCell ⟨hb, 1, none⟩ (.string B0)).cell? ⟨hb, 1, none⟩ = some (.string B0) := by rw [cellsOf hs 1]; rfl
      have HFIN : Hid (Kept [] w ((Wk.setCell ⟨hb, 0, none⟩ (.string A0)).setCell ⟨hb, 1, none⟩ (.string B0))) := Lib.hid ((((HO.out.kept.mono (by simp)).setCell (L := [hb]) (by simp) _).setCell (by simp) _).cut (by have := HHB.out; simp; omega))
      have HAB := Lib.hid (And.intro hA0 hB0)
      clear hd0 hsec hh hs hA0 hB0
      go_wp2_with fail
      refine bodyPost_ret (v := .tuple #[.agg #[.string A0, .string B0], .string (str S), .bool true]) (by simp only [results, Tryz.results5]; go_simp) rfl ⟨_, _, _, true, rfl, (fun _ => ⟨hn5, z, j0, ?_⟩), HFIN.out⟩
      obtain ⟨s1, s2⟩ := HSEC.out
      exact ⟨HAB.out.1.symm, HAB.out.2.symm, s1.j1, s1.jn, s1.run, S, rfl, s2⟩
end Go.Proofs.YtoaedibfgegilaaGreatDoor.st
