/-
  FnLiteralText: unicode/utf8.Valid at every row of bytes.
-/
import Derived.Test.YtcohlcijgfdanaaDoorVaw
namespace Go.Proofs.YtcohlcijgfdanaaDoor.lt
open Go.RowKit Go.Shelf Go.Lib

theorem slice_i (g o : Nat) (t : ByteArray) (k : Nat) (ki : Int) (e : ki = (k : Int)) (hk : k ≤ t.size) (hm : t.size ≤ maxLen) (t1 : ByteArray) (h1 : t.extract k t.size = t1) (w : World) (hv : Vw w g o t) : ∃ o', (∀ W : World, (Instr.slice 29 (.slice (some ⟨g, o, none⟩) t.size t.size) (some (.int .i64 ki)) none none).run Tryd.prog W = .ok (.slice (some ⟨g, o', none⟩) t1.size t1.size) W) ∧ Hid (Vw w g o' t1) := by
  subst e
  obtain ⟨o', h2, h3⟩ := slice_k g o t k hk hm
  rw [h1] at h2 h3
  exact ⟨o', h2, Lib.hid (h3 w hv)⟩

theorem word_at (g o : Nat) (t : ByteArray) (h8 : 8 ≤ t.size) (A : Nat) (hA : Lib.leNat [t.get! 0, t.get! 1, t.get! 2, t.get! 3, t.get! 4, t.get! 5, t.get! 6, t.get! 7] = A) (W : World) (hv : Vw W g o t) (k : Nat) :
    Calls Tryd.prog 99 #[.slice (some ⟨g, o, none⟩) t.size t.size] (W.drewN k) fun e w' => e = .returned (.int .u64 (A : Int)) ∧ ∃ q, w' = (W.drewN k).drewN q := by
  have h := word99 g o t.size t h8 (W.drewN k) (hv.drew k)
  rw [hA] at h
  exact h

theorem below_drewNq {B : Nat} {a w : World} (h : Below B a w) : ∀ q, Below B a (w.drewN q)
  | 0 => h
  | q + 1 => (below_drewNq h q).drew

set_option maxRecDepth 100000 in
theorem and7' : ∀ X : Fin 256, bits .and .u8 ((X.val : Nat) : Int) 7 = ((X.val % 8 : Nat) : Int) := by decide

set_option maxHeartbeats 32000000 in
set_option maxRecDepth 1000000 in
theorem valid79 (g o c : Nat) (s : ByteArray) (w : World) (hg : g < w.heap.size) (hV : Vw w g o s) (hs : s.size ≤ 100000) (hc : s.size ≤ c) (hT : Lib.Utf8Tabs 0 1 w) :
    Calls Tryd.prog 79 #[.slice (some ⟨g, o, none⟩) s.size c] w fun e w' => e = .returned (.bool (Lib.validD s.data.toList)) ∧ Below w.heap.size w w' := by
  have mixed : Tryd.prog.follows Departure.mixedOrders = true := rfl
  obtain ⟨ANS, hANS⟩ : ∃ ANS, Lib.validD s.data.toList = ANS := ⟨_, rfl⟩
  rw [hANS]
  have hsl0 : ∀ W : World, (Instr.slice 29 (.slice (some ⟨g, o, none⟩) s.size c) none (some (.int .i64 (s.size : Int))) (some (.int .i64 (s.size : Int)))).run Tryd.prog W = .ok (.slice (some ⟨g, o, none⟩) s.size s.size) W := fun W => by
    simp [go_sem, hc, Addr.add]
  have HV0 := Lib.hid hV
  clear hV
  go_enter Tryd.func79, Tryd.ntmps79
  go_wp2
  go_loopg [0] (s.size + 1) (fun gk s0 wx => Below w.heap.size w wx ∧ ∃ (t : ByteArray) (o : Nat), s0 = .slice (some ⟨g, o, none⟩) t.size t.size ∧ Hid (Vw w g o t) ∧ Hid (Lib.validD t.data.toList = ANS) ∧ t.size < gk ∧ t.size ≤ 100000)
  case atStart => exact ⟨Below.refl _ _, s, o, rfl, HV0, Lib.hid hANS, by omega, hs⟩
  case round =>
    obtain ⟨hbw, t, o, rfl, HV, hv, hg', hts⟩ := hrel
    clear hANS hsl0 HV0
    have hmx : t.size ≤ maxLen := by unfold maxLen; omega
    by_cases h0 : 0 < t.size
    · obtain ⟨g', rfl⟩ : ∃ g', gk = g' + 1 := ⟨gk - 1, by omega⟩
      have h0z : (0 : Int) < (t.size : Int) := by omega
      obtain ⟨x0, hx0⟩ : ∃ x0, t.get! 0 = x0 := ⟨_, rfl⟩
      have hs0 := (HV.out.below hbw hg).get 0 h0 x0 hx0
      rw [Nat.add_zero] at hs0
      have hx0lt : x0.toNat < 256 := x0.toNat_lt
      by_cases hasc : x0.toNat < 128
      · as_aux_lemma =>
          -- a byte below 128
          have hascz : (x0.toNat : Int) < 128 := by omega
          have a1 : Lib.Asc t 1 := Lib.asc_one t h0 (by rw [hx0]; exact hasc)
          obtain ⟨t1, ht1⟩ : ∃ t1, t.extract 1 t.size = t1 := ⟨_, rfl⟩
          have z1 : t1.size + 1 = t.size := by rw [← ht1, Lib.ext_size]; omega
          have v1 : Hid (Lib.validD t1.data.toList = ANS) := Lib.hid (by rw [← ht1, Lib.valid_skip t 1 a1]; exact hv.out)
          obtain ⟨o1, sl1, HV1⟩ := slice_i g o t 1 1 rfl (by omega) hmx t1 ht1 w HV.out
          have Z1 := Lib.hid z1
          have HTS := Lib.hid hts
          have HGK := Lib.hid hg'
          clear hT hv a1 hx0 ht1 HV
          by_cases c8 : 8 < t1.size
          · have c8z : (8 : Int) < (t1.size : Int) := by omega
            have hw1m : t1.size ≤ maxLen := by unfold maxLen; omega
            obtain ⟨A1, hA1⟩ : ∃ A1, Lib.leNat [t1.get! 0, t1.get! 1, t1.get! 2, t1.get! 3, t1.get! 4, t1.get! 5, t1.get! 6, t1.get! 7] = A1 := ⟨_, rfl⟩
            have lA1 : A1 < 18446744073709551616 := hA1 ▸ Lib.word_lt t1
            have cA1 := word_at g o1 t1 (by omega) A1 hA1 wr (HV1.out.below hbw hg)
            have kA1 := Lib.word_asc t1 (by omega)
            rw [hA1] at kA1
            clear hA1
            have cA1' := cA1 0
            have hand1 : bits .and .u64 (A1 : Int) 9259542123273814144 = ((A1 &&& 9259542123273814144 : Nat) : Int) := u64_and_nat A1 9259542123273814144 lA1 (by omega)
            obtain ⟨Z1, hZ1⟩ : ∃ Z1, A1 &&& 9259542123273814144 = Z1 := ⟨_, rfl⟩
            rw [hZ1] at hand1 kA1
            have C1 : Hid (Calls Tryd.prog 99 #[.slice (some ⟨g, o1, none⟩) t1.size t1.size] wr fun e w' => e = .returned (.int .u64 (A1 : Int)) ∧ ∃ q, w' = wr.drewN q) := Lib.hid (cA1 0)
            clear cA1 cA1'
            by_cases hz1 : Z1 = 0
            · as_aux_lemma =>
                have hz1b : ((Z1 : Int) == 0) = true := by simp [hz1]
                have a8 : Lib.Asc t1 8 := kA1.1 hz1
                obtain ⟨t2, ht2⟩ : ∃ t2, t1.extract 8 t1.size = t2 := ⟨_, rfl⟩
                have z2 : t2.size + 8 = t1.size := by rw [← ht2, Lib.ext_size]; omega
                have v2 : Hid (Lib.validD t2.data.toList = ANS) := Lib.hid (by rw [← ht2, Lib.valid_skip t1 8 a8]; exact v1.out)
                obtain ⟨o2, sl2, HV2⟩ := slice_i g o1 t1 8 8 rfl (by omega) hw1m t2 ht2 w HV1.out
                have hz2z := Lib.hid z2
                clear kA1 a8 v1 ht2 HV1
                go_wp2_with (go_at_call 99; go_must (refine C1.out.mono ?_; rintro e W1 ⟨rfl, q1, rfl⟩))
                have hb1 : Below w.heap.size w (wr.drewN q1) := below_drewNq hbw q1
                generalize wr.drewN q1 = wq at hb1 ⊢
                clear C1 hs0 hbw sl1 sl2
                by_cases c16 : 16 < t2.size
                · as_aux_lemma =>
                    have c16z : (16 : Int) < (t2.size : Int) := by omega
                    have s8z : (8 : Int) ≤ (t2.size : Int) := by omega
                    have hw2m : t2.size ≤ maxLen := by unfold maxLen; omega
                    obtain ⟨t2b, ht2b⟩ : ∃ t2b, t2.extract 8 t2.size = t2b := ⟨_, rfl⟩
                    have z2b : t2b.size + 8 = t2.size := by rw [← ht2b, Lib.ext_size]; omega
                    obtain ⟨o2b, sl2b, HV2b⟩ := slice_i g o2 t2 8 8 rfl (by omega) hw2m t2b ht2b w HV2.out
                    obtain ⟨A2, hA2⟩ : ∃ A2, Lib.leNat [t2.get! 0, t2.get! 1, t2.get! 2, t2.get! 3, t2.get! 4, t2.get! 5, t2.get! 6, t2.get! 7] = A2 := ⟨_, rfl⟩
                    have lA2 : A2 < 18446744073709551616 := hA2 ▸ Lib.word_lt t2
                    have cA2 := word_at g o2 t2 (by omega) A2 hA2 wq (HV2.out.below hb1 hg)
                    have kA2 := Lib.word_asc t2 (by omega)
                    rw [hA2] at kA2
                    clear hA2
                    obtain ⟨A3, hA3⟩ : ∃ A3, Lib.leNat [t2b.get! 0, t2b.get! 1, t2b.get! 2, t2b.get! 3, t2b.get! 4, t2b.get! 5, t2b.get! 6, t2b.get! 7] = A3 := ⟨_, rfl⟩
                    have lA3 : A3 < 18446744073709551616 := hA3 ▸ Lib.word_lt t2b
                    have cA3 := word_at g o2b t2b (by omega) A3 hA3 wq (HV2b.out.below hb1 hg)
                    have kA3 := Lib.word_asc t2b (by omega)
                    rw [hA3] at kA3
                    clear hA3
                    have hor2 : bits .or .u64 (A2 : Int) (A3 : Int) = ((A2 ||| A3 : Nat) : Int) := u64_or_nat A2 A3 lA2 lA3
                    have lor2 : A2 ||| A3 < 18446744073709551616 := Nat.or_lt_two_pow (n := 64) lA2 lA3
                    have hand2 : bits .and .u64 ((A2 ||| A3 : Nat) : Int) 9259542123273814144 = (((A2 ||| A3) &&& 9259542123273814144 : Nat) : Int) := u64_and_nat _ 9259542123273814144 lor2 (by omega)
                    have k2 : (A2 ||| A3) &&& 9259542123273814144 = 0 → Lib.Asc t2 16 := fun h0' => by
                      obtain ⟨e1, e2⟩ := (Lib.or_mask A2 A3 _).1 h0'
                      exact Lib.asc_add t2 8 8 (kA2.1 e1) (by rw [ht2b]; exact kA3.1 e2)
                    obtain ⟨O2, hO2⟩ : ∃ O2, A2 ||| A3 = O2 := ⟨_, rfl⟩
                    rw [hO2] at hor2 hand2 k2
                    obtain ⟨Z2, hZ2⟩ : ∃ Z2, O2 &&& 9259542123273814144 = Z2 := ⟨_, rfl⟩
                    rw [hZ2] at hand2 k2
                    clear kA2 kA3 lor2 hO2 hZ2 ht2b HV2b
                    by_cases hz2 : Z2 = 0
                    · have hz2b : ((Z2 : Int) == 0) = true := by simp [hz2]
                      have a16 := k2 hz2
                      obtain ⟨t3, ht3⟩ : ∃ t3, t2.extract 16 t2.size = t3 := ⟨_, rfl⟩
                      have z3 : t3.size + 16 = t2.size := by rw [← ht3, Lib.ext_size]; omega
                      have v3 : Hid (Lib.validD t3.data.toList = ANS) := Lib.hid (by rw [← ht3, Lib.valid_skip t2 16 a16]; exact v2.out)
                      obtain ⟨o3, sl3, HV3⟩ := slice_i g o2 t2 16 16 rfl (by omega) hw2m t3 ht3 w HV2.out
                      clear k2 a16 v2 ht3 HV2
                      go_big_quiet_o (first | (go_at_call 99; with_reducible refine Calls.quiet_of (cA2 _)) | (go_at_call 99; with_reducible refine Calls.quiet_of (cA3 _)))
                      have hb2 : Below w.heap.size w (wq.drewN nq) := below_drewNq hb1 nq
                      generalize wq.drewN nq = wq2 at hb2 ⊢
                      clear cA2 cA3 hb1 sl2b
                      go_wp2
                      -- 32 bytes a round
                      go_loopg [0] (t3.size + 1) (fun g2 s0 wx => Below w.heap.size w wx ∧ ∃ (u : ByteArray) (o : Nat), s0 = .slice (some ⟨g, o, none⟩) u.size u.size ∧ Hid (Vw w g o u) ∧ Hid (Lib.validD u.data.toList = ANS) ∧ u.size < g2 ∧ u.size ≤ t3.size)
                      case atStart => exact ⟨hb2, t3, o3, rfl, HV3, v3, by omega, Nat.le_refl _⟩
                      case round =>
                        obtain ⟨hbu, u, ou, rfl, HVu, vu, hgu, hut⟩ := hrel
                        clear sl3 HV3 v3
                        by_cases c32 : 32 < u.size
                        · as_aux_lemma =>
                            obtain ⟨g3, rfl⟩ : ∃ g3, gk = g3 + 1 := ⟨gk - 1, by omega⟩
                            have c32z : (32 : Int) < (u.size : Int) := by omega
                            have s8u : (8 : Int) ≤ (u.size : Int) := by omega
                            have s16u : (16 : Int) ≤ (u.size : Int) := by omega
                            have s24u : (24 : Int) ≤ (u.size : Int) := by omega
                            have hum : u.size ≤ maxLen := by unfold maxLen; omega
                            obtain ⟨ub, hub⟩ : ∃ ub, u.extract 8 u.size = ub := ⟨_, rfl⟩
                            have zub : ub.size + 8 = u.size := by rw [← hub, Lib.ext_size]; omega
                            obtain ⟨oub, slub, HVub⟩ := slice_i g ou u 8 8 rfl (by omega) hum ub hub w HVu.out
                            obtain ⟨uc, huc⟩ : ∃ uc, u.extract 16 u.size = uc := ⟨_, rfl⟩
                            have zuc : uc.size + 16 = u.size := by rw [← huc, Lib.ext_size]; omega
                            obtain ⟨ouc, sluc, HVuc⟩ := slice_i g ou u 16 16 rfl (by omega) hum uc huc w HVu.out
                            obtain ⟨ud, hud⟩ : ∃ ud, u.extract 24 u.size = ud := ⟨_, rfl⟩
                            have zud : ud.size + 24 = u.size := by rw [← hud, Lib.ext_size]; omega
                            obtain ⟨oud, slud, HVud⟩ := slice_i g ou u 24 24 rfl (by omega) hum ud hud w HVu.out
                            obtain ⟨B0, hB0⟩ : ∃ B0, Lib.leNat [u.get! 0, u.get! 1, u.get! 2, u.get! 3, u.get! 4, u.get! 5, u.get! 6, u.get! 7] = B0 := ⟨_, rfl⟩
                            have lB0 : B0 < 18446744073709551616 := hB0 ▸ Lib.word_lt u
                            have cB0 := word_at g ou u (by omega) B0 hB0 wr (HVu.out.below hbu hg)
                            have kB0 := Lib.word_asc u (by omega)
                            rw [hB0] at kB0
                            clear hB0
                            obtain ⟨B1, hB1⟩ : ∃ B1, Lib.leNat [ub.get! 0, ub.get! 1, ub.get! 2, ub.get! 3, ub.get! 4, ub.get! 5, ub.get! 6, ub.get! 7] = B1 := ⟨_, rfl⟩
                            have lB1 : B1 < 18446744073709551616 := hB1 ▸ Lib.word_lt ub
                            have cB1 := word_at g oub ub (by omega) B1 hB1 wr (HVub.out.below hbu hg)
                            have kB1 := Lib.word_asc ub (by omega)
                            rw [hB1] at kB1
                            clear hB1
                            obtain ⟨B2, hB2⟩ : ∃ B2, Lib.leNat [uc.get! 0, uc.get! 1, uc.get! 2, uc.get! 3, uc.get! 4, uc.get! 5, uc.get! 6, uc.get! 7] = B2 := ⟨_, rfl⟩
                            have lB2 : B2 < 18446744073709551616 := hB2 ▸ Lib.word_lt uc
                            have cB2 := word_at g ouc uc (by omega) B2 hB2 wr (HVuc.out.below hbu hg)
                            have kB2 := Lib.word_asc uc (by omega)
                            rw [hB2] at kB2
                            clear hB2
                            obtain ⟨B3, hB3⟩ : ∃ B3, Lib.leNat [ud.get! 0, ud.get! 1, ud.get! 2, ud.get! 3, ud.get! 4, ud.get! 5, ud.get! 6, ud.get! 7] = B3 := ⟨_, rfl⟩
                            have lB3 : B3 < 18446744073709551616 := hB3 ▸ Lib.word_lt ud
                            have cB3 := word_at g oud ud (by omega) B3 hB3 wr (HVud.out.below hbu hg)
                            have kB3 := Lib.word_asc ud (by omega)
                            rw [hB3] at kB3
                            clear hB3
                            have ho1 : bits .or .u64 (B0 : Int) (B1 : Int) = ((B0 ||| B1 : Nat) : Int) := u64_or_nat B0 B1 lB0 lB1
                            have ho2 : bits .or .u64 (B2 : Int) (B3 : Int) = ((B2 ||| B3 : Nat) : Int) := u64_or_nat B2 B3 lB2 lB3
                            have lo1 : B0 ||| B1 < 18446744073709551616 := Nat.or_lt_two_pow (n := 64) lB0 lB1
                            have lo2 : B2 ||| B3 < 18446744073709551616 := Nat.or_lt_two_pow (n := 64) lB2 lB3
                            have ho3 : bits .or .u64 ((B0 ||| B1 : Nat) : Int) ((B2 ||| B3 : Nat) : Int) = (((B0 ||| B1) ||| (B2 ||| B3) : Nat) : Int) := u64_or_nat _ _ lo1 lo2
                            have lo3 : (B0 ||| B1) ||| (B2 ||| B3) < 18446744073709551616 := Nat.or_lt_two_pow (n := 64) lo1 lo2
                            have hand3 : bits .and .u64 (((B0 ||| B1) ||| (B2 ||| B3) : Nat) : Int) 9259542123273814144 = ((((B0 ||| B1) ||| (B2 ||| B3)) &&& 9259542123273814144 : Nat) : Int) := u64_and_nat _ 9259542123273814144 lo3 (by omega)
                            have k3 : ((B0 ||| B1) ||| (B2 ||| B3)) &&& 9259542123273814144 = 0 → Lib.Asc u 32 := fun h0' => by
                              obtain ⟨e01, e23⟩ := (Lib.or_mask _ _ _).1 h0'
                              obtain ⟨e0, e1⟩ := (Lib.or_mask _ _ _).1 e01
                              obtain ⟨e2, e3⟩ := (Lib.or_mask _ _ _).1 e23
                              have s16 : Lib.Asc u 16 := Lib.asc_add u 8 8 (kB0.1 e0) (by rw [hub]; exact kB1.1 e1)
                              have s24 : Lib.Asc u 24 := Lib.asc_add u 16 8 s16 (by rw [huc]; exact kB2.1 e2)
                              exact Lib.asc_add u 24 8 s24 (by rw [hud]; exact kB3.1 e3)
                            obtain ⟨P1, hP1⟩ : ∃ P1, B0 ||| B1 = P1 := ⟨_, rfl⟩
                            obtain ⟨P2, hP2⟩ : ∃ P2, B2 ||| B3 = P2 := ⟨_, rfl⟩
                            rw [hP1, hP2] at ho3 hand3 k3
                            rw [hP1] at ho1
                            rw [hP2] at ho2
                            obtain ⟨P3, hP3⟩ : ∃ P3, P1 ||| P2 = P3 := ⟨_, rfl⟩
                            rw [hP3] at ho3 hand3 k3
                            obtain ⟨Z3, hZ3⟩ : ∃ Z3, P3 &&& 9259542123273814144 = Z3 := ⟨_, rfl⟩
                            rw [hZ3] at hand3 k3
                            clear kB0 kB1 kB2 kB3 lo1 lo2 lo3 hP1 hP2 hP3 hZ3 hub huc hud HVub HVuc HVud
                            by_cases hz3 : Z3 = 0
                            · have hz3b : ((Z3 : Int) == 0) = true := by simp [hz3]
                              have a32 := k3 hz3
                              obtain ⟨u2, hu2⟩ : ∃ u2, u.extract 32 u.size = u2 := ⟨_, rfl⟩
                              have zu2 : u2.size + 32 = u.size := by rw [← hu2, Lib.ext_size]; omega
                              have vu2 : Hid (Lib.validD u2.data.toList = ANS) := Lib.hid (by rw [← hu2, Lib.valid_skip u 32 a32]; exact vu.out)
                              obtain ⟨ou2, slu2, HVu2⟩ := slice_i g ou u 32 32 rfl (by omega) hum u2 hu2 w HVu.out
                              clear hu2 k3 a32
                              go_wp2_with fail
                              go_big_quiet_o (first | (go_at_call 99; with_reducible refine Calls.quiet_of (cB0 _)) | (go_at_call 99; with_reducible refine Calls.quiet_of (cB1 _)) | (go_at_call 99; with_reducible refine Calls.quiet_of (cB2 _)) | (go_at_call 99; with_reducible refine Calls.quiet_of (cB3 _)))
                              go_wp2
                              go_roundg g3
                              case measure => omega
                              case rel => exact ⟨below_drewNq hbu nq, u2, ou2, rfl, HVu2, vu2, by omega, by omega⟩
                            · have hz3b : ((Z3 : Int) == 0) = false := by simp; omega
                              go_wp2_with fail
                              go_big_quiet_o (first | (go_at_call 99; with_reducible refine Calls.quiet_of (cB0 _)) | (go_at_call 99; with_reducible refine Calls.quiet_of (cB1 _)) | (go_at_call 99; with_reducible refine Calls.quiet_of (cB2 _)) | (go_at_call 99; with_reducible refine Calls.quiet_of (cB3 _)))
                              go_wp2
                              go_roundg g'
                              case measure => omega
                              case rel => exact ⟨below_drewNq hbu nq, u, ou, rfl, HVu, vu, by omega, by omega⟩
                        · have c32z : ¬ ((32 : Int) < (u.size : Int)) := by omega
                          have c32b : decide ((32 : Int) < (u.size : Int)) = false := decide_eq_false c32z
                          go_wp2_with fail
                          go_big_quiet_o (fail)
                          go_wp2
                          go_roundg g'
                          case measure => omega
                          case rel => exact ⟨below_drewNq hbu nq, u, ou, rfl, HVu, vu, by omega, by omega⟩
                    · have hz2b : ((Z2 : Int) == 0) = false := by simp; omega
                      go_big_quiet_o (first | (go_at_call 99; with_reducible refine Calls.quiet_of (cA2 _)) | (go_at_call 99; with_reducible refine Calls.quiet_of (cA3 _)))
                      go_wp2
                      go_roundg g'
                      case measure => omega
                      case rel => exact ⟨below_drewNq hb1 nq, t2, o2, rfl, HV2, v2, by omega, by omega⟩
                · have c16z : ¬ ((16 : Int) < (t2.size : Int)) := by omega
                  have c16b : decide ((16 : Int) < (t2.size : Int)) = false := decide_eq_false c16z
                  go_big_quiet_o (fail)
                  go_wp2
                  go_roundg g'
                  case measure => omega
                  case rel => exact ⟨below_drewNq hb1 nq, t2, o2, rfl, HV2, v2, by omega, by omega⟩
            · have hz1b : ((Z1 : Int) == 0) = false := by simp; omega
              go_wp2_with (go_at_call 99; go_must (refine C1.out.mono ?_; rintro e W1 ⟨rfl, q1, rfl⟩))
              go_roundg g'
              case measure => omega
              case rel => exact ⟨below_drewNq hbw q1, t1, o1, rfl, HV1, v1, by omega, by omega⟩
          · have c8z : ¬ ((8 : Int) < (t1.size : Int)) := by omega
            go_wp2
            go_roundg g'
            case measure => omega
            case rel => exact ⟨hbw, t1, o1, rfl, HV1, v1, by omega, by omega⟩
      · as_aux_lemma =>
          -- a lead byte from 128 on
          have hge : 128 ≤ x0.toNat := by omega
          have hascz : ¬ ((x0.toNat : Int) < 128) := by omega
          have hTr := Utf8Tabs_below hT hbw
          obtain ⟨x1, hx1⟩ : ∃ x1, t.get! 1 = x1 := ⟨_, rfl⟩
          obtain ⟨x2, hx2⟩ : ∃ x2, t.get! 2 = x2 := ⟨_, rfl⟩
          obtain ⟨x3, hx3⟩ : ∃ x3, t.get! 3 = x3 := ⟨_, rfl⟩
          have l1 := x1.toNat_lt
          have l2 := x2.toNat_lt
          have l3 := x3.toNat_lt
          have hne : t.data.toList ≠ [] := fun h => by rw [Lib.size_eq, h] at h0; simp at h0
          have hlead := Lib.validD_lead t.data.toList hne (by rw [Lib.getD_get!', hx0]; exact hge)
          rw [Lib.getD_get!', Lib.getD_get!', Lib.getD_get!', Lib.getD_get!', hx0, hx1, hx2, hx3, ← Lib.size_eq, hv.out] at hlead
          have hc0 := hTr.1 x0.toNat hx0lt
          have hXlt : Lib.firstT x0.toNat < 256 := by rcases Lib.firstT_cases x0.toNat with h | h | h | h | h | h | h | h | h <;> omega
          obtain ⟨X, hX⟩ : ∃ X, Lib.firstT x0.toNat = X := ⟨_, rfl⟩
          rw [hX] at hc0 hXlt hlead
          have h7 := and7' ⟨X, hXlt⟩
          simp only at h7
          have ha0 : wr.cell? ⟨1, X / 16 * 2, none⟩ = some (.int .u8 (Lib.accLo (X / 16))) := by rw [Nat.mul_comm]; exact (hTr.2 (X / 16) (by omega)).1
          have ha1 : wr.cell? ⟨1, X / 16 * 2 + 1, none⟩ = some (.int .u8 (Lib.accHi (X / 16))) := by rw [Nat.mul_comm]; exact (hTr.2 (X / 16) (by omega)).2
          obtain ⟨LO, hLO⟩ : ∃ LO, Lib.accLo (X / 16) = LO := ⟨_, rfl⟩
          obtain ⟨HI, hHI⟩ : ∃ HI, Lib.accHi (X / 16) = HI := ⟨_, rfl⟩
          rw [hLO] at ha0 hlead
          rw [hHI] at ha1 hlead
          obtain ⟨SZ, hSZ⟩ : ∃ SZ, X % 8 = SZ := ⟨_, rfl⟩
          rw [hSZ] at hlead
          have hgw : g < wr.heap.size := by have := hbw.size; omega
          clear hTr hT hX hv hLO hHI hne hx0
          by_cases s2 : SZ = 2
          · as_aux_lemma =>
              subst s2
              have hSZz : (X : Int) % 8 = 2 := by omega
              simp only [Lib.checkN, Nat.reduceEqDiff, if_true, if_false] at hlead
              have HL := Lib.hid hlead
              clear hlead
              go_upto_region 18 with fail
              go_cut [103] from 85 to 103 (fun c wx => c = .bool (decide (t.size < 2 ∨ x1.toNat < LO ∨ HI < x1.toNat)) ∧ Hid (Below w.heap.size w wx))
              case first =>
                obtain ⟨W5, hW5⟩ : ∃ Y, wr.alloc (.cells #[.int .u8 (LO : Int), .int .u8 (HI : Int)] 68) = Y := ⟨_, rfl⟩
                rw [hW5]
                have c5a : W5.cell? ⟨wr.heap.size, 0, none⟩ = some (.int .u8 (LO : Int)) := by rw [← hW5]; simp [go_sem]
                have c5b : W5.cell? ⟨wr.heap.size, 1, none⟩ = some (.int .u8 (HI : Int)) := by rw [← hW5]; simp [go_sem]
                have HB5 : Hid (Below w.heap.size w W5) := Lib.hid (by rw [← hW5]; exact hbw.alloc hbw.size _)
                clear hW5
                by_cases q0 : t.size < 2
                · have q0z : (t.size : Int) < 2 := by omega
                  go_big_quiet_o (fail)
                  go_wp2
                  go_meet
                  exact ⟨congrArg Value.bool (decide_eq_true (p := t.size < 2 ∨ x1.toNat < LO ∨ HI < x1.toNat) (by omega)).symm, Lib.hid (below_drewNq HB5.out _)⟩
                · have q0z : ¬ ((t.size : Int) < 2) := by omega
                  have hz1 : (1 : Int) < (t.size : Int) := by omega
                  have hp1 : 1 < t.size := by omega
                  have hs1 := (HV.out.below HB5.out hg).get 1 hp1 x1 hx1
                  by_cases q1 : x1.toNat < LO
                  · have q1z : (x1.toNat : Int) < (LO : Int) := by omega
                    go_big_quiet_o (fail)
                    go_wp2
                    go_meet
                    exact ⟨congrArg Value.bool (decide_eq_true (p := t.size < 2 ∨ x1.toNat < LO ∨ HI < x1.toNat) (by omega)).symm, Lib.hid (below_drewNq HB5.out _)⟩
                  · have q1z : ¬ ((x1.toNat : Int) < (LO : Int)) := by omega
                    by_cases q2 : HI < x1.toNat
                    · have q2z : (HI : Int) < (x1.toNat : Int) := by omega
                      go_big_quiet_o (fail)
                      go_wp2
                      go_meet
                      exact ⟨congrArg Value.bool (decide_eq_true (p := t.size < 2 ∨ x1.toNat < LO ∨ HI < x1.toNat) (by omega)).symm, Lib.hid (below_drewNq HB5.out _)⟩
                    · have q2z : ¬ ((HI : Int) < (x1.toNat : Int)) := by omega
                      go_big_quiet_o (fail)
                      go_wp2
                      go_meet
                      exact ⟨congrArg Value.bool (decide_eq_false (p := t.size < 2 ∨ x1.toNat < LO ∨ HI < x1.toNat) (by omega)).symm, Lib.hid (below_drewNq HB5.out _)⟩
              case rest =>
                obtain ⟨rfl, hbc⟩ := hcut
                by_cases hb : t.size < 2 ∨ x1.toNat < LO ∨ HI < x1.toNat
                · have hbd : decide (t.size < 2 ∨ x1.toNat < LO ∨ HI < x1.toNat) = true := decide_eq_true hb
                  have hlead := HL.out
                  rw [if_pos hb] at hlead
                  have HL2 := Lib.hid hlead
                  clear HL hlead
                  go_wp2
                  all_goals (go_ret; exact ⟨by rw [HL2.out]; rfl, hbc.out⟩)
                · have hbd : decide (t.size < 2 ∨ x1.toNat < LO ∨ HI < x1.toNat) = false := decide_eq_false hb
                  have hlead := HL.out
                  rw [if_neg hb] at hlead
                  obtain ⟨t1, ht1⟩ : ∃ t1, t.extract 2 t.size = t1 := ⟨_, rfl⟩
                  have z1 : t1.size + 2 = t.size := by rw [← ht1, Lib.ext_size]; omega
                  obtain ⟨o1, sl1, HV1⟩ := slice_i g o t 2 2 rfl (by omega) hmx t1 ht1 w HV.out
                  have v1 : Hid (Lib.validD t1.data.toList = ANS) := Lib.hid (by rw [← ht1, Lib.ext_list, hlead])
                  clear HL hlead ht1
                  go_wp2
                  go_roundg g'
                  case measure => omega
                  case rel => exact ⟨hbc.out, t1, o1, rfl, HV1, v1, by omega, by omega⟩
          by_cases s3 : SZ = 3
          · as_aux_lemma =>
              subst s3
              have hSZz : (X : Int) % 8 = 3 := by omega
              simp only [Lib.checkN, Nat.reduceEqDiff, if_true, if_false] at hlead
              have HL := Lib.hid hlead
              clear hlead
              go_upto_region 22 with fail
              go_cut [138] from 108 to 138 (fun c wx => c = .bool (decide (t.size < 3 ∨ x1.toNat < LO ∨ HI < x1.toNat ∨ x2.toNat < 128 ∨ 191 < x2.toNat)) ∧ Hid (Below w.heap.size w wx))
              case first =>
                obtain ⟨W5, hW5⟩ : ∃ Y, wr.alloc (.cells #[.int .u8 (LO : Int), .int .u8 (HI : Int)] 68) = Y := ⟨_, rfl⟩
                rw [hW5]
                have c5a : W5.cell? ⟨wr.heap.size, 0, none⟩ = some (.int .u8 (LO : Int)) := by rw [← hW5]; simp [go_sem]
                have c5b : W5.cell? ⟨wr.heap.size, 1, none⟩ = some (.int .u8 (HI : Int)) := by rw [← hW5]; simp [go_sem]
                have HB5 : Hid (Below w.heap.size w W5) := Lib.hid (by rw [← hW5]; exact hbw.alloc hbw.size _)
                clear hW5
                by_cases q0 : t.size < 3
                · have q0z : (t.size : Int) < 3 := by omega
                  go_big_quiet_o (fail)
                  go_wp2
                  go_meet
                  exact ⟨congrArg Value.bool (decide_eq_true (p := t.size < 3 ∨ x1.toNat < LO ∨ HI < x1.toNat ∨ x2.toNat < 128 ∨ 191 < x2.toNat) (by omega)).symm, Lib.hid (below_drewNq HB5.out _)⟩
                · have q0z : ¬ ((t.size : Int) < 3) := by omega
                  have hz1 : (1 : Int) < (t.size : Int) := by omega
                  have hp1 : 1 < t.size := by omega
                  have hs1 := (HV.out.below HB5.out hg).get 1 hp1 x1 hx1
                  have hz2 : (2 : Int) < (t.size : Int) := by omega
                  have hp2 : 2 < t.size := by omega
                  have hs2 := (HV.out.below HB5.out hg).get 2 hp2 x2 hx2
                  by_cases q1 : x1.toNat < LO
                  · have q1z : (x1.toNat : Int) < (LO : Int) := by omega
                    go_big_quiet_o (fail)
                    go_wp2
                    go_meet
                    exact ⟨congrArg Value.bool (decide_eq_true (p := t.size < 3 ∨ x1.toNat < LO ∨ HI < x1.toNat ∨ x2.toNat < 128 ∨ 191 < x2.toNat) (by omega)).symm, Lib.hid (below_drewNq HB5.out _)⟩
                  · have q1z : ¬ ((x1.toNat : Int) < (LO : Int)) := by omega
                    by_cases q2 : HI < x1.toNat
                    · have q2z : (HI : Int) < (x1.toNat : Int) := by omega
                      go_big_quiet_o (fail)
                      go_wp2
                      go_meet
                      exact ⟨congrArg Value.bool (decide_eq_true (p := t.size < 3 ∨ x1.toNat < LO ∨ HI < x1.toNat ∨ x2.toNat < 128 ∨ 191 < x2.toNat) (by omega)).symm, Lib.hid (below_drewNq HB5.out _)⟩
                    · have q2z : ¬ ((HI : Int) < (x1.toNat : Int)) := by omega
                      by_cases q3 : x2.toNat < 128
                      · have q3z : (x2.toNat : Int) < 128 := by omega
                        go_big_quiet_o (fail)
                        go_wp2
                        go_meet
                        exact ⟨congrArg Value.bool (decide_eq_true (p := t.size < 3 ∨ x1.toNat < LO ∨ HI < x1.toNat ∨ x2.toNat < 128 ∨ 191 < x2.toNat) (by omega)).symm, Lib.hid (below_drewNq HB5.out _)⟩
                      · have q3z : ¬ ((x2.toNat : Int) < 128) := by omega
                        by_cases q4 : 191 < x2.toNat
                        · have q4z : (191 : Int) < (x2.toNat : Int) := by omega
                          go_big_quiet_o (fail)
                          go_wp2
                          go_meet
                          exact ⟨congrArg Value.bool (decide_eq_true (p := t.size < 3 ∨ x1.toNat < LO ∨ HI < x1.toNat ∨ x2.toNat < 128 ∨ 191 < x2.toNat) (by omega)).symm, Lib.hid (below_drewNq HB5.out _)⟩
                        · have q4z : ¬ ((191 : Int) < (x2.toNat : Int)) := by omega
                          go_big_quiet_o (fail)
                          go_wp2
                          go_meet
                          exact ⟨congrArg Value.bool (decide_eq_false (p := t.size < 3 ∨ x1.toNat < LO ∨ HI < x1.toNat ∨ x2.toNat < 128 ∨ 191 < x2.toNat) (by omega)).symm, Lib.hid (below_drewNq HB5.out _)⟩
              case rest =>
                obtain ⟨rfl, hbc⟩ := hcut
                by_cases hb : t.size < 3 ∨ x1.toNat < LO ∨ HI < x1.toNat ∨ x2.toNat < 128 ∨ 191 < x2.toNat
                · have hbd : decide (t.size < 3 ∨ x1.toNat < LO ∨ HI < x1.toNat ∨ x2.toNat < 128 ∨ 191 < x2.toNat) = true := decide_eq_true hb
                  have hlead := HL.out
                  rw [if_pos hb] at hlead
                  have HL2 := Lib.hid hlead
                  clear HL hlead
                  go_wp2
                  all_goals (go_ret; exact ⟨by rw [HL2.out]; rfl, hbc.out⟩)
                · have hbd : decide (t.size < 3 ∨ x1.toNat < LO ∨ HI < x1.toNat ∨ x2.toNat < 128 ∨ 191 < x2.toNat) = false := decide_eq_false hb
                  have hlead := HL.out
                  rw [if_neg hb] at hlead
                  obtain ⟨t1, ht1⟩ : ∃ t1, t.extract 3 t.size = t1 := ⟨_, rfl⟩
                  have z1 : t1.size + 3 = t.size := by rw [← ht1, Lib.ext_size]; omega
                  obtain ⟨o1, sl1, HV1⟩ := slice_i g o t 3 3 rfl (by omega) hmx t1 ht1 w HV.out
                  have v1 : Hid (Lib.validD t1.data.toList = ANS) := Lib.hid (by rw [← ht1, Lib.ext_list, hlead])
                  clear HL hlead ht1
                  go_wp2
                  go_roundg g'
                  case measure => omega
                  case rel => exact ⟨hbc.out, t1, o1, rfl, HV1, v1, by omega, by omega⟩
          by_cases s4 : SZ = 4
          · as_aux_lemma =>
              subst s4
              have hSZz : (X : Int) % 8 = 4 := by omega
              simp only [Lib.checkN, Nat.reduceEqDiff, if_true, if_false] at hlead
              have HL := Lib.hid hlead
              clear hlead
              go_upto_region 26 with fail
              go_cut [185] from 143 to 185 (fun c wx => c = .bool (decide (t.size < 4 ∨ x1.toNat < LO ∨ HI < x1.toNat ∨ x2.toNat < 128 ∨ 191 < x2.toNat ∨ x3.toNat < 128 ∨ 191 < x3.toNat)) ∧ Hid (Below w.heap.size w wx))
              case first =>
                obtain ⟨W5, hW5⟩ : ∃ Y, wr.alloc (.cells #[.int .u8 (LO : Int), .int .u8 (HI : Int)] 68) = Y := ⟨_, rfl⟩
                rw [hW5]
                have c5a : W5.cell? ⟨wr.heap.size, 0, none⟩ = some (.int .u8 (LO : Int)) := by rw [← hW5]; simp [go_sem]
                have c5b : W5.cell? ⟨wr.heap.size, 1, none⟩ = some (.int .u8 (HI : Int)) := by rw [← hW5]; simp [go_sem]
                have HB5 : Hid (Below w.heap.size w W5) := Lib.hid (by rw [← hW5]; exact hbw.alloc hbw.size _)
                clear hW5
                by_cases q0 : t.size < 4
                · have q0z : (t.size : Int) < 4 := by omega
                  go_big_quiet_o (fail)
                  go_wp2
                  go_meet
                  exact ⟨congrArg Value.bool (decide_eq_true (p := t.size < 4 ∨ x1.toNat < LO ∨ HI < x1.toNat ∨ x2.toNat < 128 ∨ 191 < x2.toNat ∨ x3.toNat < 128 ∨ 191 < x3.toNat) (by omega)).symm, Lib.hid (below_drewNq HB5.out _)⟩
                · have q0z : ¬ ((t.size : Int) < 4) := by omega
                  have hz1 : (1 : Int) < (t.size : Int) := by omega
                  have hp1 : 1 < t.size := by omega
                  have hs1 := (HV.out.below HB5.out hg).get 1 hp1 x1 hx1
                  have hz2 : (2 : Int) < (t.size : Int) := by omega
                  have hp2 : 2 < t.size := by omega
                  have hs2 := (HV.out.below HB5.out hg).get 2 hp2 x2 hx2
                  have hz3 : (3 : Int) < (t.size : Int) := by omega
                  have hp3 : 3 < t.size := by omega
                  have hs3 := (HV.out.below HB5.out hg).get 3 hp3 x3 hx3
                  by_cases q1 : x1.toNat < LO
                  · have q1z : (x1.toNat : Int) < (LO : Int) := by omega
                    go_big_quiet_o (fail)
                    go_wp2
                    go_meet
                    exact ⟨congrArg Value.bool (decide_eq_true (p := t.size < 4 ∨ x1.toNat < LO ∨ HI < x1.toNat ∨ x2.toNat < 128 ∨ 191 < x2.toNat ∨ x3.toNat < 128 ∨ 191 < x3.toNat) (by omega)).symm, Lib.hid (below_drewNq HB5.out _)⟩
                  · have q1z : ¬ ((x1.toNat : Int) < (LO : Int)) := by omega
                    by_cases q2 : HI < x1.toNat
                    · have q2z : (HI : Int) < (x1.toNat : Int) := by omega
                      go_big_quiet_o (fail)
                      go_wp2
                      go_meet
                      exact ⟨congrArg Value.bool (decide_eq_true (p := t.size < 4 ∨ x1.toNat < LO ∨ HI < x1.toNat ∨ x2.toNat < 128 ∨ 191 < x2.toNat ∨ x3.toNat < 128 ∨ 191 < x3.toNat) (by omega)).symm, Lib.hid (below_drewNq HB5.out _)⟩
                    · have q2z : ¬ ((HI : Int) < (x1.toNat : Int)) := by omega
                      by_cases q3 : x2.toNat < 128
                      · have q3z : (x2.toNat : Int) < 128 := by omega
                        go_big_quiet_o (fail)
                        go_wp2
                        go_meet
                        exact ⟨congrArg Value.bool (decide_eq_true (p := t.size < 4 ∨ x1.toNat < LO ∨ HI < x1.toNat ∨ x2.toNat < 128 ∨ 191 < x2.toNat ∨ x3.toNat < 128 ∨ 191 < x3.toNat) (by omega)).symm, Lib.hid (below_drewNq HB5.out _)⟩
                      · have q3z : ¬ ((x2.toNat : Int) < 128) := by omega
                        by_cases q4 : 191 < x2.toNat
                        · have q4z : (191 : Int) < (x2.toNat : Int) := by omega
                          go_big_quiet_o (fail)
                          go_wp2
                          go_meet
                          exact ⟨congrArg Value.bool (decide_eq_true (p := t.size < 4 ∨ x1.toNat < LO ∨ HI < x1.toNat ∨ x2.toNat < 128 ∨ 191 < x2.toNat ∨ x3.toNat < 128 ∨ 191 < x3.toNat) (by omega)).symm, Lib.hid (below_drewNq HB5.out _)⟩
                        · have q4z : ¬ ((191 : Int) < (x2.toNat : Int)) := by omega
                          by_cases q5 : x3.toNat < 128
                          · have q5z : (x3.toNat : Int) < 128 := by omega
                            go_big_quiet_o (fail)
                            go_wp2
                            go_meet
                            exact ⟨congrArg Value.bool (decide_eq_true (p := t.size < 4 ∨ x1.toNat < LO ∨ HI < x1.toNat ∨ x2.toNat < 128 ∨ 191 < x2.toNat ∨ x3.toNat < 128 ∨ 191 < x3.toNat) (by omega)).symm, Lib.hid (below_drewNq HB5.out _)⟩
                          · have q5z : ¬ ((x3.toNat : Int) < 128) := by omega
                            by_cases q6 : 191 < x3.toNat
                            · have q6z : (191 : Int) < (x3.toNat : Int) := by omega
                              go_big_quiet_o (fail)
                              go_wp2
                              go_meet
                              exact ⟨congrArg Value.bool (decide_eq_true (p := t.size < 4 ∨ x1.toNat < LO ∨ HI < x1.toNat ∨ x2.toNat < 128 ∨ 191 < x2.toNat ∨ x3.toNat < 128 ∨ 191 < x3.toNat) (by omega)).symm, Lib.hid (below_drewNq HB5.out _)⟩
                            · have q6z : ¬ ((191 : Int) < (x3.toNat : Int)) := by omega
                              go_big_quiet_o (fail)
                              go_wp2
                              go_meet
                              exact ⟨congrArg Value.bool (decide_eq_false (p := t.size < 4 ∨ x1.toNat < LO ∨ HI < x1.toNat ∨ x2.toNat < 128 ∨ 191 < x2.toNat ∨ x3.toNat < 128 ∨ 191 < x3.toNat) (by omega)).symm, Lib.hid (below_drewNq HB5.out _)⟩
              case rest =>
                obtain ⟨rfl, hbc⟩ := hcut
                by_cases hb : t.size < 4 ∨ x1.toNat < LO ∨ HI < x1.toNat ∨ x2.toNat < 128 ∨ 191 < x2.toNat ∨ x3.toNat < 128 ∨ 191 < x3.toNat
                · have hbd : decide (t.size < 4 ∨ x1.toNat < LO ∨ HI < x1.toNat ∨ x2.toNat < 128 ∨ 191 < x2.toNat ∨ x3.toNat < 128 ∨ 191 < x3.toNat) = true := decide_eq_true hb
                  have hlead := HL.out
                  rw [if_pos hb] at hlead
                  have HL2 := Lib.hid hlead
                  clear HL hlead
                  go_wp2
                  all_goals (go_ret; exact ⟨by rw [HL2.out]; rfl, hbc.out⟩)
                · have hbd : decide (t.size < 4 ∨ x1.toNat < LO ∨ HI < x1.toNat ∨ x2.toNat < 128 ∨ 191 < x2.toNat ∨ x3.toNat < 128 ∨ 191 < x3.toNat) = false := decide_eq_false hb
                  have hlead := HL.out
                  rw [if_neg hb] at hlead
                  obtain ⟨t1, ht1⟩ : ∃ t1, t.extract 4 t.size = t1 := ⟨_, rfl⟩
                  have z1 : t1.size + 4 = t.size := by rw [← ht1, Lib.ext_size]; omega
                  obtain ⟨o1, sl1, HV1⟩ := slice_i g o t 4 4 rfl (by omega) hmx t1 ht1 w HV.out
                  have v1 : Hid (Lib.validD t1.data.toList = ANS) := Lib.hid (by rw [← ht1, Lib.ext_list, hlead])
                  clear HL hlead ht1
                  go_wp2
                  go_roundg g'
                  case measure => omega
                  case rel => exact ⟨hbc.out, t1, o1, rfl, HV1, v1, by omega, by omega⟩
          have e2 : ¬ ((X : Int) % 8 = 2) := by omega
          have e3 : ¬ ((X : Int) % 8 = 3) := by omega
          have e4 : ¬ ((X : Int) % 8 = 4) := by omega
          have e2b : (((X : Int) % 8) == 2) = false := by simp; omega
          have e3b : (((X : Int) % 8) == 3) = false := by simp; omega
          have e4b : (((X : Int) % 8) == 4) = false := by simp; omega
          simp only [Lib.checkN, s2, s3, s4, if_false] at hlead
          have HL := Lib.hid hlead
          clear hlead
          go_wp2
          all_goals (go_ret; exact ⟨by rw [HL.out]; rfl, hbw.alloc hbw.size _⟩)
    · have h0z : ¬ ((0 : Int) < (t.size : Int)) := by omega
      have ht0 : t.data.toList = [] := List.eq_nil_of_length_eq_zero (by rw [← Lib.size_eq]; omega)
      have hv2 := hv.out
      rw [ht0, Lib.validD_nil] at hv2
      subst hv2
      go_wp2
      go_ret
      exact ⟨rfl, hbw⟩
end Go.Proofs.YtcohlcijgfdanaaDoor.lt
