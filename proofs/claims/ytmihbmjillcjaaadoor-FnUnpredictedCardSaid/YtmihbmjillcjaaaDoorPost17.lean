/-
  filter.decodePostProcess, filter.ZzPredicted.
-/
import Derived.Test.YtmihbmjillcjaaaDoorRows27
namespace Go.Proofs.YtmihbmjillcjaaaDoor.up
set_option linter.unusedVariables false
set_option linter.unusedSimpArgs false
open Go.RowKit

set_option maxHeartbeats 2000000 in
set_option maxRecDepth 100000 in
theorem post17 (p : Int) (colors columns size bpp h : Nat) (CF : Cfg p colors columns size bpp h) (bits : Int) (hp : p ∈ [(2 : Int), 10, 11, 12, 13, 14, 15]) (hbits : bits ∈ [(1 : Int), 2, 4, 8, 16])
    (hsz : (bits * colors * columns + 7) / 8 = (size : Int)) (hbpp : (bits * colors + 7) / 8 = (bpp : Int)) (z : Nat → Int) (hz : Bytes z) (K : Nat) (htag : ∀ r, r < K → TagH h (tg z h size r)) (rb db N C : Nat) (hN : N = K * (size + h)) (mb : Nat) (ea eu : Addr) (w : World)
    (hR : RdIs w rb db N C z 0) (hM : Parms w mb p colors bits columns) (hmr : mb ≠ rb) (hE : w.cell? ⟨0, 0, none⟩ = some (.iface 86 (.pointer (some ea)))) (hU : w.cell? ⟨2, 0, none⟩ = some (.iface 86 (.pointer (some eu)))) (hPa : Ptr w ea) (hPu : Ptr w eu) (h0 : 0 ≠ rb) (h2 : 2 ≠ rb) (h3 : ea.block ≠ rb) (h4 : eu.block ≠ rb) :
    Calls Tryd.prog 17 #[.agg #[.map (some mb), .int .i64 1048576], .iface 53 (.pointer (some ⟨rb, 0, none⟩)), .int .i64 (-1)] w fun e w' =>
      ∃ b : Nat, e = .returned (.tuple #[.iface 67 (.pointer (some ⟨b, 0, none⟩)), .nilIface]) ∧ Hid (w.heap.size ≤ b ∧ Lib.IsBuffer 82 5 b b (outV z h size bpp K) w' ∧ Kept [rb] w w') := by
  have hc1 := CF.c1
  have hc2 := CF.c2
  have hd1 := CF.d1
  have hd2 := CF.d2
  have hs := CF.s
  have hs1 : 1 ≤ size := Nat.le_trans CF.b1 CF.b2
  have hh : h ≤ 1 := by rcases CF.kind with h | h <;> omega
  have hb16 : 1 ≤ bits ∧ bits ≤ 16 := by simp at hbits; omega
  have hA1 : 1 ≤ bits * (colors : Int) := by have := Int.mul_le_mul hb16.1 (show (1 : Int) ≤ colors by omega) (by omega) (by omega); omega
  have hA2 : bits * (colors : Int) ≤ 128 := by have := Int.mul_le_mul hb16.2 (show (colors : Int) ≤ 8 by omega) (by omega) (by omega); omega
  have hB1 : 1 ≤ bits * (colors : Int) * (columns : Int) := by have := Int.mul_le_mul hA1 (show (1 : Int) ≤ columns by omega) (by omega) (by omega); omega
  have hB2 : bits * (colors : Int) * (columns : Int) ≤ 128000 := by have := Int.mul_le_mul hA2 (show (columns : Int) ≤ 1000 by omega) (by omega) (by omega); omega
  have hp1 : (p == 1) = false := by simp at hp ⊢; omega
  have hpar := fun w => params25 p colors bits columns _ _ rfl rfl (by omega) (by omega) hb16.1 hb16.2 (by omega) (by omega) hA1 hA2 hB1 hB2 w
  rw [hsz, hbpp] at hpar
  have hlen : (if p = 2 then (size : Int) else (size : Int) + 1) = ((size + h : Nat) : Int) := by
    rcases CF.kind with h | h
    · rw [if_neg h.2, h.1]; rfl
    · rw [if_pos h.2.1, h.1]; rfl
  rw [hlen] at hpar
  have HPAR := Lib.hid hpar
  have hvalid := Lib.hid fun W => valid23 p hp W
  have hparm := Lib.hid fun W hW => parms24 p colors bits columns (by omega) hbits (by omega) mb 1048576 W hW
  have hrows := Lib.hid fun W (hR : RdIs W rb db N C z 0) hE hU hPa hPu => rows27 p colors columns size bpp h CF z hz K htag rb db N C hN mb ea eu W hR hE hU hPa hPu h0 h2 h3 h4
  have hrem : ((K * size : Nat) : Int) % (size : Int) = 0 := by push_cast; exact Int.mul_emod_left _ _
  have hKs : K * size ≤ 100000 := Nat.le_trans (Nat.mul_le_mul_left K (Nat.le_add_right size h)) (by rw [← hN]; exact hR.bound)
  obtain ⟨W0, hW0⟩ : ∃ W0, w.alloc (.cells #[.map (some mb), .int .i64 1048576] 51) = W0 := ⟨_, rfl⟩
  obtain ⟨s0, hs0⟩ : ∃ s0, w.heap.size = s0 := ⟨_, rfl⟩
  have k0 : Kept [] w W0 := by rw [← hW0]; exact (Kept.refl _ _).alloc _
  have f0 : W0.cell? ⟨s0, 0, none⟩ = some (.map (some mb)) := by rw [← hW0, ← hs0]; simp [go_sem]
  have f1 : W0.cell? ⟨s0, 1, none⟩ = some (.int .i64 1048576) := by rw [← hW0, ← hs0]; simp [go_sem]
  have hM0 := hM.kept (w' := W0) (k0.block mb hM.lt (by simp))
  have hl := look_pred hM0
  unfold kPred at hl
  have HM0 := Lib.hid hM0
  have HK0 := Lib.hid k0
  have HR := Lib.hid hR
  have HS0 := Lib.hid hs0
  have HALL := Lib.hid (And.intro hE (And.intro hU (And.intro hPa hPu)))
  have hcf := Lib.hid CF
  have hsz0 : Hid (W0.heap.size = s0 + 1) := Lib.hid (by rw [← hW0, ← hs0]; simp)
  clear hp hbits hsz hbpp CF hz htag hN hR hM hmr hE hU hPa hPu h0 h2 h3 h4 hA1 hA2 hB1 hB2 hpar hlen k0 hM0 hb16
  go_enter Tryd.func17, Tryd.ntmps17
  go_wp2_with (go_at_call 23; refine (hvalid.out _).mono ?_; rintro e w1 ⟨rfl, hb1⟩; refine Hid.out ?_)
  refine Lib.hid ?_
  have K1 := Lib.hid (Kept.of_below hb1 [])
  have g0 := K1.out.cell f0 (by simp)
  have g1 := K1.out.cell f1 (by simp)
  have hp24 := Lib.hid (hparm.out w1 (HM0.out.kept (K1.out.block mb HM0.out.lt (by simp))))
  have F0 := Lib.hid f0
  have F1 := Lib.hid f1
  clear hb1 f0 f1 hl hW0 hs0
  go_wp2_with (go_at_call 24; refine hp24.out.mono ?_; rintro e w2 ⟨rfl, hb2⟩; refine Hid.out ?_)
  refine Lib.hid ?_
  have K2 := Lib.hid (K1.out.trans (Kept.of_below hb2 []))
  have g0 := K2.out.cell F0.out (by simp)
  have g1 := K2.out.cell F1.out (by simp)
  clear hb2 hp24 K1
  have hlim := Lib.hid fun w => limit26 (.map (some mb)) w
  have hszi : ¬ (1048576 : Int) < ((size + h : Nat) : Int) := by omega
  go_wp2_with (first
    | (go_at_call 25; refine (HPAR.out _).mono ?_; rintro e w3 ⟨rfl, rfl⟩)
    | (go_at_call 26; refine (hlim.out _).mono ?_; rintro e w3 ⟨rfl, hb3⟩; refine Hid.out ?_))
  refine Lib.hid ?_
  have K3 := Lib.hid (K2.out.trans (Kept.of_below hb3 []))
  have g0 := K3.out.cell F0.out (by simp)
  have g1 := K3.out.cell F1.out (by simp)
  have kw3 := HK0.out.trans K3.out
  have hr27 := Lib.hid (hrows.out w3 (HR.out.kept kw3 (by simp) (by simp)) (kw3.cell HALL.out.1 (by simp)) (kw3.cell HALL.out.2.1 (by simp)) (HALL.out.2.2.1.kept kw3 (by simp)) (HALL.out.2.2.2.kept kw3 (by simp)))
  have KW3 := Lib.hid kw3
  have hsz3 : Hid (s0 ≤ w3.heap.size) := Lib.hid (by have := K3.out.size; have := hsz0.out; omega)
  clear hb3 K2 kw3 hrows
  obtain ⟨b, hb⟩ : ∃ b, w3.heap.size + 3 = b := ⟨_, rfl⟩
  rw [hb] at hr27
  have HB := Lib.hid hb
  clear hb
  go_wp2_with (go_at_call 27; refine hr27.out.mono ?_; rintro e w4 ⟨rfl, r1, r2⟩; refine Hid.out ?_)
  refine Lib.hid ?_
  have hbl := Lib.hid (Tryd.Buffer_Len _ _ _ w4 r1)
  rw [outV_length] at hbl
  have R1 := Lib.hid r1
  have R2 := Lib.hid r2
  have hsi : ¬ (size : Int) = 0 := by omega
  clear r1 r2 hr27
  generalize K * size = L at *
  go_wp2_with (go_at_call 28; refine hbl.out.mono ?_; rintro e w5 ⟨rfl, n5, rfl⟩)
  go_ret2
  refine ⟨b, rfl, Lib.hid ⟨by have := HB.out; have := hsz3.out; rw [HS0.out]; omega, buf_keep ((Kept.refl [] _).drewN n5) (by simp) R1.out, ?_⟩⟩
  exact ((KW3.out.mono (by simp)).trans R2.out).drewN n5

theorem new18 (a : Option Addr) (n c : Nat) (w : World) : Calls Tryd.prog 18 #[.slice a n c] w fun e w' => e = .returned (.pointer (some ⟨w.heap.size, 0, none⟩)) ∧ w' = w.alloc (.cells #[.slice a n c, .int .i64 0, .int .i64 (-1)] 73) := by
  go_enter Tryd.func18, Tryd.ntmps18
  go_wp2_with fail
  go_ret
  exact ⟨rfl, rfl⟩

set_option maxHeartbeats 2000000 in
set_option maxRecDepth 100000 in
theorem zz10 (p : Int) (colors columns size bpp h : Nat) (CF : Cfg p colors columns size bpp h) (bits : Int) (hp : p ∈ [(2 : Int), 10, 11, 12, 13, 14, 15]) (hbits : bits ∈ [(1 : Int), 2, 4, 8, 16])
    (hsz : (bits * colors * columns + 7) / 8 = (size : Int)) (hbpp : (bits * colors + 7) / 8 = (bpp : Int)) (z : Nat → Int) (hz : Bytes z) (K : Nat) (htag : ∀ r, r < K → TagH h (tg z h size r)) (db N C : Nat) (hN : N = K * (size + h)) (hN2 : N ≤ 100000) (hNC : N ≤ C) (mb : Nat) (ea eu : Addr) (w : World)
    (hD : ∀ i, i < N → w.cell? ⟨db, i, none⟩ = some (.int .u8 (z i))) (hdb : db < w.heap.size) (hM : Parms w mb p colors bits columns) (hE : w.cell? ⟨0, 0, none⟩ = some (.iface 86 (.pointer (some ea)))) (hU : w.cell? ⟨2, 0, none⟩ = some (.iface 86 (.pointer (some eu)))) (hPa : Ptr w ea) (hPu : Ptr w eu) :
    Calls Tryd.prog 10 #[.map (some mb), .slice (some ⟨db, 0, none⟩) N C, .int .i64 (-1), .int .i64 1048576] w fun e w' =>
      ∃ b : Nat, e = .returned (.tuple #[.iface 67 (.pointer (some ⟨b, 0, none⟩)), .nilIface]) ∧ Hid (w.heap.size ≤ b ∧ Lib.IsBuffer 82 5 b b (outV z h size bpp K) w' ∧ Below w.heap.size w w') := by
  obtain ⟨s0, hs0⟩ : ∃ s0, w.heap.size = s0 := ⟨_, rfl⟩
  obtain ⟨W0, hW0⟩ : ∃ W0, w.alloc (.cells #[.slice (some ⟨db, 0, none⟩) N C, .int .i64 0, .int .i64 (-1)] 73) = W0 := ⟨_, rfl⟩
  have k0 : Kept [] w W0 := by rw [← hW0]; exact (Kept.refl _ _).alloc _
  have hnew := Lib.hid (new18 (some ⟨db, 0, none⟩) N C w)
  rw [hs0, hW0] at hnew
  have hR : RdIs W0 s0 db N C z 0 := by
    refine ⟨⟨-1, ?_⟩, fun i hi => k0.cell (hD i hi) (by simp), Nat.zero_le _, hN2, by omega, hNC⟩
    rw [← hW0, ← hs0]
    exact heap_alloc_new _ _
  have hlt : ∀ {k : Nat} {v : Value}, w.cell? ⟨k, 0, none⟩ = some v → k ≠ s0 := fun h => by have := World.block_lt_of_cell? _ _ h; simp at this; omega
  have hpost := Lib.hid (post17 p colors columns size bpp h CF bits hp hbits hsz hbpp z hz K htag s0 db N C hN mb ea eu W0 hR (hM.kept (k0.block mb hM.lt (by simp))) (by have := hM.lt; omega) (k0.cell hE (by simp)) (k0.cell hU (by simp)) (hPa.kept k0 (by simp)) (hPu.kept k0 (by simp))
    (hlt hE) (hlt hU) (by have := hPa.lt; omega) (by have := hPu.lt; omega))
  have hsz0 : Hid (W0.heap.size = s0 + 1) := Lib.hid (by rw [← hW0, ← hs0]; simp)
  have HK0 := Lib.hid k0
  have HS0 := Lib.hid hs0
  clear CF hp hbits hsz hbpp hz htag hN hD hM hE hU hPa hPu hR hlt hW0 hs0 k0
  go_enter Tryd.func10, Tryd.ntmps10
  go_wp2_with (first
    | (go_at_call 18; refine hnew.out.mono ?_; rintro e w1 ⟨rfl, rfl⟩)
    | (go_at_call 17; refine hpost.out.mono ?_; rintro e w2 ⟨b, rfl, hb⟩))
  go_ret2
  refine ⟨b, rfl, Lib.hid ?_⟩
  obtain ⟨h1, h2, h3⟩ := hb.out
  have hh := hsz0.out
  rw [HS0.out]
  exact ⟨by omega, h2, ((HK0.out.mono (by simp)).trans h3).below (by rw [HS0.out]; exact Nat.le_refl _) (by simp)⟩
end Go.Proofs.YtmihbmjillcjaaaDoor.up
