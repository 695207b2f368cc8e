/-
  Scanner.Scan where a read comes first: one of its ways.
-/
import Derived.Test.YtoaedibfgegilaaGreatDoorSrh
namespace Go.Proofs.YtoaedibfgegilaaGreatDoor.st
open Go.RowKit
set_option linter.unusedVariables false
set_option linter.unusedSimpArgs false

set_option maxHeartbeats 40000000 in
set_option maxRecDepth 100000 in
theorem scan_miss_D (B sc rd : Nat) (T : ByteArray) (p r st en i : Nat) (tok bufv : Value) (emp : Int) (cl : Bool) (w : World) (h : Scn B w sc rd T p r st en tok bufv emp cl) (hi : EolAt T p i) (hir : r ≤ i) (hbv0 : bufv ≠ .slice none 0 0) (hq0 : 0 < st ∧ st ≤ 2048 ∧ en ≠ 4096) (hq1 : st < en) :
    Calls Tryz.prog 79 #[.pointer (some ⟨sc, 0, none⟩)] w fun e w' => ScanE B w sc rd T p i e w' := by
  have HQ := Lib.hid (And.intro hq0 (And.intro hq1 hir))
  clear hq0 hq1 hir
  have c9 : w.cell? ⟨sc, 9, none⟩ = some (.bool cl) := cellsOf h.scs 9
  have c10 : w.cell? ⟨sc, 10, none⟩ = some (.bool false) := cellsOf h.scs 10
  have f9 : w.frozen? ⟨sc, 9, none⟩ = false := frozenOf h.scs 9
  have h1 : Scn B (w.setCell ⟨sc, 9, none⟩ (.bool true)) sc rd T p r st en tok bufv emp true := h.set 9 _ rfl h.le id
  have HS := Lib.hid h1
  have HI := Lib.hid hi
  have HFR : Hid (Fr B w (w.setCell ⟨sc, 9, none⟩ (.bool true))) := Lib.hid (h.fr_set ((Kept.refl _ _).setCell (by simp) _))
  clear h1 h hi
  go_enter Tryz.func79, Tryz.ntmps79
  go_wp2_with fail
  clear c9 c10 f9
  obtain ⟨wr, hwr⟩ : ∃ wr, w.setCell ⟨sc, 9, none⟩ (.bool true) = wr := ⟨_, rfl⟩
  rw [hwr]
  rw [hwr] at HS HFR
  have hS := HS.out
  clear HS hwr
  obtain ⟨g, F, hbv, hBg, hrow, hen, hen2, hFb⟩ := (hS.buf.resolve_left (fun e => hbv0 e.1))
  subst hbv
  have g1 : (st : Int) < (en : Int) := by have := HQ.out; omega
  have g2 : (0 : Int) < (st : Int) := by have := HQ.out; omega
  have g2b : 0 < st := by have := HQ.out; omega
  have g3 : ((en : Int) == 4096) = false := by have := HQ.out; simp; omega
  have g3b : decide ((2048 : Int) < (st : Int)) = false := by have := HQ.out; simp; omega
  have g3c : decide (2048 < st) = false := by have := HQ.out; simp; omega
  have g4 : (st : Int) ≤ (en : Int) := by have := hS.le; omega
  have g5 : (en : Int) ≤ 4096 := by omega
  have g6 : (0 : Int) ≤ (st : Int) := by omega
  have g7 : (0 : Int) ≤ (en : Int) := by omega
  have g8 : st ≤ en := by omega
  have g9 : en ≤ 4096 := hen2
  have hrT := hS.rT
  have hle := hS.le
  obtain ⟨v21, hv21, h21⟩ := lines21 T p i (r - p) g st (4096 - st) HI.out (by omega) hS.tT (by omega) (by omega)
  obtain rfl := lines_miss hv21 (by have := HQ.out; omega)
  have H21 : Hid (∀ V, Kept [] wr V → Calls Tryz.prog 21 #[.slice (some ⟨g, st, none⟩) (en - st) (4096 - st), .bool false] V fun e w' => e = .returned (.tuple #[.int .i64 0, .slice none 0 0, .nilIface]) ∧ ∃ m, w' = V.drewN m) := Lib.hid fun V k => by
    rw [show en - st = r - p by omega]
    exact h21 V (fun k' hk' => by
      rw [(k.row hrow (by simp)).cell (by omega)]
      exact congrArg some (hFb k' hk'))
  clear h21 hv21 hrT hle
  have z0 : wr.cell? ⟨sc, 0, none⟩ = some (.iface 62 (.pointer (some ⟨rd, 0, none⟩))) := cellsOf hS.scs 0
  have z1 : wr.cell? ⟨sc, 1, none⟩ = some (.func (.func 21) #[] #[]) := cellsOf hS.scs 1
  have z4 : wr.cell? ⟨sc, 4, none⟩ = some (.slice (some ⟨g, 0, none⟩) 4096 4096) := cellsOf hS.scs 4
  have z5 : wr.cell? ⟨sc, 5, none⟩ = some (.int .i64 (st : Int)) := cellsOf hS.scs 5
  have z6 : wr.cell? ⟨sc, 6, none⟩ = some (.int .i64 (en : Int)) := cellsOf hS.scs 6
  have z7 : wr.cell? ⟨sc, 7, none⟩ = some (.nilIface) := cellsOf hS.scs 7
  have HS := Lib.hid hS
  have HG := Lib.hid (And.intro hrow (And.intro hFb (And.intro hen hBg)))
  clear hS hbv0 hrow hFb hen hBg hen2
  refine wp_loop_rounds 2 ?_
  rw [rounds_succ]
  go_wp2_with fail
  go_quiet (fail)
  obtain ⟨U, hU⟩ : ∃ W', wr.drewN nq = W' := ⟨_, rfl⟩
  rw [hU]
  have kU : Kept [] wr U := by rw [← hU]; exact (Kept.refl _ _).drewN _
  have y0 := kU.cell z0 (by simp)
  have y1 := kU.cell z1 (by simp)
  have y4 := kU.cell z4 (by simp)
  have y5 := kU.cell z5 (by simp)
  have y6 := kU.cell z6 (by simp)
  have y7 := kU.cell z7 (by simp)
  clear hU z0 z1 z4 z5 z6 z7
  have HKU := Lib.hid kU
  clear kU
  go_wp2_with fail
  go_quiet (first | (go_at_call 21; with_reducible exact Calls.quiet_of (H21.out _ (HKU.out.drewN _))) | fail)
  obtain ⟨V1, hV1⟩ : ∃ W', U.drewN nq = W' := ⟨_, rfl⟩
  rw [hV1]
  have kV1 : Kept [] U V1 := by rw [← hV1]; exact (Kept.refl _ _).drewN _
  have x0 := kV1.cell y0 (by simp)
  have x1 := kV1.cell y1 (by simp)
  have x4 := kV1.cell y4 (by simp)
  have x5 := kV1.cell y5 (by simp)
  have x6 := kV1.cell y6 (by simp)
  have x7 := kV1.cell y7 (by simp)
  clear hV1 y0 y1 y4 y5 y6 y7
  have HV1 := Lib.hid (HKU.out.trans kV1)
  have H97 := Lib.hid (advance97z V1 sc rd st en tok _ emp true (HS.out.kept HV1.out).scs g8 (by omega))
  clear kV1 x0 x1 x4 x5 x6 x7
  go_wp2_with (go_at_call 97; refine H97.out.mono ?_; rintro e V2 ⟨rfl, hsc2, hk2⟩; refine Hid.out ?_)
  refine Lib.hid ?_
  have hS2 : Scn B V2 sc rd T p r st en tok (.slice (some ⟨g, 0, none⟩) 4096 4096) emp true := by
    have h := (HS.out.kept HV1.out).moved (p' := p) hk2 (by simpa using hsc2) (HS.out.le) (.inr rfl) (Nat.le_refl _)
    simpa using h
  have w3 : V2.cell? ⟨sc, 3, none⟩ = some tok := cellsOf hsc2 3
  have u3 : V2.frozen? ⟨sc, 3, none⟩ = false := frozenOf hsc2 3
  obtain ⟨X, hX⟩ : ∃ X, V2.setCell ⟨sc, 3, none⟩ (.slice none 0 0) = X := ⟨_, rfl⟩
  have hSX : Scn B X sc rd T p r st en (.slice none 0 0) (.slice (some ⟨g, 0, none⟩) 4096 4096) emp true := by rw [← hX]; exact hS2.set 3 _ rfl hS2.le id
  have hFX : Fr B w X := HFR.out.trans ((Fr.of_kept HV1.out HS.out.lt.2.2).trans ((Scn.fr_set (HS.out.kept HV1.out) hk2).trans (by rw [← hX]; exact hS2.fr_set ((Kept.refl _ _).setCell (by simp) _))))
  have hgs := HS.out.buf_ne rfl
  have hGX : X.rowIs g 5 4096 F := by
    rw [← hX]
    exact (((HV1.out.row HG.out.1 (by simp))).of_block (hk2.block g (Nat.lt_of_lt_of_le hgs.2.2 HV1.out.size) (by simpa using hgs.1))).setOther (a := ⟨sc, 3, none⟩) hgs.1 _
  have y0 : X.cell? ⟨sc, 0, none⟩ = some (.iface 62 (.pointer (some ⟨rd, 0, none⟩))) := cellsOf hSX.scs 0
  have y4 : X.cell? ⟨sc, 4, none⟩ = some (.slice (some ⟨g, 0, none⟩) 4096 4096) := cellsOf hSX.scs 4
  have y5 : X.cell? ⟨sc, 5, none⟩ = some (.int .i64 (st : Int)) := cellsOf hSX.scs 5
  have y6 : X.cell? ⟨sc, 6, none⟩ = some (.int .i64 (en : Int)) := cellsOf hSX.scs 6
  have y7 : X.cell? ⟨sc, 7, none⟩ = some (.nilIface) := cellsOf hSX.scs 7
  have HSX := Lib.hid hSX
  have HFX := Lib.hid hFX
  have HGX := Lib.hid hGX
  have hnq := neq82n
  clear hS2 hsc2 hk2 hSX hFX hGX hgs
  go_wp2_with fail
  go_quiet (fail)
  obtain ⟨X2, hX2⟩ : ∃ W', X.drewN nq = W' := ⟨_, rfl⟩
  rw [hX2]
  have kX2 : Kept [] X X2 := by rw [← hX2]; exact (Kept.refl _ _).drewN _
  have s0 := kX2.cell y0 (by simp)
  have s4 := kX2.cell y4 (by simp)
  have s5 := kX2.cell y5 (by simp)
  have s6 := kX2.cell y6 (by simp)
  have s7 := kX2.cell y7 (by simp)
  clear hX2 y0 y4 y5 y6 y7
  have HSX2 := Lib.hid (HSX.out.kept kX2)
  have HFX2 := Lib.hid (HFX.out.trans (Fr.of_kept kX2 HSX.out.lt.2.2))
  have HGX2 := Lib.hid (kX2.row HGX.out (by simp))
  clear kX2 HSX HFX HGX
  have HSX := HSX2
  have HFX := HFX2
  have HGX := HGX2
  clear HSX2 HFX2 HGX2
  obtain ⟨FX, hFX⟩ : ∃ FX, FX = F := ⟨_, rfl⟩
  have HBX : Hid (B ≤ g ∧ en = st + (r - p) ∧ ∀ i, i < r - p → FX (st + i) = bi T (p + i)) := Lib.hid ⟨HG.out.2.2.2, HG.out.2.2.1, by rw [hFX]; exact HG.out.2.1⟩
  rw [← hFX] at HGX
  clear hFX
  have HLT : Hid (en < 4096 ∧ st ≤ 2048) := Lib.hid (by have := HQ.out; have := HG.out.2.2.1; have := HI.out.near; have := HI.out.le; omega)
  clear HG
  go_wp2_with fail
  go_quiet (fail)
  obtain ⟨R1, hR1⟩ : ∃ W', X2.drewN nq = W' := ⟨_, rfl⟩
  rw [hR1]
  have kR1 : Kept [] X2 R1 := by rw [← hR1]; exact (Kept.refl _ _).drewN _
  have t0 := kR1.cell s0 (by simp)
  have t4 := kR1.cell s4 (by simp)
  have t5 := kR1.cell s5 (by simp)
  have t6 := kR1.cell s6 (by simp)
  have t7 := kR1.cell s7 (by simp)
  clear hR1 s0 s4 s5 s6 s7
  have HR1 := Lib.hid kR1
  clear kR1
  go_wp2_with fail
  refine wp_loop_rounds 1 ?_
  rw [rounds_succ]
  obtain ⟨n, hn⟩ : ∃ n, n = Nat.min (T.size - r) (4096 - en) := ⟨_, rfl⟩
  have hnr : r < T.size := by have := HQ.out; have := HI.out.lt; omega
  have hn1 : 1 ≤ n ∧ n ≤ 4096 - en ∧ n ≤ T.size - r := by
    have h1 : n ≤ T.size - r := hn ▸ Nat.min_le_left _ _
    have h2 : n ≤ 4096 - en := hn ▸ Nat.min_le_right _ _
    have h5 := HLT.out
    rcases Nat.le_total (T.size - r) (4096 - en) with h3 | h3
    · have h4 : n = T.size - r := hn.trans (Nat.min_eq_left h3)
      omega
    · have h4 : n = 4096 - en := hn.trans (Nat.min_eq_right h3)
      omega
  have hTT := HSX.out.tT
  have H123 := Lib.hid fun V (k : Kept [] X2 V) => read123 V rd g en (4096 - en) (4096 - en) 4096 r n T FX (by obtain ⟨pr, hr⟩ := HSX.out.rds; exact ⟨pr, (k.block rd (Array.getElem?_eq_some_iff.1 hr).1 (by simp)).trans hr⟩) hnr hTT hn (by have := HLT.out; omega) (by have := HLT.out; omega) (k.row HGX.out (by simp)) (HSX.out.buf_ne rfl).2.1
  have n1 := nil123 ⟨rd, 0, none⟩
  have n2 := meth123 ⟨rd, 0, none⟩
  have HN := Lib.hid (And.intro hn hn1)
  have m1 : decide ((n : Int) < 0) = false := by simp
  have m2 : decide ((4096 : Int) - (en : Int) < (n : Int)) = false := by have := HLT.out; simp; omega
  have m3 : (0 : Int) < (n : Int) := by omega
  have m4 : (n : Int) ≤ 4096 := by omega
  have m5 : (en : Int) ≤ 4096 := by have := HLT.out; omega
  have m6 : (0 : Int) ≤ (en : Int) := by omega
  have m7 : en ≤ 4096 := by have := HLT.out; omega
  have m9 : ¬ 4096 = en := by have := HLT.out; omega
  obtain ⟨en2, he2⟩ : ∃ k, en + n = k := ⟨_, rfl⟩
  have m8 : (en : Int) + (n : Int) = (en2 : Int) := by omega
  have HE2 := Lib.hid he2
  have HCE : Hid (X2.cell? ⟨sc, 0, none⟩ = some (.iface 62 (.pointer (some ⟨rd, 0, none⟩))) ∧ X2.cell? ⟨sc, 4, none⟩ = some (.slice (some ⟨g, 0, none⟩) 4096 4096) ∧ X2.cell? ⟨sc, 6, none⟩ = some (.int .i64 (en : Int)) ∧ sc ∉ [rd, g]) := Lib.hid ⟨cellsOf HSX.out.scs 0, cellsOf HSX.out.scs 4, cellsOf HSX.out.scs 6, by have hgs := HSX.out.buf_ne rfl; simp; exact ⟨HSX.out.ne, fun e => hgs.1 e.symm⟩⟩
  clear hn hn1 hnr hTT he2
  go_wp2_with fail
  go_region_held3 (fun w' => w'.cell? ⟨sc, 0, none⟩ = some (.iface 62 (.pointer (some ⟨rd, 0, none⟩))) ∧ w'.cell? ⟨sc, 4, none⟩ = some (.slice (some ⟨g, 0, none⟩) 4096 4096) ∧ w'.cell? ⟨sc, 6, none⟩ = some (.int .i64 (en : Int)))
    (((try dsimp only); (repeat' apply And.intro) <;> (first | with_reducible assumption | (rw [World.cell?_drew]; with_reducible assumption) | fail)))
    (first | (refine step_read rfl (.tmp 286) (.tmp 284) 82 rfl ⟨rd, 0, none⟩ (.slice (some ⟨g, en, none⟩) (4096 - en) (4096 - en)) rfl rfl _ (H123.out _ HR1.out.drew) ?_; rintro e V3 ⟨rfl, a1, a2, a3⟩; refine ⟨_, rfl, ?_⟩; (have o0 : Kept [rd, g] X2 V3 := (HR1.out.drew.mono (by simp)).trans a3); (have q0 : V3.cell? ⟨sc, 0, none⟩ = some (.iface 62 (.pointer (some ⟨rd, 0, none⟩))) := o0.cell HCE.out.1 HCE.out.2.2.2); (have q4 : V3.cell? ⟨sc, 4, none⟩ = some (.slice (some ⟨g, 0, none⟩) 4096 4096) := o0.cell HCE.out.2.1 HCE.out.2.2.2); (have q6 : V3.cell? ⟨sc, 6, none⟩ = some (.int .i64 (en : Int)) := o0.cell HCE.out.2.2.1 HCE.out.2.2.2); (have HAA := Lib.hid (And.intro a1 (And.intro a2 o0))); clear a1 a2 a3 o0) | fail)
  clear t0 t4 t5 t6 t7
  obtain ⟨a1, a2, o0⟩ := HAA.out
  have hgs := HSX.out.buf_ne rfl
  have hns := HSX.out.ne
  have hsc3 : V3.heap[sc]? = some (.cells (scC rd (.slice none 0 0) (.slice (some ⟨g, 0, none⟩) 4096 4096) st en emp true) 84 (0, 0)) := (o0.block sc (Array.getElem?_eq_some_iff.1 HSX.out.scs).1 (by simp; exact ⟨hns, fun e => hgs.1 e.symm⟩)).trans HSX.out.scs
  have HA := Lib.hid (And.intro a1 (And.intro a2 (And.intro o0 hsc3)))
  clear a1 a2 hgs hns o0 hsc3 HAA
  go_wp2_with fail
  go_quiet (fail)
  obtain ⟨V4, hV4⟩ : ∃ W', V3.drewN nq = W' := ⟨_, rfl⟩
  rw [hV4]
  have hsc4 : V4.heap[sc]? = some (.cells (scC rd (.slice none 0 0) (.slice (some ⟨g, 0, none⟩) 4096 4096) st en emp true) 84 (0, 0)) := by rw [← hV4]; exact HA.out.2.2.2
  have k4 : Kept [] V3 V4 := by rw [← hV4]; exact (Kept.refl _ _).drewN _
  have v6 : V4.cell? ⟨sc, 6, none⟩ = some (.int .i64 (en : Int)) := cellsOf hsc4 6
  have v8 : V4.cell? ⟨sc, 8, none⟩ = some (.int .i64 emp) := cellsOf hsc4 8
  have u6 : V4.frozen? ⟨sc, 6, none⟩ = false := frozenOf hsc4 6
  have u8 : V4.frozen? ⟨sc, 8, none⟩ = false := frozenOf hsc4 8
  have HK4 := Lib.hid k4
  clear hV4 q4 q6 hsc4 k4
  go_wp2_with fail
  have hfin : ∃ (wq : World) (r' st' en' : Nat) (tok' bufv' : Value) (emp' : Int), (V4.setCell ⟨sc, 6, none⟩ (.int .i64 (en2 : Int))).setCell ⟨sc, 8, none⟩ (.int .i64 0) = wq ∧ Scn B wq sc rd T p r' st' en' tok' bufv' emp' true ∧ i < r' ∧ Fr B w wq := by
    obtain ⟨b1, b2, b3, b4⟩ := HA.out
    obtain ⟨pr, hr⟩ := b1
    have b1' : RdIs V4 rd T (r + n) := ⟨pr, (HK4.out.block rd (Array.getElem?_eq_some_iff.1 hr).1 (by simp)).trans hr⟩
    have h := HSX.out.read (V := V4) (n := n) HBX.out.1 HBX.out.2.1 HBX.out.2.2 (b3.trans (HK4.out.mono (by simp))) b1' (HK4.out.row b2 (by simp)) (by have := HN.out; have := HI.out.lt; have := HQ.out; omega) (by have := HN.out; have := HLT.out; omega)
    rw [HE2.out] at h
    refine ⟨_, _, _, _, _, _, _, rfl, h, ?_, HFX.out.trans (HSX.out.fr_read HBX.out.1 ?_)⟩
    · exact HI.out.in_buf HSX.out.le HBX.out.2.1 (by have := HLT.out; omega) HQ.out.2.2 HN.out.1
    · exact ((((b3.trans (HK4.out.mono (by simp))).mono (by simp)).setCell (by simp) _).setCell (by simp) _)
  clear v6 v8 u6 u8 m1 m2 m3 m4 m5 m6 m7 m8 m9 n1 n2 g1 g4 g5 g6 g7 g8 g9
  clear HSX HGX HFX HBX HLT HA HK4 HCE H123 HN HE2 HR1
  obtain ⟨wr, r, st, en, tok, bufv, emp, hwr, hS, hir, hfr⟩ := hfin
  rw [hwr]
  have HFR := Lib.hid hfr
  clear hwr hfr
  rw [rounds_succ]
  obtain ⟨g, F, hbv, hBg, hrow, hen, hen2, hFb⟩ := (hS.buf.resolve_left (fun e => by have := HI.out.le; have := e.2.2.2; omega))
  subst hbv
  have hLT := hS.lt
  have z1 : wr.cell? ⟨sc, 1, none⟩ = some (.func (.func 21) #[] #[]) := cellsOf hS.scs 1
  have z4 : wr.cell? ⟨sc, 4, none⟩ = some (.slice (some ⟨g, 0, none⟩) 4096 4096) := cellsOf hS.scs 4
  have z5 : wr.cell? ⟨sc, 5, none⟩ = some (.int .i64 ((st : Nat) : Int)) := cellsOf hS.scs 5
  have z6 : wr.cell? ⟨sc, 6, none⟩ = some (.int .i64 ((en : Nat) : Int)) := cellsOf hS.scs 6
  have z7 : wr.cell? ⟨sc, 7, none⟩ = some .nilIface := cellsOf hS.scs 7
  have g1 : (st : Int) < (en : Int) := by have := HI.out.le; omega
  have g2 : st ≤ en := by omega
  have g3 : en ≤ 4096 := hen2
  have g4 : (st : Int) ≤ (en : Int) := by omega
  have g5 : (en : Int) ≤ 4096 := by omega
  have g6 : (0 : Int) ≤ (st : Int) := by omega
  have g7 : (0 : Int) ≤ (en : Int) := by omega
  have hrT := hS.rT
  have hle := hS.le
  obtain ⟨v21, hv21, h21⟩ := lines21 T p i (r - p) g st (4096 - st) HI.out (by omega) hS.tT (by omega) (by omega)
  obtain ⟨p', hadv, hp', rfl⟩ := lines_hit hv21 (by omega)
  have H21 : Hid (∀ V, Kept [] wr V → Calls Tryz.prog 21 #[.slice (some ⟨g, st, none⟩) (en - st) (4096 - st), .bool false] V fun e w' => e = .returned (.tuple #[.int .i64 ((p' - p : Nat) : Int), .slice (some ⟨g, st, none⟩) (i - p) (4096 - st), .nilIface]) ∧ ∃ m, w' = V.drewN m) := Lib.hid fun V k => by
    rw [show en - st = r - p by omega]
    exact h21 V (fun k' hk' => by
      rw [(k.row hrow (by simp)).cell (by omega)]
      exact congrArg some (hFb k' hk'))
  clear h21 hv21
  have HS := Lib.hid hS
  have HG := Lib.hid (And.intro hrow (And.intro hFb (And.intro hen (And.intro hBg (And.intro hrT hle)))))
  clear hS hrow hFb hrT hle hBg hen
  go_wp2_with fail
  go_quiet (fail)
  obtain ⟨W, hW⟩ : ∃ W, wr.drewN nq = W := ⟨_, rfl⟩
  rw [hW]
  have kW : Kept [] wr W := by rw [← hW]; exact (Kept.refl _ _).drewN _
  have y1 := kW.cell z1 (by simp)
  have y4 := kW.cell z4 (by simp)
  have y5 := kW.cell z5 (by simp)
  have y6 := kW.cell z6 (by simp)
  have y7 := kW.cell z7 (by simp)
  have HKW := Lib.hid kW
  clear hW kW z1 z4 z5 z6 z7
  go_wp2_with fail
  go_quiet (first | (go_at_call 21; with_reducible exact Calls.quiet_of (H21.out _ (HKW.out.drewN _))) | fail)
  obtain ⟨V1, hV1⟩ : ∃ V, W.drewN nq = V := ⟨_, rfl⟩
  rw [hV1]
  have hk1 : Kept [] W V1 := by rw [← hV1]; exact (Kept.refl _ _).drewN _
  clear hV1 y1 y4 y5 y6 y7
  have HV1 := Lib.hid (HKW.out.trans hk1)
  have hS1 := HS.out.kept HV1.out
  have HADV := Lib.hid (And.intro hadv hp')
  have hpp : p ≤ p' := by rcases hadv with h | h <;> have := HI.out.le <;> omega
  have HPP := Lib.hid hpp
  have H97 := Lib.hid (advance97 V1 sc rd st en (p' - p) tok _ emp true hS1.scs (by have := HG.out; omega) (by omega))
  clear hk1 hadv hp' hpp hS1
  go_wp2_with (go_at_call 97; refine H97.out.mono ?_; rintro e V2 ⟨rfl, hsc2, hk2⟩; refine Hid.out ?_)
  refine Lib.hid ?_
  have hS2 : Scn B V2 sc rd T p' r (st + (p' - p)) en tok (.slice (some ⟨g, 0, none⟩) 4096 4096) emp true := (HS.out.kept HV1.out).moved hk2 hsc2 (by have := HG.out; have := HADV.out; omega) (by have := HG.out; have := HADV.out; have := HPP.out; omega) HPP.out
  have w3 : V2.cell? ⟨sc, 3, none⟩ = some tok := cellsOf hsc2 3
  have w7 : V2.cell? ⟨sc, 7, none⟩ = some .nilIface := cellsOf hsc2 7
  have w8 : V2.cell? ⟨sc, 8, none⟩ = some (.int .i64 emp) := cellsOf hsc2 8
  have u3 : V2.frozen? ⟨sc, 3, none⟩ = false := frozenOf hsc2 3
  have u8 : V2.frozen? ⟨sc, 8, none⟩ = false := frozenOf hsc2 8
  have HS2 := Lib.hid hS2
  have HK2 := Lib.hid hk2
  clear hS2 hsc2 hk2
  have hnq := neq82 ⟨g, st, none⟩ (i - p) (4096 - st)
  go_wp2_with fail
  go_ret
  have hS3 := HS2.out.set (p' := p') (st' := st + (p' - p)) (en' := en) 3 (.slice (some ⟨g, st, none⟩) (i - p) (4096 - st)) rfl HS2.out.le id
  have hS4 := hS3.set (p' := p') (st' := st + (p' - p)) (en' := en) 8 (.int .i64 0) rfl hS3.le id
  refine ⟨rfl, HFR.out.trans ((Fr.of_kept HV1.out HS.out.lt.2.2).trans ((Scn.fr_set (HS.out.kept HV1.out) HK2.out).trans ((HS2.out.fr_set ((Kept.refl _ _).setCell (by simp) _)).trans (hS3.fr_set ((Kept.refl _ _).setCell (by simp) _))))), _, _, _, _, _, _, _, _, _, HADV.out.1, hS4, fun k hk => ?_⟩
  have hr1 := HG.out.1
  have hgs := HS.out.buf_ne rfl
  have hr2 := ((((HV1.out.row hr1 (by simp))).of_block (HK2.out.block g (Nat.lt_of_lt_of_le hgs.2.2 HV1.out.size) (by simpa using hgs.1))).setOther (a := ⟨sc, 3, none⟩) hgs.1 (.slice (some ⟨g, st, none⟩) (i - p) (4096 - st))).setOther (a := ⟨sc, 8, none⟩) hgs.1 (.int .i64 0)
  rw [hr2.cell (by have := HG.out; omega)]
  exact congrArg some (HG.out.2.1 k (by have := HG.out; omega))
end Go.Proofs.YtoaedibfgegilaaGreatDoor.st
