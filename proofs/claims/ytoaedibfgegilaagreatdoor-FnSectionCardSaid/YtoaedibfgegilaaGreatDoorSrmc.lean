/-
  Scanner.Scan where a read comes first: one of its ways.
-/
import Derived.Test.YtoaedibfgegilaaGreatDoorSrh
namespace Go.Proofs.YtoaedibfgegilaaGreatDoor.st
open Go.RowKit
set_option linter.unusedVariables false
set_option linter.unusedSimpArgs false

set_option maxHeartbeats 40000000 in
set_option maxRecDepth 100000 in
theorem scan_miss_C (B sc rd : Nat) (T : ByteArray) (p r st en i : Nat) (tok bufv : Value) (emp : Int) (cl : Bool) (w : World) (h : Scn B w sc rd T p r st en tok bufv emp cl) (hi : EolAt T p i) (hir : r ≤ i) (hbv0 : bufv ≠ .slice none 0 0) (hq0 : 2048 < st ∧ en ≠ 4096) (hq1 : st < en) :
    Calls Tryz.prog 79 #[.pointer (some ⟨sc, 0, none⟩)] w fun e w' => ScanE B w sc rd T p i e w' := by
  have HQ := Lib.hid (And.intro hq0 (And.intro hq1 hir))
  clear hq0 hq1 hir
  have c9 : w.cell? ⟨sc, 9, none⟩ = some (.bool cl) := cellsOf h.scs 9
  have c10 : w.cell? ⟨sc, 10, none⟩ = some (.bool false) := cellsOf h.scs 10
  have f9 : w.frozen? ⟨sc, 9, none⟩ = false := frozenOf h.scs 9
  have h1 : Scn B (w.setCell ⟨sc, 9, none⟩ (.bool true)) sc rd T p r st en tok bufv emp true := h.set 9 _ rfl h.le id
  have HS := Lib.hid h1
  have HI := Lib.hid hi
  have HFR : Hid (Fr B w (w.setCell ⟨sc, 9, none⟩ (.bool true))) := Lib.hid (h.fr_set ((Kept.refl _ _).setCell (by simp) _))
  clear h1 h hi
  go_enter Tryz.func79, Tryz.ntmps79
  go_wp2_with fail
  clear c9 c10 f9
  obtain ⟨wr, hwr⟩ : ∃ wr, w.setCell ⟨sc, 9, none⟩ (.bool true) = wr := ⟨_, rfl⟩
  rw [hwr]
  rw [hwr] at HS HFR
  have hS := HS.out
  clear HS hwr
  obtain ⟨g, F, hbv, hBg, hrow, hen, hen2, hFb⟩ := (hS.buf.resolve_left (fun e => hbv0 e.1))
  subst hbv
  have g1 : (st : Int) < (en : Int) := by have := HQ.out; omega
  have g2 : (0 : Int) < (st : Int) := by have := HQ.out; omega
  have g2b : 0 < st := by have := HQ.out; omega
  have g3 : ((en : Int) == 4096) = false := by have := HQ.out; simp; omega
  have g3b : (2048 : Int) < (st : Int) := by have := HQ.out; omega
  have g3c : 2048 < st := by have := HQ.out; omega
  have g4 : (st : Int) ≤ (en : Int) := by have := hS.le; omega
  have g5 : (en : Int) ≤ 4096 := by omega
  have g6 : (0 : Int) ≤ (st : Int) := by omega
  have g7 : (0 : Int) ≤ (en : Int) := by omega
  have g8 : st ≤ en := by omega
  have g9 : en ≤ 4096 := hen2
  have hrT := hS.rT
  have hle := hS.le
  obtain ⟨v21, hv21, h21⟩ := lines21 T p i (r - p) g st (4096 - st) HI.out (by omega) hS.tT (by omega) (by omega)
  obtain rfl := lines_miss hv21 (by have := HQ.out; omega)
  have H21 : Hid (∀ V, Kept [] wr V → Calls Tryz.prog 21 #[.slice (some ⟨g, st, none⟩) (en - st) (4096 - st), .bool false] V fun e w' => e = .returned (.tuple #[.int .i64 0, .slice none 0 0, .nilIface]) ∧ ∃ m, w' = V.drewN m) := Lib.hid fun V k => by
    rw [show en - st = r - p by omega]
    exact h21 V (fun k' hk' => by
      rw [(k.row hrow (by simp)).cell (by omega)]
      exact congrArg some (hFb k' hk'))
  clear h21 hv21 hrT hle
  have z0 : wr.cell? ⟨sc, 0, none⟩ = some (.iface 62 (.pointer (some ⟨rd, 0, none⟩))) := cellsOf hS.scs 0
  have z1 : wr.cell? ⟨sc, 1, none⟩ = some (.func (.func 21) #[] #[]) := cellsOf hS.scs 1
  have z4 : wr.cell? ⟨sc, 4, none⟩ = some (.slice (some ⟨g, 0, none⟩) 4096 4096) := cellsOf hS.scs 4
  have z5 : wr.cell? ⟨sc, 5, none⟩ = some (.int .i64 (st : Int)) := cellsOf hS.scs 5
  have z6 : wr.cell? ⟨sc, 6, none⟩ = some (.int .i64 (en : Int)) := cellsOf hS.scs 6
  have z7 : wr.cell? ⟨sc, 7, none⟩ = some (.nilIface) := cellsOf hS.scs 7
  have HS := Lib.hid hS
  have HG := Lib.hid (And.intro hrow (And.intro hFb (And.intro hen hBg)))
  clear hS hbv0 hrow hFb hen hBg hen2
  refine wp_loop_rounds 2 ?_
  rw [rounds_succ]
  go_wp2_with fail
  go_quiet (fail)
  obtain ⟨U, hU⟩ : ∃ W', wr.drewN nq = W' := ⟨_, rfl⟩
  rw [hU]
  have kU : Kept [] wr U := by rw [← hU]; exact (Kept.refl _ _).drewN _
  have y0 := kU.cell z0 (by simp)
  have y1 := kU.cell z1 (by simp)
  have y4 := kU.cell z4 (by simp)
  have y5 := kU.cell z5 (by simp)
  have y6 := kU.cell z6 (by simp)
  have y7 := kU.cell z7 (by simp)
  clear hU z0 z1 z4 z5 z6 z7
  have HKU := Lib.hid kU
  clear kU
  go_wp2_with fail
  go_quiet (first | (go_at_call 21; with_reducible exact Calls.quiet_of (H21.out _ (HKU.out.drewN _))) | fail)
  obtain ⟨V1, hV1⟩ : ∃ W', U.drewN nq = W' := ⟨_, rfl⟩
  rw [hV1]
  have kV1 : Kept [] U V1 := by rw [← hV1]; exact (Kept.refl _ _).drewN _
  have x0 := kV1.cell y0 (by simp)
  have x1 := kV1.cell y1 (by simp)
  have x4 := kV1.cell y4 (by simp)
  have x5 := kV1.cell y5 (by simp)
  have x6 := kV1.cell y6 (by simp)
  have x7 := kV1.cell y7 (by simp)
  clear hV1 y0 y1 y4 y5 y6 y7
  have HV1 := Lib.hid (HKU.out.trans kV1)
  have H97 := Lib.hid (advance97z V1 sc rd st en tok _ emp true (HS.out.kept HV1.out).scs g8 (by omega))
  clear kV1 x0 x1 x4 x5 x6 x7
  go_wp2_with (go_at_call 97; refine H97.out.mono ?_; rintro e V2 ⟨rfl, hsc2, hk2⟩; refine Hid.out ?_)
  refine Lib.hid ?_
  have hS2 : Scn B V2 sc rd T p r st en tok (.slice (some ⟨g, 0, none⟩) 4096 4096) emp true := by
    have h := (HS.out.kept HV1.out).moved (p' := p) hk2 (by simpa using hsc2) (HS.out.le) (.inr rfl) (Nat.le_refl _)
    simpa using h
  have w3 : V2.cell? ⟨sc, 3, none⟩ = some tok := cellsOf hsc2 3
  have u3 : V2.frozen? ⟨sc, 3, none⟩ = false := frozenOf hsc2 3
  obtain ⟨X, hX⟩ : ∃ X, V2.setCell ⟨sc, 3, none⟩ (.slice none 0 0) = X := ⟨_, rfl⟩
  have hSX : Scn B X sc rd T p r st en (.slice none 0 0) (.slice (some ⟨g, 0, none⟩) 4096 4096) emp true := by rw [← hX]; exact hS2.set 3 _ rfl hS2.le id
  have hFX : Fr B w X := HFR.out.trans ((Fr.of_kept HV1.out HS.out.lt.2.2).trans ((Scn.fr_set (HS.out.kept HV1.out) hk2).trans (by rw [← hX]; exact hS2.fr_set ((Kept.refl _ _).setCell (by simp) _))))
  have hgs := HS.out.buf_ne rfl
  have hGX : X.rowIs g 5 4096 F := by
    rw [← hX]
    exact (((HV1.out.row HG.out.1 (by simp))).of_block (hk2.block g (Nat.lt_of_lt_of_le hgs.2.2 HV1.out.size) (by simpa using hgs.1))).setOther (a := ⟨sc, 3, none⟩) hgs.1 _
  have y0 : X.cell? ⟨sc, 0, none⟩ = some (.iface 62 (.pointer (some ⟨rd, 0, none⟩))) := cellsOf hSX.scs 0
  have y4 : X.cell? ⟨sc, 4, none⟩ = some (.slice (some ⟨g, 0, none⟩) 4096 4096) := cellsOf hSX.scs 4
  have y5 : X.cell? ⟨sc, 5, none⟩ = some (.int .i64 (st : Int)) := cellsOf hSX.scs 5
  have y6 : X.cell? ⟨sc, 6, none⟩ = some (.int .i64 (en : Int)) := cellsOf hSX.scs 6
  have y7 : X.cell? ⟨sc, 7, none⟩ = some (.nilIface) := cellsOf hSX.scs 7
  have HSX := Lib.hid hSX
  have HFX := Lib.hid hFX
  have HGX := Lib.hid hGX
  have hnq := neq82n
  clear hS2 hsc2 hk2 hSX hFX hGX hgs
  go_wp2_with fail
  go_quiet (fail)
  obtain ⟨X2, hX2⟩ : ∃ W', X.drewN nq = W' := ⟨_, rfl⟩
  rw [hX2]
  have kX2 : Kept [] X X2 := by rw [← hX2]; exact (Kept.refl _ _).drewN _
  have s0 := kX2.cell y0 (by simp)
  have s4 := kX2.cell y4 (by simp)
  have s5 := kX2.cell y5 (by simp)
  have s6 := kX2.cell y6 (by simp)
  have s7 := kX2.cell y7 (by simp)
  clear hX2 y0 y4 y5 y6 y7
  have HSX2 := Lib.hid (HSX.out.kept kX2)
  have HFX2 := Lib.hid (HFX.out.trans (Fr.of_kept kX2 HSX.out.lt.2.2))
  have HGX2 := Lib.hid (kX2.row HGX.out (by simp))
  clear kX2 HSX HFX HGX
  obtain ⟨m, hm⟩ : ∃ m, en - st = m := ⟨_, rfl⟩
  obtain ⟨cur, hcur, hszc, hFc⟩ := HGX2.out
  obtain ⟨ad, had⟩ : ∃ ad, (if 4096 = st then (⟨g, 0, none⟩ : Addr) else ⟨g, st, none⟩) = ad := ⟨_, rfl⟩
  have hmr : m = r - p := by have := HG.out.2.2.1; omega
  have hm4 : m ≤ 4096 := by omega
  have hTr := HSX2.out.rT
  have hle := HSX2.out.le
  have hbl : (Lib.byteCells (seg T p m)).length = m := by rw [Lib.byteCells_length, seg_length (by omega)]
  have hsrc : ∀ j v, (Lib.byteCells (seg T p m))[j]? = some v → X2.drew.cell? (ad.add j) = some v := by
    intro j v hj
    have hjm : j < m := by
      have := (List.getElem?_eq_some_iff.1 hj).1
      omega
    rw [← had, if_neg (by omega), addr_add]
    have h1 := (HGX2.out.drew).cell (i := st + j) (by omega)
    rw [h1, HG.out.2.1 j (by omega)]
    simp [Lib.byteCells, List.getElem?_map, seg_get (T := T) (p := p) (n := m) (k := j) (by omega) hjm] at hj
    rw [← hj]
    rfl
  have hcp := run_copy_row (P := Tryz.prog) X2.drew 82 82 3 5 g 0 4096 4096 ad m (4096 - st) cur 5 (Lib.byteCells (seg T p m)) Tryz.underlying82 info5s hcur (by rw [hbl]; exact (Nat.min_eq_left hm4).symm) hsrc (by rw [hbl, hszc]; omega) (Lib.byteCells_one _)
  have hXr := row_text (W := X2.drew) (g := g) (o := 0) (n := m) (M := 4096) hcur hszc hFc (seg T p m) (seg_length (by omega)) (by omega)
  rw [hbl] at hcp
  have hXk : Kept [g] X2.drew (X2.drew.setRow g (cur.toList.take 0 ++ Lib.byteCells (seg T p m) ++ cur.toList.drop (0 + m)).toArray) := (Kept.refl _ _).setRow (by simp) _
  generalize X2.drew.setRow g (cur.toList.take 0 ++ Lib.byteCells (seg T p m) ++ cur.toList.drop (0 + m)).toArray = X3 at hcp hXr hXk
  have hgs := HSX2.out.buf_ne rfl
  have k3 : Kept [g] X2 X3 := ((Kept.refl [g] X2).drew).trans hXk
  have hsc3 := (k3.block sc (Array.getElem?_eq_some_iff.1 HSX2.out.scs).1 (by simp; exact fun e => hgs.1 e.symm)).trans HSX2.out.scs
  have x4 : X3.cell? ⟨sc, 4, none⟩ = some (.slice (some ⟨g, 0, none⟩) 4096 4096) := cellsOf hsc3 4
  have x5 : X3.cell? ⟨sc, 5, none⟩ = some (.int .i64 (st : Int)) := cellsOf hsc3 5
  have x6 : X3.cell? ⟨sc, 6, none⟩ = some (.int .i64 (en : Int)) := cellsOf hsc3 6
  have f5 : X3.frozen? ⟨sc, 5, none⟩ = false := frozenOf hsc3 5
  have f6 : X3.frozen? ⟨sc, 6, none⟩ = false := frozenOf hsc3 6
  have hem : (en : Int) - (st : Int) = (m : Int) := by omega
  have HM := Lib.hid (And.intro hm (And.intro hmr (And.intro hm4 (And.intro k3 (And.intro hsc3 hXr)))))
  have hadv : (if 4096 = st then (some (⟨g, 0, none⟩ : Addr)) else some ⟨g, st, none⟩) = some ad := by rw [← had]; split <;> rfl
  clear hcur hszc hFc had hmr hTr hle hbl hsrc hXr hXk hgs k3 hsc3
  go_wp2_with fail
  go_region_held3 (fun w' => w'.cell? ⟨sc, 4, none⟩ = some (.slice (some ⟨g, 0, none⟩) 4096 4096) ∧ w'.cell? ⟨sc, 5, none⟩ = some (.int .i64 (st : Int)) ∧ w'.cell? ⟨sc, 6, none⟩ = some (.int .i64 (en : Int)))
    (((try dsimp only); (repeat' apply And.intro) <;> (first | with_reducible assumption | (rw [World.cell?_drew]; with_reducible assumption) | fail)))
    (first | (refine step_copy 82 rfl (.tmp 157) (.tmp 170) rfl (.slice (some ⟨g, 0, none⟩) 4096 4096) (.slice (some ad) m (4096 - st)) rfl rfl _ _ hcp ?_) | fail)
  clear s0 s4 s5 s6 s7 hcp
  go_wp2_with fail
  go_region
  go_wp2_with fail
  obtain ⟨X5, hX5⟩ : ∃ X5, ((X3.setCell ⟨sc, 6, none⟩ (.int .i64 (m : Int))).setCell ⟨sc, 5, none⟩ (.int .i64 0)).drew = X5 := ⟨_, rfl⟩
  rw [hX5]
  have hfin5 : ScIs X5 sc rd (.slice none 0 0) (.slice (some ⟨g, 0, none⟩) 4096 4096) 0 m emp true ∧ Kept [sc, g] X2 X5 ∧ X5.rowIs g 5 4096 (fun i => if i < 0 then F i else if i < 0 + m then .int .u8 (((seg T p m).getD (i - 0) 0).toNat : Int) else F i) := by
    obtain ⟨b1, b2, b3, b4, b5, b6⟩ := HM.out
    have hgs := HSX2.out.buf_ne rfl
    rw [← hX5]
    refine ⟨?_, ?_, ?_⟩
    · have h5 := heap_set (heap_set b5 6 (.int .i64 (m : Int))) 5 (.int .i64 0)
      exact h5
    · exact (((b4.mono (by simp)).setCell (by simp) _).setCell (by simp) _).drew
    · exact ((b6.setOther (a := ⟨sc, 6, none⟩) hgs.1 _).setOther (a := ⟨sc, 5, none⟩) hgs.1 _).drew
  obtain ⟨FX, hFX⟩ : ∃ FX : Nat → Value, FX = fun i => if i < 0 then F i else if i < 0 + m then .int .u8 (((seg T p m).getD (i - 0) 0).toNat : Int) else F i := ⟨_, rfl⟩
  rw [← hFX] at hfin5
  have hFm : ∀ i, i < m → FX i = bi T (p + i) := fun i hi => by
    have h1 := HM.out.2.1
    have h2 := HSX2.out.rT
    have h3 := HSX2.out.le
    rw [hFX]
    simp only
    rw [if_neg (by omega), if_pos (by omega), Nat.sub_zero, seg_getD (by omega) hi]
    rfl
  have hSX : Scn B X5 sc rd T p r 0 m (.slice none 0 0) (.slice (some ⟨g, 0, none⟩) 4096 4096) emp true := by
    have hmr := HM.out.2.1
    have h := HSX2.out.shift (FX := FX) HG.out.2.2.2 hfin5.2.1 (by rw [← hmr]; exact hfin5.1) hfin5.2.2 (by rw [← hmr]; exact hFm) (by rw [← hmr]; exact HM.out.2.2.1)
    rw [← hmr] at h
    exact h
  have HBX : Hid (B ≤ g ∧ m = 0 + (r - p) ∧ ∀ i, i < r - p → FX (0 + i) = bi T (p + i)) := Lib.hid ⟨HG.out.2.2.2, by have := HM.out.2.1; omega, fun i hi => by rw [Nat.zero_add]; exact hFm i (by have := HM.out.2.1; omega)⟩
  have HLT : Hid (m < 4096 ∧ 0 ≤ 2048) := Lib.hid (by have := HM.out.2.1; have := HQ.out; have := HI.out.near; have := HI.out.le; omega)
  have HSX := Lib.hid hSX
  have HGX := Lib.hid hfin5.2.2
  have HFX := Lib.hid (HFX2.out.trans (HSX2.out.fr_read HG.out.2.2.2 (hfin5.2.1.mono (by simp))))
  have hm3 : ((m : Int) == 4096) = false := by have := HLT.out; simp; omega
  have w0 : X5.cell? ⟨sc, 0, none⟩ = some (.iface 62 (.pointer (some ⟨rd, 0, none⟩))) := cellsOf hSX.scs 0
  have w4 : X5.cell? ⟨sc, 4, none⟩ = some (.slice (some ⟨g, 0, none⟩) 4096 4096) := cellsOf hSX.scs 4
  have w5 : X5.cell? ⟨sc, 5, none⟩ = some (.int .i64 0) := cellsOf hSX.scs 5
  have w6 : X5.cell? ⟨sc, 6, none⟩ = some (.int .i64 (m : Int)) := cellsOf hSX.scs 6
  have w7 : X5.cell? ⟨sc, 7, none⟩ = some .nilIface := cellsOf hSX.scs 7
  clear x4 x5 x6 f5 f6 hX5 hfin5 hFX hFm hSX HSX2 HFX2 HGX2 HM hem hadv hm HG
  go_wp2_with fail
  go_quiet (fail)
  obtain ⟨R1, hR1⟩ : ∃ W', X5.drewN nq = W' := ⟨_, rfl⟩
  rw [hR1]
  have kR1 : Kept [] X5 R1 := by rw [← hR1]; exact (Kept.refl _ _).drewN _
  have t0 := kR1.cell w0 (by simp)
  have t4 := kR1.cell w4 (by simp)
  have t5 := kR1.cell w5 (by simp)
  have t6 := kR1.cell w6 (by simp)
  have t7 := kR1.cell w7 (by simp)
  clear hR1 w0 w4 w5 w6 w7
  have HR1 := Lib.hid kR1
  clear kR1
  go_wp2_with fail
  refine wp_loop_rounds 1 ?_
  rw [rounds_succ]
  obtain ⟨n, hn⟩ : ∃ n, n = Nat.min (T.size - r) (4096 - m) := ⟨_, rfl⟩
  have hnr : r < T.size := by have := HQ.out; have := HI.out.lt; omega
  have hn1 : 1 ≤ n ∧ n ≤ 4096 - m ∧ n ≤ T.size - r := by
    have h1 : n ≤ T.size - r := hn ▸ Nat.min_le_left _ _
    have h2 : n ≤ 4096 - m := hn ▸ Nat.min_le_right _ _
    have h5 := HLT.out
    rcases Nat.le_total (T.size - r) (4096 - m) with h3 | h3
    · have h4 : n = T.size - r := hn.trans (Nat.min_eq_left h3)
      omega
    · have h4 : n = 4096 - m := hn.trans (Nat.min_eq_right h3)
      omega
  have hTT := HSX.out.tT
  have H123 := Lib.hid fun V (k : Kept [] X5 V) => read123 V rd g m (4096 - m) (4096 - m) 4096 r n T FX (by obtain ⟨pr, hr⟩ := HSX.out.rds; exact ⟨pr, (k.block rd (Array.getElem?_eq_some_iff.1 hr).1 (by simp)).trans hr⟩) hnr hTT hn (by have := HLT.out; omega) (by have := HLT.out; omega) (k.row HGX.out (by simp)) (HSX.out.buf_ne rfl).2.1
  have n1 := nil123 ⟨rd, 0, none⟩
  have n2 := meth123 ⟨rd, 0, none⟩
  have HN := Lib.hid (And.intro hn hn1)
  have m1 : decide ((n : Int) < 0) = false := by simp
  have m2 : decide ((4096 : Int) - (m : Int) < (n : Int)) = false := by have := HLT.out; simp; omega
  have m3 : (0 : Int) < (n : Int) := by omega
  have m4 : (n : Int) ≤ 4096 := by omega
  have m5 : (m : Int) ≤ 4096 := by have := HLT.out; omega
  have m6 : (0 : Int) ≤ (m : Int) := by omega
  have m7 : m ≤ 4096 := by have := HLT.out; omega
  have m9 : ¬ 4096 = m := by have := HLT.out; omega
  obtain ⟨en2, he2⟩ : ∃ k, m + n = k := ⟨_, rfl⟩
  have m8 : (m : Int) + (n : Int) = (en2 : Int) := by omega
  have HE2 := Lib.hid he2
  have HCE : Hid (X5.cell? ⟨sc, 0, none⟩ = some (.iface 62 (.pointer (some ⟨rd, 0, none⟩))) ∧ X5.cell? ⟨sc, 4, none⟩ = some (.slice (some ⟨g, 0, none⟩) 4096 4096) ∧ X5.cell? ⟨sc, 6, none⟩ = some (.int .i64 (m : Int)) ∧ sc ∉ [rd, g]) := Lib.hid ⟨cellsOf HSX.out.scs 0, cellsOf HSX.out.scs 4, cellsOf HSX.out.scs 6, by have hgs := HSX.out.buf_ne rfl; simp; exact ⟨HSX.out.ne, fun e => hgs.1 e.symm⟩⟩
  clear hn hn1 hnr hTT he2
  go_wp2_with fail
  go_region_held3 (fun w' => w'.cell? ⟨sc, 0, none⟩ = some (.iface 62 (.pointer (some ⟨rd, 0, none⟩))) ∧ w'.cell? ⟨sc, 4, none⟩ = some (.slice (some ⟨g, 0, none⟩) 4096 4096) ∧ w'.cell? ⟨sc, 6, none⟩ = some (.int .i64 (m : Int)))
    (((try dsimp only); (repeat' apply And.intro) <;> (first | with_reducible assumption | (rw [World.cell?_drew]; with_reducible assumption) | fail)))
    (first | (refine step_read rfl (.tmp 286) (.tmp 284) 82 rfl ⟨rd, 0, none⟩ (.slice (some ⟨g, m, none⟩) (4096 - m) (4096 - m)) rfl rfl _ (H123.out _ HR1.out.drew) ?_; rintro e V3 ⟨rfl, a1, a2, a3⟩; refine ⟨_, rfl, ?_⟩; (have o0 : Kept [rd, g] X5 V3 := (HR1.out.drew.mono (by simp)).trans a3); (have q0 : V3.cell? ⟨sc, 0, none⟩ = some (.iface 62 (.pointer (some ⟨rd, 0, none⟩))) := o0.cell HCE.out.1 HCE.out.2.2.2); (have q4 : V3.cell? ⟨sc, 4, none⟩ = some (.slice (some ⟨g, 0, none⟩) 4096 4096) := o0.cell HCE.out.2.1 HCE.out.2.2.2); (have q6 : V3.cell? ⟨sc, 6, none⟩ = some (.int .i64 (m : Int)) := o0.cell HCE.out.2.2.1 HCE.out.2.2.2); (have HAA := Lib.hid (And.intro a1 (And.intro a2 o0))); clear a1 a2 a3 o0) | fail)
  clear hm3 t0 t4 t5 t6 t7
  obtain ⟨a1, a2, o0⟩ := HAA.out
  have hgs := HSX.out.buf_ne rfl
  have hns := HSX.out.ne
  have hsc3 : V3.heap[sc]? = some (.cells (scC rd (.slice none 0 0) (.slice (some ⟨g, 0, none⟩) 4096 4096) 0 m emp true) 84 (0, 0)) := (o0.block sc (Array.getElem?_eq_some_iff.1 HSX.out.scs).1 (by simp; exact ⟨hns, fun e => hgs.1 e.symm⟩)).trans HSX.out.scs
  have HA := Lib.hid (And.intro a1 (And.intro a2 (And.intro o0 hsc3)))
  clear a1 a2 hgs hns o0 hsc3 HAA
  go_wp2_with fail
  go_quiet (fail)
  obtain ⟨V4, hV4⟩ : ∃ W', V3.drewN nq = W' := ⟨_, rfl⟩
  rw [hV4]
  have hsc4 : V4.heap[sc]? = some (.cells (scC rd (.slice none 0 0) (.slice (some ⟨g, 0, none⟩) 4096 4096) 0 m emp true) 84 (0, 0)) := by rw [← hV4]; exact HA.out.2.2.2
  have k4 : Kept [] V3 V4 := by rw [← hV4]; exact (Kept.refl _ _).drewN _
  have v6 : V4.cell? ⟨sc, 6, none⟩ = some (.int .i64 (m : Int)) := cellsOf hsc4 6
  have v8 : V4.cell? ⟨sc, 8, none⟩ = some (.int .i64 emp) := cellsOf hsc4 8
  have u6 : V4.frozen? ⟨sc, 6, none⟩ = false := frozenOf hsc4 6
  have u8 : V4.frozen? ⟨sc, 8, none⟩ = false := frozenOf hsc4 8
  have HK4 := Lib.hid k4
  clear hV4 q4 q6 hsc4 k4
  go_wp2_with fail
  have hfin : ∃ (wq : World) (r' st' en' : Nat) (tok' bufv' : Value) (emp' : Int), (V4.setCell ⟨sc, 6, none⟩ (.int .i64 (en2 : Int))).setCell ⟨sc, 8, none⟩ (.int .i64 0) = wq ∧ Scn B wq sc rd T p r' st' en' tok' bufv' emp' true ∧ i < r' ∧ Fr B w wq := by
    obtain ⟨b1, b2, b3, b4⟩ := HA.out
    obtain ⟨pr, hr⟩ := b1
    have b1' : RdIs V4 rd T (r + n) := ⟨pr, (HK4.out.block rd (Array.getElem?_eq_some_iff.1 hr).1 (by simp)).trans hr⟩
    have h := HSX.out.read (V := V4) (n := n) HBX.out.1 HBX.out.2.1 HBX.out.2.2 (b3.trans (HK4.out.mono (by simp))) b1' (HK4.out.row b2 (by simp)) (by have := HN.out; have := HI.out.lt; have := HQ.out; omega) (by have := HN.out; have := HLT.out; omega)
    rw [HE2.out] at h
    refine ⟨_, _, _, _, _, _, _, rfl, h, ?_, HFX.out.trans (HSX.out.fr_read HBX.out.1 ?_)⟩
    · exact HI.out.in_buf HSX.out.le HBX.out.2.1 (by have := HLT.out; omega) HQ.out.2.2 HN.out.1
    · exact ((((b3.trans (HK4.out.mono (by simp))).mono (by simp)).setCell (by simp) _).setCell (by simp) _)
  clear v6 v8 u6 u8 m1 m2 m3 m4 m5 m6 m7 m8 m9 n1 n2 g1 g4 g5 g6 g7 g8 g9
  clear HSX HGX HFX HBX HLT HA HK4 HCE H123 HN HE2 HR1
  obtain ⟨wr, r, st, en, tok, bufv, emp, hwr, hS, hir, hfr⟩ := hfin
  rw [hwr]
  have HFR := Lib.hid hfr
  clear hwr hfr
  rw [rounds_succ]
  obtain ⟨g, F, hbv, hBg, hrow, hen, hen2, hFb⟩ := (hS.buf.resolve_left (fun e => by have := HI.out.le; have := e.2.2.2; omega))
  subst hbv
  have hLT := hS.lt
  have z1 : wr.cell? ⟨sc, 1, none⟩ = some (.func (.func 21) #[] #[]) := cellsOf hS.scs 1
  have z4 : wr.cell? ⟨sc, 4, none⟩ = some (.slice (some ⟨g, 0, none⟩) 4096 4096) := cellsOf hS.scs 4
  have z5 : wr.cell? ⟨sc, 5, none⟩ = some (.int .i64 ((st : Nat) : Int)) := cellsOf hS.scs 5
  have z6 : wr.cell? ⟨sc, 6, none⟩ = some (.int .i64 ((en : Nat) : Int)) := cellsOf hS.scs 6
  have z7 : wr.cell? ⟨sc, 7, none⟩ = some .nilIface := cellsOf hS.scs 7
  have g1 : (st : Int) < (en : Int) := by have := HI.out.le; omega
  have g2 : st ≤ en := by omega
  have g3 : en ≤ 4096 := hen2
  have g4 : (st : Int) ≤ (en : Int) := by omega
  have g5 : (en : Int) ≤ 4096 := by omega
  have g6 : (0 : Int) ≤ (st : Int) := by omega
  have g7 : (0 : Int) ≤ (en : Int) := by omega
  have hrT := hS.rT
  have hle := hS.le
  obtain ⟨v21, hv21, h21⟩ := lines21 T p i (r - p) g st (4096 - st) HI.out (by omega) hS.tT (by omega) (by omega)
  obtain ⟨p', hadv, hp', rfl⟩ := lines_hit hv21 (by omega)
  have H21 : Hid (∀ V, Kept [] wr V → Calls Tryz.prog 21 #[.slice (some ⟨g, st, none⟩) (en - st) (4096 - st), .bool false] V fun e w' => e = .returned (.tuple #[.int .i64 ((p' - p : Nat) : Int), .slice (some ⟨g, st, none⟩) (i - p) (4096 - st), .nilIface]) ∧ ∃ m, w' = V.drewN m) := Lib.hid fun V k => by
    rw [show en - st = r - p by omega]
    exact h21 V (fun k' hk' => by
      rw [(k.row hrow (by simp)).cell (by omega)]
      exact congrArg some (hFb k' hk'))
  clear h21 hv21
  have HS := Lib.hid hS
  have HG := Lib.hid (And.intro hrow (And.intro hFb (And.intro hen (And.intro hBg (And.intro hrT hle)))))
  clear hS hrow hFb hrT hle hBg hen
  go_wp2_with fail
  go_quiet (fail)
  obtain ⟨W, hW⟩ : ∃ W, wr.drewN nq = W := ⟨_, rfl⟩
  rw [hW]
  have kW : Kept [] wr W := by rw [← hW]; exact (Kept.refl _ _).drewN _
  have y1 := kW.cell z1 (by simp)
  have y4 := kW.cell z4 (by simp)
  have y5 := kW.cell z5 (by simp)
  have y6 := kW.cell z6 (by simp)
  have y7 := kW.cell z7 (by simp)
  have HKW := Lib.hid kW
  clear hW kW z1 z4 z5 z6 z7
  go_wp2_with fail
  go_quiet (first | (go_at_call 21; with_reducible exact Calls.quiet_of (H21.out _ (HKW.out.drewN _))) | fail)
  obtain ⟨V1, hV1⟩ : ∃ V, W.drewN nq = V := ⟨_, rfl⟩
  rw [hV1]
  have hk1 : Kept [] W V1 := by rw [← hV1]; exact (Kept.refl _ _).drewN _
  clear hV1 y1 y4 y5 y6 y7
  have HV1 := Lib.hid (HKW.out.trans hk1)
  have hS1 := HS.out.kept HV1.out
  have HADV := Lib.hid (And.intro hadv hp')
  have hpp : p ≤ p' := by rcases hadv with h | h <;> have := HI.out.le <;> omega
  have HPP := Lib.hid hpp
  have H97 := Lib.hid (advance97 V1 sc rd st en (p' - p) tok _ emp true hS1.scs (by have := HG.out; omega) (by omega))
  clear hk1 hadv hp' hpp hS1
  go_wp2_with (go_at_call 97; refine H97.out.mono ?_; rintro e V2 ⟨rfl, hsc2, hk2⟩; refine Hid.out ?_)
  refine Lib.hid ?_
  have hS2 : Scn B V2 sc rd T p' r (st + (p' - p)) en tok (.slice (some ⟨g, 0, none⟩) 4096 4096) emp true := (HS.out.kept HV1.out).moved hk2 hsc2 (by have := HG.out; have := HADV.out; omega) (by have := HG.out; have := HADV.out; have := HPP.out; omega) HPP.out
  have w3 : V2.cell? ⟨sc, 3, none⟩ = some tok := cellsOf hsc2 3
  have w7 : V2.cell? ⟨sc, 7, none⟩ = some .nilIface := cellsOf hsc2 7
  have w8 : V2.cell? ⟨sc, 8, none⟩ = some (.int .i64 emp) := cellsOf hsc2 8
  have u3 : V2.frozen? ⟨sc, 3, none⟩ = false := frozenOf hsc2 3
  have u8 : V2.frozen? ⟨sc, 8, none⟩ = false := frozenOf hsc2 8
  have HS2 := Lib.hid hS2
  have HK2 := Lib.hid hk2
  clear hS2 hsc2 hk2
  have hnq := neq82 ⟨g, st, none⟩ (i - p) (4096 - st)
  go_wp2_with fail
  go_ret
  have hS3 := HS2.out.set (p' := p') (st' := st + (p' - p)) (en' := en) 3 (.slice (some ⟨g, st, none⟩) (i - p) (4096 - st)) rfl HS2.out.le id
  have hS4 := hS3.set (p' := p') (st' := st + (p' - p)) (en' := en) 8 (.int .i64 0) rfl hS3.le id
  refine ⟨rfl, HFR.out.trans ((Fr.of_kept HV1.out HS.out.lt.2.2).trans ((Scn.fr_set (HS.out.kept HV1.out) HK2.out).trans ((HS2.out.fr_set ((Kept.refl _ _).setCell (by simp) _)).trans (hS3.fr_set ((Kept.refl _ _).setCell (by simp) _))))), _, _, _, _, _, _, _, _, _, HADV.out.1, hS4, fun k hk => ?_⟩
  have hr1 := HG.out.1
  have hgs := HS.out.buf_ne rfl
  have hr2 := ((((HV1.out.row hr1 (by simp))).of_block (HK2.out.block g (Nat.lt_of_lt_of_le hgs.2.2 HV1.out.size) (by simpa using hgs.1))).setOther (a := ⟨sc, 3, none⟩) hgs.1 (.slice (some ⟨g, st, none⟩) (i - p) (4096 - st))).setOther (a := ⟨sc, 8, none⟩) hgs.1 (.int .i64 0)
  rw [hr2.cell (by have := HG.out; omega)]
  exact congrArg some (HG.out.2.1 k (by have := HG.out; omega))
end Go.Proofs.YtoaedibfgegilaaGreatDoor.st
