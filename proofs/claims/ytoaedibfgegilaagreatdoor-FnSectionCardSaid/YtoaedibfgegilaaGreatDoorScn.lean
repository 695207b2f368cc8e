/-
  Scanner.Scan over a text of lines.
-/
import Derived.Test.YtoaedibfgegilaaGreatDoorSrd
import Derived.Deep.CutRange
import Derived.Deep.DeepCutAuto
import Derived.Deep.RegionHeld3
import Derived.StillTailTactics
namespace Go.Proofs.YtoaedibfgegilaaGreatDoor.st
open Go.RowKit
set_option linter.unusedVariables false
set_option linter.unusedSimpArgs false

/-- The scanner's buffer: none yet, or a row of 4096 bytes. -/
def BufIs (B : Nat) (w : World) (T : ByteArray) (p r st en : Nat) (bufv : Value) : Prop :=
  (bufv = .slice none 0 0 ∧ st = 0 ∧ en = 0 ∧ p = r) ∨ ∃ g F, bufv = .slice (some ⟨g, 0, none⟩) 4096 4096 ∧ B ≤ g ∧ w.rowIs g 5 4096 F ∧ en = st + (r - p) ∧ en ≤ 4096 ∧ ∀ i, i < r - p → F (st + i) = bi T (p + i)
structure Scn (B : Nat) (w : World) (sc rd : Nat) (T : ByteArray) (p r st en : Nat) (tok bufv : Value) (emp : Int) (cl : Bool) : Prop where
  scs : ScIs w sc rd tok bufv st en emp cl
  rds : RdIs w rd T r
  bsc : B ≤ sc
  brd : B ≤ rd
  le : p ≤ r
  rT : r ≤ T.size
  tT : T.size ≤ 100000
  buf : BufIs B w T p r st en bufv
/-- What a scan leaves as it was. -/
structure Fr (B : Nat) (w w' : World) : Prop where
  bel : Bel B [] w w'
  keep : KeepT w w'
theorem Fr.refl (B : Nat) (w : World) : Fr B w w := ⟨Bel.refl _ _ _, KeepT.refl _⟩
theorem Fr.trans {B : Nat} {a b c : World} (h : Fr B a b) (k : Fr B b c) : Fr B a c := ⟨h.bel.trans k.bel, h.keep.trans k.keep⟩
theorem Fr.of_kept {B : Nat} {a b : World} (h : Kept [] a b) (hB : B ≤ a.heap.size) : Fr B a b := ⟨Bel.of_kept h hB, KeepT.of_kept h⟩
theorem Fr.of_busy {B : Nat} {L : List Nat} {a b : World} (h : Kept L a b) (hB : B ≤ a.heap.size) (hL : ∀ x ∈ L, B ≤ x ∧ ∀ o, a.heap[x]? = some o → Busy o) : Fr B a b :=
  ⟨⟨h.os, h.tape, h.output, h.size, fun k hk _ => h.block k (by omega) (fun e => by have := (hL k e).1; omega)⟩, KeepT.of_busy h fun x hx => (hL x hx).2⟩

theorem BufIs.kept {B : Nat} {L : List Nat} {w w' : World} {T : ByteArray} {p r st en : Nat} {bufv : Value} (h : BufIs B w T p r st en bufv) (k : Kept L w w') (hL : ∀ g, bufv = .slice (some ⟨g, 0, none⟩) 4096 4096 → g ∉ L) : BufIs B w' T p r st en bufv := by
  rcases h with h | ⟨g, F, h1, h2, h3, h4⟩
  · exact .inl h
  · exact .inr ⟨g, F, h1, h2, k.row h3 (hL g h1), h4⟩
theorem Scn.kept {B : Nat} {w w' : World} {sc rd : Nat} {T : ByteArray} {p r st en : Nat} {tok bufv : Value} {emp : Int} {cl : Bool} (h : Scn B w sc rd T p r st en tok bufv emp cl) (k : Kept [] w w') : Scn B w' sc rd T p r st en tok bufv emp cl := by
  obtain ⟨pr, hr⟩ := h.rds
  exact ⟨(k.block sc (Array.getElem?_eq_some_iff.1 h.scs).1 (by simp)).trans h.scs, ⟨pr, (k.block rd (Array.getElem?_eq_some_iff.1 hr).1 (by simp)).trans hr⟩, h.bsc, h.brd, h.le, h.rT, h.tT, h.buf.kept k (by simp)⟩
theorem Scn.lt {B : Nat} {w : World} {sc rd : Nat} {T : ByteArray} {p r st en : Nat} {tok bufv : Value} {emp : Int} {cl : Bool} (h : Scn B w sc rd T p r st en tok bufv emp cl) : sc < w.heap.size ∧ rd < w.heap.size ∧ B ≤ w.heap.size := by
  obtain ⟨pr, hr⟩ := h.rds
  have h1 := (Array.getElem?_eq_some_iff.1 h.scs).1
  have h2 := (Array.getElem?_eq_some_iff.1 hr).1
  have := h.bsc
  exact ⟨h1, h2, by omega⟩
theorem Scn.ne {B : Nat} {w : World} {sc rd : Nat} {T : ByteArray} {p r st en : Nat} {tok bufv : Value} {emp : Int} {cl : Bool} (h : Scn B w sc rd T p r st en tok bufv emp cl) : sc ≠ rd := by
  obtain ⟨pr, hr⟩ := h.rds
  intro e
  have h1 := h.scs
  unfold ScIs at h1
  rw [e, hr] at h1
  simp at h1
theorem row_block {w : World} {g n : Nat} {t : TypeId} {F : Nat → Value} (h : w.rowIs g t n F) : ∃ cs, w.heap[g]? = some (.cells cs t (0, 0)) := by
  obtain ⟨cur, hc, _⟩ := h
  exact ⟨cur, hc⟩
theorem Scn.buf_ne {B : Nat} {w : World} {sc rd : Nat} {T : ByteArray} {p r st en : Nat} {tok bufv : Value} {emp : Int} {cl : Bool} (h : Scn B w sc rd T p r st en tok bufv emp cl) {g : Nat} (hg : bufv = .slice (some ⟨g, 0, none⟩) 4096 4096) : g ≠ sc ∧ g ≠ rd ∧ g < w.heap.size := by
  obtain ⟨pr, hr⟩ := h.rds
  have h1 := h.scs
  unfold ScIs at h1
  rcases h.buf with ⟨e, _⟩ | ⟨g', F, e, _, hrow, _⟩
  · rw [e] at hg
    cases hg
  · rw [e] at hg
    have : g' = g := by simpa using hg
    subst this
    obtain ⟨cs, hcs⟩ := row_block hrow
    refine ⟨fun e => ?_, fun e => ?_, (Array.getElem?_eq_some_iff.1 hcs).1⟩
    · rw [e, h1] at hcs
      simp at hcs
    · rw [e, hr] at hcs
      simp at hcs
/-- A field of the scanner set. -/
theorem Scn.set {B : Nat} {w : World} {sc rd : Nat} {T : ByteArray} {p r st en p' st' en' : Nat} {tok bufv tok' : Value} {emp emp' : Int} {cl cl' : Bool} (h : Scn B w sc rd T p r st en tok bufv emp cl) (k : Nat) (v : Value)
    (he : (scC rd tok bufv st en emp cl).setIfInBounds k v = scC rd tok' bufv st' en' emp' cl') (hp : p' ≤ r) (hb : BufIs B w T p r st en bufv → BufIs B w T p' r st' en' bufv) : Scn B (w.setCell ⟨sc, k, none⟩ v) sc rd T p' r st' en' tok' bufv emp' cl' := by
  have hk : Kept [sc] w (w.setCell ⟨sc, k, none⟩ v) := (Kept.refl _ _).setCell (by simp) _
  obtain ⟨pr, hr⟩ := h.rds
  have h1 := heap_set h.scs k v
  rw [he] at h1
  exact ⟨h1, ⟨pr, (hk.block rd (Array.getElem?_eq_some_iff.1 hr).1 (by simpa using h.ne.symm)).trans hr⟩, h.bsc, h.brd, hp, h.rT, h.tT, (hb h.buf).kept hk (fun g hg => by simpa using (h.buf_ne hg).1)⟩
theorem Scn.busy {B : Nat} {w : World} {sc rd : Nat} {T : ByteArray} {p r st en : Nat} {tok bufv : Value} {emp : Int} {cl : Bool} (h : Scn B w sc rd T p r st en tok bufv emp cl) : B ≤ sc ∧ ∀ o, w.heap[sc]? = some o → Busy o := by
  refine ⟨h.bsc, fun o ho => ?_⟩
  have h1 := h.scs
  unfold ScIs at h1
  rw [h1] at ho
  have := (Option.some.inj ho).symm
  subst this
  exact .inr (.inl rfl)
theorem Scn.fr_set {B : Nat} {w : World} {sc rd : Nat} {T : ByteArray} {p r st en : Nat} {tok bufv : Value} {emp : Int} {cl : Bool} (h : Scn B w sc rd T p r st en tok bufv emp cl) {w' : World} (hk : Kept [sc] w w') : Fr B w w' :=
  Fr.of_busy hk h.lt.2.2 (fun x hx => by
    rw [List.mem_singleton.1 hx]
    exact h.busy)

/-- What a scan returns. -/
def ScanE (B : Nat) (w : World) (sc rd : Nat) (T : ByteArray) (p i : Nat) (e : Ending) (w' : World) : Prop :=
  e = .returned (.bool true) ∧ Fr B w w' ∧ ∃ p' r' st' en' g o C bufv' emp', Adv T i p' ∧ Scn B w' sc rd T p' r' st' en' (.slice (some ⟨g, o, none⟩) (i - p) C) bufv' emp' true ∧ ∀ k, k < i - p → w'.cell? ⟨g, o + k, none⟩ = some (bi T (p + k))

theorem neq82 (a : Addr) (n c : Nat) (w : World) : (binOp BinOp.neq 82 (.slice (some a) n c) (.slice none 0 0)).run Tryz.prog w = .ok (.bool true) w := by kernel_rfl
theorem neq82n (w : World) : (binOp BinOp.neq 82 (.slice none 0 0) (.slice none 0 0)).run Tryz.prog w = .ok (.bool false) w := by kernel_rfl
theorem lines_hit {T : ByteArray} {p i n g st C : Nat} {e : Value} (h : LinesV T p i n g st C e) (hi : i < p + n) : ∃ p', Adv T i p' ∧ p' ≤ p + n ∧ e = (.tuple #[.int .i64 ((p' - p : Nat) : Int), .slice (some ⟨g, st, none⟩) (i - p) C, .nilIface]) := by
  rcases h with ⟨h, _⟩ | ⟨_, h⟩
  · omega
  · exact h
theorem lines_miss {T : ByteArray} {p i n g st C : Nat} {e : Value} (h : LinesV T p i n g st C e) (hi : p + n ≤ i) : e = (.tuple #[.int .i64 0, .slice none 0 0, .nilIface]) := by
  rcases h with ⟨_, h⟩ | ⟨h, _⟩
  · exact h
  · omega
theorem Scn.moved {B : Nat} {w w' : World} {sc rd : Nat} {T : ByteArray} {p r st en p' : Nat} {tok bufv : Value} {emp : Int} {cl : Bool} (h : Scn B w sc rd T p r st en tok bufv emp cl) (k : Kept [sc] w w') (hs : ScIs w' sc rd tok bufv (st + (p' - p)) en emp cl) (hp : p' ≤ r) (hst : st + (p' - p) ≤ en ∨ p' = p) (hpp : p ≤ p') : Scn B w' sc rd T p' r (st + (p' - p)) en tok bufv emp cl := by
  obtain ⟨pr, hr⟩ := h.rds
  refine ⟨hs, ⟨pr, (k.block rd (Array.getElem?_eq_some_iff.1 hr).1 (by simpa using h.ne.symm)).trans hr⟩, h.bsc, h.brd, hp, h.rT, h.tT, ?_⟩
  rcases h.buf with ⟨h1, h2, h3, h4⟩ | ⟨g, F, h1, h2, h3, h4, h5, h6⟩
  · exact .inl ⟨h1, by omega, h3, by omega⟩
  · refine .inr ⟨g, F, h1, h2, k.row h3 (by simpa using (h.buf_ne h1).1), by have := h.le; omega, h5, fun i hi => ?_⟩
    rw [show st + (p' - p) + i = st + (p' - p + i) by omega, h6 (p' - p + i) (by omega), show p + (p' - p + i) = p' + i by omega]

set_option maxHeartbeats 40000000 in
set_option maxRecDepth 100000 in
theorem scan_hit (B sc rd : Nat) (T : ByteArray) (p r st en i : Nat) (tok bufv : Value) (emp : Int) (cl : Bool) (w : World) (h : Scn B w sc rd T p r st en tok bufv emp cl) (hi : EolAt T p i) (hir : i < r) :
    Calls Tryz.prog 79 #[.pointer (some ⟨sc, 0, none⟩)] w fun e w' => ScanE B w sc rd T p i e w' := by
  have c9 : w.cell? ⟨sc, 9, none⟩ = some (.bool cl) := cellsOf h.scs 9
  have c10 : w.cell? ⟨sc, 10, none⟩ = some (.bool false) := cellsOf h.scs 10
  have f9 : w.frozen? ⟨sc, 9, none⟩ = false := frozenOf h.scs 9
  have h1 : Scn B (w.setCell ⟨sc, 9, none⟩ (.bool true)) sc rd T p r st en tok bufv emp true := h.set 9 _ rfl h.le id
  have HS := Lib.hid h1
  have HI := Lib.hid hi
  have HFR : Hid (Fr B w (w.setCell ⟨sc, 9, none⟩ (.bool true))) := Lib.hid (h.fr_set ((Kept.refl _ _).setCell (by simp) _))
  clear h1 h hi
  go_enter Tryz.func79, Tryz.ntmps79
  go_wp2_with fail
  clear c9 c10 f9
  obtain ⟨wr, hwr⟩ : ∃ wr, w.setCell ⟨sc, 9, none⟩ (.bool true) = wr := ⟨_, rfl⟩
  rw [hwr]
  rw [hwr] at HS HFR
  have hS := HS.out
  clear HS hwr
  obtain ⟨g, F, hbv, hBg, hrow, hen, hen2, hFb⟩ := (hS.buf.resolve_left (fun e => by have := HI.out.le; have := e.2.2.2; omega))
  subst hbv
  have hLT := hS.lt
  have z1 : wr.cell? ⟨sc, 1, none⟩ = some (.func (.func 21) #[] #[]) := cellsOf hS.scs 1
  have z4 : wr.cell? ⟨sc, 4, none⟩ = some (.slice (some ⟨g, 0, none⟩) 4096 4096) := cellsOf hS.scs 4
  have z5 : wr.cell? ⟨sc, 5, none⟩ = some (.int .i64 ((st : Nat) : Int)) := cellsOf hS.scs 5
  have z6 : wr.cell? ⟨sc, 6, none⟩ = some (.int .i64 ((en : Nat) : Int)) := cellsOf hS.scs 6
  have z7 : wr.cell? ⟨sc, 7, none⟩ = some .nilIface := cellsOf hS.scs 7
  refine wp_loop_rounds 1 ?_
  rw [rounds_succ]
  have g1 : (st : Int) < (en : Int) := by have := HI.out.le; omega
  have g2 : st ≤ en := by omega
  have g3 : en ≤ 4096 := hen2
  have g4 : (st : Int) ≤ (en : Int) := by omega
  have g5 : (en : Int) ≤ 4096 := by omega
  have g6 : (0 : Int) ≤ (st : Int) := by omega
  have g7 : (0 : Int) ≤ (en : Int) := by omega
  have hrT := hS.rT
  have hle := hS.le
  obtain ⟨v21, hv21, h21⟩ := lines21 T p i (r - p) g st (4096 - st) HI.out (by omega) hS.tT (by omega) (by omega)
  obtain ⟨p', hadv, hp', rfl⟩ := lines_hit hv21 (by omega)
  have H21 : Hid (∀ V, Kept [] wr V → Calls Tryz.prog 21 #[.slice (some ⟨g, st, none⟩) (en - st) (4096 - st), .bool false] V fun e w' => e = .returned (.tuple #[.int .i64 ((p' - p : Nat) : Int), .slice (some ⟨g, st, none⟩) (i - p) (4096 - st), .nilIface]) ∧ ∃ m, w' = V.drewN m) := Lib.hid fun V k => by
    rw [show en - st = r - p by omega]
    exact h21 V (fun k' hk' => by
      rw [(k.row hrow (by simp)).cell (by omega)]
      exact congrArg some (hFb k' hk'))
  clear h21 hv21
  have HS := Lib.hid hS
  have HG := Lib.hid (And.intro hrow (And.intro hFb (And.intro hen (And.intro hBg (And.intro hrT hle)))))
  clear hS hrow hFb hrT hle hBg hen
  go_wp2_with fail
  go_quiet (fail)
  obtain ⟨W, hW⟩ : ∃ W, wr.drewN nq = W := ⟨_, rfl⟩
  rw [hW]
  have kW : Kept [] wr W := by rw [← hW]; exact (Kept.refl _ _).drewN _
  have y1 := kW.cell z1 (by simp)
  have y4 := kW.cell z4 (by simp)
  have y5 := kW.cell z5 (by simp)
  have y6 := kW.cell z6 (by simp)
  have y7 := kW.cell z7 (by simp)
  have HKW := Lib.hid kW
  clear hW kW z1 z4 z5 z6 z7
  go_wp2_with fail
  go_quiet (first | (go_at_call 21; with_reducible exact Calls.quiet_of (H21.out _ (HKW.out.drewN _))) | fail)
  obtain ⟨V1, hV1⟩ : ∃ V, W.drewN nq = V := ⟨_, rfl⟩
  rw [hV1]
  have hk1 : Kept [] W V1 := by rw [← hV1]; exact (Kept.refl _ _).drewN _
  clear hV1 y1 y4 y5 y6 y7
  have HV1 := Lib.hid (HKW.out.trans hk1)
  have hS1 := HS.out.kept HV1.out
  have HADV := Lib.hid (And.intro hadv hp')
  have hpp : p ≤ p' := by rcases hadv with h | h <;> have := HI.out.le <;> omega
  have HPP := Lib.hid hpp
  have H97 := Lib.hid (advance97 V1 sc rd st en (p' - p) tok _ emp true hS1.scs (by have := HG.out; omega) (by omega))
  clear hk1 hadv hp' hpp hS1
  go_wp2_with (go_at_call 97; refine H97.out.mono ?_; rintro e V2 ⟨rfl, hsc2, hk2⟩; refine Hid.out ?_)
  refine Lib.hid ?_
  have hS2 : Scn B V2 sc rd T p' r (st + (p' - p)) en tok (.slice (some ⟨g, 0, none⟩) 4096 4096) emp true := (HS.out.kept HV1.out).moved hk2 hsc2 (by have := HG.out; have := HADV.out; omega) (by have := HG.out; have := HADV.out; have := HPP.out; omega) HPP.out
  have w3 : V2.cell? ⟨sc, 3, none⟩ = some tok := cellsOf hsc2 3
  have w7 : V2.cell? ⟨sc, 7, none⟩ = some .nilIface := cellsOf hsc2 7
  have w8 : V2.cell? ⟨sc, 8, none⟩ = some (.int .i64 emp) := cellsOf hsc2 8
  have u3 : V2.frozen? ⟨sc, 3, none⟩ = false := frozenOf hsc2 3
  have u8 : V2.frozen? ⟨sc, 8, none⟩ = false := frozenOf hsc2 8
  have HS2 := Lib.hid hS2
  have HK2 := Lib.hid hk2
  clear hS2 hsc2 hk2
  have hnq := neq82 ⟨g, st, none⟩ (i - p) (4096 - st)
  go_wp2_with fail
  go_ret
  have hS3 := HS2.out.set (p' := p') (st' := st + (p' - p)) (en' := en) 3 (.slice (some ⟨g, st, none⟩) (i - p) (4096 - st)) rfl HS2.out.le id
  have hS4 := hS3.set (p' := p') (st' := st + (p' - p)) (en' := en) 8 (.int .i64 0) rfl hS3.le id
  refine ⟨rfl, HFR.out.trans ((Fr.of_kept HV1.out HS.out.lt.2.2).trans ((Scn.fr_set (HS.out.kept HV1.out) HK2.out).trans ((HS2.out.fr_set ((Kept.refl _ _).setCell (by simp) _)).trans (hS3.fr_set ((Kept.refl _ _).setCell (by simp) _))))), _, _, _, _, _, _, _, _, _, HADV.out.1, hS4, fun k hk => ?_⟩
  have hr1 := HG.out.1
  have hgs := HS.out.buf_ne rfl
  have hr2 := ((((HV1.out.row hr1 (by simp))).of_block (HK2.out.block g (Nat.lt_of_lt_of_le hgs.2.2 HV1.out.size) (by simpa using hgs.1))).setOther (a := ⟨sc, 3, none⟩) hgs.1 (.slice (some ⟨g, st, none⟩) (i - p) (4096 - st))).setOther (a := ⟨sc, 8, none⟩) hgs.1 (.int .i64 0)
  rw [hr2.cell (by have := HG.out; omega)]
  exact congrArg some (HG.out.2.1 k (by have := HG.out; omega))
end Go.Proofs.YtoaedibfgegilaaGreatDoor.st
