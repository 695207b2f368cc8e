/-
  filter.decodePostProcessRows: all rows.
-/
import Derived.Test.YtmihbmjillcjaaaDoorEof
import Derived.Deep.LoopGhost
namespace Go.Proofs.YtmihbmjillcjaaaDoor.up
set_option linter.unusedVariables false
set_option linter.unusedSimpArgs false
open Go.RowKit

theorem check34 (v : Value) (lr : Int) (w : World) : Calls Tryd.prog 34 #[.agg #[v, .int .i64 0, .int .i8 lr], .int .i64 (-1)] w fun e w' => e = .returned (.bool true) ∧ Below w.heap.size w w' := by
  go_enter Tryd.func34, Tryd.ntmps34
  go_wp2_with fail
  go_ret
  exact ⟨rfl, (Below.refl _ _).alloc (Nat.le_refl _) _⟩

theorem log36 (w : World) : Calls Tryd.prog 36 #[] w fun e w' => e = .returned (.tuple #[]) ∧ w = w' := by
  go_enter Tryd.func36, Tryd.ntmps36
  go_wp2_with fail
  go_end0
  exact ⟨rfl, rfl⟩

/-- The rows so far, as cells. -/
def outV (z : Nat → Int) (h size bpp k : Nat) : List Value := (outL z h size bpp k).map (Value.int .u8)
theorem outV_one {z : Nat → Int} {h size bpp k : Nat} : ∀ v ∈ outV z h size bpp k, v.oneCell' = true := by
  intro v hv
  simp only [outV, List.mem_map] at hv
  obtain ⟨i, _, rfl⟩ := hv
  rfl
theorem outV_length (z : Nat → Int) (h size bpp k : Nat) : (outV z h size bpp k).length = k * size := by simp [outV, outL_length]
theorem outV_succ (z : Nat → Int) (h size bpp k : Nat) : outV z h size bpp k ++ bs8 size (ro z h size bpp k) = outV z h size bpp (k + 1) := by
  unfold outV bs8
  rw [outL, List.map_append]
  simp [rowL]

/-- The state of the loop at row r. -/
structure St (w0 : World) (B c1 c2 rb db N C m h size bpp b : Nat) (z : Nat → Int) (r bc bp : Nat) (wr : World) : Prop where
  two : (bc = c1 ∧ bp = c2) ∨ (bc = c2 ∧ bp = c1)
  rd : RdIs wr rb db N C z (r * m)
  cr : ∃ F, wr.rowIs bc 5 m F
  pr : ∃ tp, wr.rowIs bp 5 m (rwh h tp (ab z h size bpp r))
  buf : Lib.IsBuffer 82 5 B b (outV z h size bpp r) wr
  bel : Bel B [rb, c1, c2] w0 wr

theorem St.kept {w0 : World} {B c1 c2 rb db N C m h size bpp b : Nat} {z : Nat → Int} {r bc bp : Nat} {wr w1 : World} (H : St w0 B c1 c2 rb db N C m h size bpp b z r bc bp wr) (k : Kept [] wr w1) (hB : B ≤ wr.heap.size) :
    St w0 B c1 c2 rb db N C m h size bpp b z r bc bp w1 := by
  obtain ⟨F, hF⟩ := H.cr
  obtain ⟨tp, hP⟩ := H.pr
  exact ⟨H.two, H.rd.kept k (by simp) (by simp), ⟨F, k.row hF (by simp)⟩, ⟨tp, k.row hP (by simp)⟩, buf_keep k (by simp) H.buf, H.bel.trans ((Bel.of_kept k hB).mono (Nat.le_refl _) (by simp))⟩
theorem buf_cells {B b : Nat} {bs : List Value} {w : World} (h : Lib.IsBuffer 82 5 B b bs w) : ∃ (v : Value) (lr : Int), w.cell? ⟨b, 0, none⟩ = some v ∧ w.cell? ⟨b, 1, none⟩ = some (.int .i64 0) ∧ w.cell? ⟨b, 2, none⟩ = some (.int .i8 lr) := by
  obtain ⟨_, v, lr, hc, _⟩ := h
  exact ⟨v, lr, cellsOf hc 0, cellsOf hc 1, cellsOf hc 2⟩

theorem raw_row {w : World} {bc m h size : Nat} {z : Nat → Int} {r : Nat} (hm : size + h = m) (hh : h = 1 ∨ h = 0) (H : w.rowIs bc 5 m (r8 fun i => z (r * m + i))) : w.rowIs bc 5 (size + h) (rwh h (tg z h size r) (raw z h size r)) := by
  rw [hm]
  refine H.congr fun i hi => ?_
  unfold r8 rwh tg raw
  by_cases h0 : i < h
  · obtain rfl : h = 1 := by omega
    obtain rfl : i = 0 := by omega
    rw [if_pos h0, if_pos rfl, hm]
    rfl
  · rw [if_neg h0, hm, show r * m + h + (i - h) = r * m + i by omega]

set_option maxHeartbeats 2000000 in
set_option maxRecDepth 100000 in
theorem rows27 (p : Int) (colors columns size bpp h : Nat) (CF : Cfg p colors columns size bpp h) (z : Nat → Int) (hz : Bytes z) (K : Nat) (htag : ∀ r, r < K → TagH h (tg z h size r)) (rb db N C : Nat) (hN : N = K * (size + h)) (mb : Nat) (ea eu : Addr) (w : World)
    (hR : RdIs w rb db N C z 0) (hE : w.cell? ⟨0, 0, none⟩ = some (.iface 86 (.pointer (some ea)))) (hU : w.cell? ⟨2, 0, none⟩ = some (.iface 86 (.pointer (some eu)))) (hPa : Ptr w ea) (hPu : Ptr w eu) (h0 : 0 ≠ rb) (h2 : 2 ≠ rb) (h3 : ea.block ≠ rb) (h4 : eu.block ≠ rb) :
    Calls Tryd.prog 27 #[.agg #[.map (some mb), .int .i64 1048576], .iface 53 (.pointer (some ⟨rb, 0, none⟩)), .int .i64 (-1), .int .i64 ((size + h : Nat) : Int), .int .i64 p, .int .i64 colors, .int .i64 bpp] w fun e w' =>
      e = .returned (.tuple #[.pointer (some ⟨w.heap.size + 3, 0, none⟩), .nilIface]) ∧ Lib.IsBuffer 82 5 (w.heap.size + 3) (w.heap.size + 3) (outV z h size bpp K) w' ∧ Kept [rb] w w' := by
  have hm1 : 1 ≤ size + h := by have := CF.b1; have := CF.b2; omega
  have hm2 : size + h ≤ 100001 := by have := CF.s; rcases CF.kind with h | h <;> omega
  have hmk : ∀ w : World, (Instr.makeSlice 22 (.int .i64 ((size + h : Nat) : Int)) (.int .i64 ((size + h : Nat) : Int))).run Tryd.prog w = .ok (.slice (some ⟨w.heap.size, 0, none⟩) (size + h) (size + h)) (w.alloc (.cells (madeCells #[.int .u8 0] (size + h)) 5)) := fun w =>
    run_make_row' 22 5 (.int .u8 0) 1 Tryd.underlying22 (by kernel_rfl) rfl .i64 .i64 (size + h) (by omega) (by omega) w
  have hCF := Lib.hid CF
  have htw : Hid (∀ (x y : Value) (wx : World), x = .iface 86 (.pointer (some ea)) → True) := Lib.hid fun _ _ _ _ => trivial
  obtain ⟨m, hm⟩ : ∃ m, size + h = m := ⟨_, rfl⟩
  have HM := Lib.hid hm
  rw [hm] at hm1 hm2 hmk ⊢
  obtain ⟨W0, hW0⟩ : ∃ W0, (((w.alloc (Obj.cells #[Value.map (some mb), Value.int IntKind.i64 1048576] 51)).alloc (Obj.cells (madeCells #[Value.int IntKind.u8 0] m) 5)).alloc (Obj.cells (madeCells #[Value.int IntKind.u8 0] m) 5)).alloc (Obj.cells #[Value.slice none 0 0, Value.int IntKind.i64 0, Value.int IntKind.i8 0] 82) = W0 := ⟨_, rfl⟩
  obtain ⟨s0, hs0⟩ : ∃ s0, w.heap.size = s0 := ⟨_, rfl⟩
  have hrl := hR.lt
  have hdl : N = 0 ∨ db < w.heap.size := by
    rcases Nat.eq_zero_or_pos N with h | h
    · exact .inl h
    · exact .inr (World.block_lt_of_cell? _ _ (hR.data 0 h))
  have k0 : Kept [] w W0 := by rw [← hW0]; exact ((((Kept.refl _ _).alloc _).alloc _).alloc _).alloc _
  have hsz0 : W0.heap.size = s0 + 4 := by rw [← hW0, ← hs0]; simp
  have hfl0 : W0.cell? ⟨s0, 0, none⟩ = some (.map (some mb)) := by rw [← hW0, ← hs0]; simp [go_sem]
  have hfl1 : W0.cell? ⟨s0, 1, none⟩ = some (.int .i64 1048576) := by rw [← hW0, ← hs0]; simp [go_sem]
  have hmade : ∀ (tp : Int), (fun _ => Value.int .u8 0) = rwh h 0 (fun _ => 0) := fun _ => by
    funext j
    unfold rwh
    split <;> rfl
  have hc1 : W0.rowIs (s0 + 1) 5 m (rwh h 0 (fun _ => 0)) := by
    have := World.rowIs_made (w.alloc (Obj.cells #[Value.map (some mb), Value.int IntKind.i64 1048576] 51)) (.int .u8 0) m 5
    have e : (w.alloc (Obj.cells #[Value.map (some mb), Value.int IntKind.i64 1048576] 51)).heap.size = s0 + 1 := by simp [hs0]
    rw [e, hmade 0] at this
    rw [← hW0]
    exact (this.alloc _).alloc _
  have hc2 : W0.rowIs (s0 + 1 + 1) 5 m (rwh h 0 (fun _ => 0)) := by
    have := World.rowIs_made ((w.alloc (Obj.cells #[Value.map (some mb), Value.int IntKind.i64 1048576] 51)).alloc (Obj.cells (madeCells #[Value.int IntKind.u8 0] m) 5)) (.int .u8 0) m 5
    have e : ((w.alloc (Obj.cells #[Value.map (some mb), Value.int IntKind.i64 1048576] 51)).alloc (Obj.cells (madeCells #[Value.int IntKind.u8 0] m) 5)).heap.size = s0 + 1 + 1 := by simp [hs0]
    rw [e, hmade 0] at this
    rw [← hW0]
    exact this.alloc _
  have hb0 : Lib.IsBuffer 82 5 (s0 + 1 + 1 + 1) (s0 + 1 + 1 + 1) (outV z h size bpp 0) W0 := by
    have := Lib.fresh_isBuffer 82 5 (((w.alloc (Obj.cells #[Value.map (some mb), Value.int IntKind.i64 1048576] 51)).alloc (Obj.cells (madeCells #[Value.int IntKind.u8 0] m) 5)).alloc (Obj.cells (madeCells #[Value.int IntKind.u8 0] m) 5))
    have e : (((w.alloc (Obj.cells #[Value.map (some mb), Value.int IntKind.i64 1048576] 51)).alloc (Obj.cells (madeCells #[Value.int IntKind.u8 0] m) 5)).alloc (Obj.cells (madeCells #[Value.int IntKind.u8 0] m) 5)).heap.size = s0 + 1 + 1 + 1 := by simp [hs0]
    rw [e, hW0] at this
    exact this
  have hst : St W0 (s0 + 1 + 1 + 1) (s0 + 1) (s0 + 1 + 1) rb db N C m h size bpp (s0 + 1 + 1 + 1) z 0 (s0 + 1) (s0 + 1 + 1) W0 :=
    ⟨.inl ⟨rfl, rfl⟩, by rw [Nat.zero_mul]; exact hR.kept k0 (by simp) (by simp), ⟨_, hc1⟩, ⟨0, hc2⟩, hb0, Bel.refl _ _ _⟩
  have HST := Lib.hid hst
  have HE := Lib.hid (k0.cell hE (by simp))
  have HU := Lib.hid (k0.cell hU (by simp))
  have HFL := Lib.hid (And.intro hfl0 hfl1)
  have hpl := And.intro hPa.lt hPu.lt
  rw [hs0] at hpl
  have HPL := Lib.hid hpl
  have HPA := Lib.hid (hPa.kept k0 (by simp))
  have HPU := Lib.hid (hPu.kept k0 (by simp))
  have Q1 := Lib.hid fun w => eq_nil_left (.pointer (some ea)) w
  have HW0 := Lib.hid hW0
  have HK0 := Lib.hid k0
  have HTAG := Lib.hid htag
  have HZ := Lib.hid hz
  rw [hs0] at hrl hdl
  have HDL := Lib.hid hdl
  have HS0 := Lib.hid hs0
  have HN := Lib.hid hN
  have HSZ0 := Lib.hid hsz0
  clear hPa hPu hpl hst hE hU hfl0 hfl1 k0 htag hz CF hR hmade hc1 hc2 hb0 hdl hN hsz0 htw hm
  go_enter Tryd.func27, Tryd.ntmps27
  go_wp2_with fail
  clear hW0 hs0
  go_loopg [16, 17] K (fun g a b wr => ∃ r bc bp : Nat, g = K - r ∧ a = .slice (some ⟨bc, 0, none⟩) m m ∧ b = .slice (some ⟨bp, 0, none⟩) m m ∧ Hid (r ≤ K) ∧ Hid (St W0 (s0 + 1 + 1 + 1) (s0 + 1) (s0 + 1 + 1) rb db N C m h size bpp (s0 + 1 + 1 + 1) z r bc bp wr))
  case atStart => exact ⟨0, _, _, by omega, rfl, rfl, Lib.hid (Nat.zero_le _), HST⟩
  case round =>
    obtain ⟨r, bc, bp, rfl, rfl, rfl, HR, HS⟩ := hrel
    obtain ⟨v, lr, b0, b1, b2⟩ := buf_cells HS.out.buf
    have hBw : s0 + 1 + 1 + 1 ≤ wr.heap.size := Nat.le_of_lt HS.out.buf.lt
    have HBw := Lib.hid hBw
    clear hBw
    go_wp2_with (go_at_call 34; refine (check34 _ _ _).mono ?_; rintro e w1 ⟨rfl, hb1⟩; refine Hid.out ?_)
    refine Lib.hid ?_
    have HS1 := Lib.hid (HS.out.kept (Kept.of_below hb1 []) HBw.out)
    have hBw1 : Hid (s0 + 1 + 1 + 1 ≤ w1.heap.size) := Lib.hid (Nat.le_of_lt HS1.out.buf.lt)
    clear hb1 b0 b1 b2 HS HBw
    by_cases hr : r < K
    · have hrm : r * m + m ≤ N := by
        rw [HN.out, HM.out, ← Nat.succ_mul]
        exact Nat.mul_le_mul_right m hr
      have hdl : db < s0 := by rcases HDL.out with h | h; omega; exact h
      have hbp : bc ≠ bp ∧ bc < s0 + 1 + 1 + 1 ∧ bp < s0 + 1 + 1 + 1 ∧ s0 < bc ∧ s0 < bp := by rcases HS1.out.two with h | h <;> omega
      obtain ⟨F, hF⟩ := HS1.out.cr
      have hfull := Lib.hid (full35_row w1 rb db N C z (r * m) m m bc F HS1.out.rd hm1 hrm hF (by omega) (by omega))
      have HX := Lib.hid (And.intro hrm (And.intro hdl hbp))
      clear hF hrm hdl hbp
      go_wp2_with (go_at_call 35; refine hfull.out.mono ?_; rintro e w2 ⟨rfl, r1, r2, r3⟩; refine Hid.out ?_)
      refine Lib.hid ?_
      obtain ⟨hrm, hdl, hb1, hb2, hb3, hb4, hb5⟩ := HX.out
      have hI2 := buf_keep r3 (B := s0 + 1 + 1 + 1) (by simp; omega) HS1.out.buf
      obtain ⟨tp, hP⟩ := HS1.out.pr
      have hP2 := r3.row hP (by simp; omega)
      have hh : h = 1 ∨ h = 0 := by rcases hCF.out.kind with h | h; exact .inl h.1; exact .inr h.1
      have hmN : r * size ≤ N := by
        refine Nat.le_trans (Nat.mul_le_mul_left r (show size ≤ m by have := HM.out; omega)) (by omega)
      have hpr := Lib.hid (process37 p colors columns size bpp h hCF.out (tg z h size r) (HTAG.out r hr) (raw z h size r) (ab z h size bpp r) ⟨fun i => HZ.out.lo _, fun i => HZ.out.hi _⟩ ⟨fun i => ab_ge .., fun i => ab_le ..⟩ tp bc bp w2
        (raw_row HM.out hh r2) (by rw [HM.out]; exact hP2) (fun e => hb1 e.symm) (s0 + 1 + 1 + 1) (s0 + 1 + 1 + 1) _ hb2 hb3 hI2 outV_one (by rw [outV_length]; have := HS1.out.rd.bound; omega))
      rw [HM.out, ← ro_eq] at hpr
      have HR1 := Lib.hid r1
      have HR3 := Lib.hid r3
      clear r1 r2 r3 hI2 hP hP2 hrm hdl hb1 hb2 hb3 hb4 hb5 hmN hfull hh
      go_wp2_with (go_at_call 37; refine hpr.out.mono ?_; rintro e w3 ⟨rfl, r1, r2, r3⟩; refine Hid.out ?_)
      refine Lib.hid ?_
      rw [outV_succ] at r2
      obtain ⟨hrm, hdl, hb1, hb2, hb3, hb4, hb5⟩ := HX.out
      have hst3 : St W0 (s0 + 1 + 1 + 1) (s0 + 1) (s0 + 1 + 1) rb db N C m h size bpp (s0 + 1 + 1 + 1) z (r + 1) bp bc w3 := by
        obtain ⟨tp, hP⟩ := HS1.out.pr
        have htwo := HS1.out.two
        refine ⟨by omega, ?_, ⟨_, r3.row (HR3.out.row hP (by simp; omega)) hb3 (by simp; omega)⟩, ⟨_, r1⟩, r2, ?_⟩
        · rw [Nat.succ_mul]
          exact r3.rd HR1.out (by omega) (by omega) (by simp; omega) (by simp; omega)
        · refine (HS1.out.bel.trans ((Bel.of_kept HR3.out hBw1.out).mono (Nat.le_refl _) ?_)).trans (r3.mono (Nat.le_refl _) ?_)
          · simp; omega
          · simp; omega
      have f0 : w3.cell? ⟨s0, 0, none⟩ = some (.map (some mb)) := hst3.bel.cell HFL.out.1 (by show s0 < _; omega) (by simp; omega)
      have f1 : w3.cell? ⟨s0, 1, none⟩ = some (.int .i64 1048576) := hst3.bel.cell HFL.out.2 (by show s0 < _; omega) (by simp; omega)
      have HST3 := Lib.hid hst3
      have hBw3 : Hid (s0 + 1 + 1 + 1 ≤ w3.heap.size) := Lib.hid (Nat.le_of_lt hst3.buf.lt)
      clear r1 r2 r3 hst3 hrm hdl hb1 hb2 hb3 hb4 hb5 hpr HR1 HR3 HS1 hBw1
      go_wp2_with (go_at_call 26; refine (limit26 _ _).mono ?_; rintro e w4 ⟨rfl, hb4⟩; refine Hid.out ?_)
      refine Lib.hid ?_
      have HST4 := Lib.hid (HST3.out.kept (Kept.of_below hb4 []) hBw3.out)
      clear hb4 f0 f1 HST3 hBw3
      have hlen := Lib.hid (Tryd.Buffer_Len _ _ _ w4 HST4.out.buf)
      have hL := outV_length z h size bpp (r + 1)
      have hL2 : (r + 1) * size ≤ 100000 := Nat.le_trans (Nat.le_trans (Nat.mul_le_mul_left (r + 1) (show size ≤ m by have := HM.out; omega)) (by rw [Nat.succ_mul]; exact HX.out.1)) HST4.out.rd.bound
      rw [hL] at hlen
      generalize (r + 1) * size = L at *
      have hE4 : w4.cell? ⟨0, 0, none⟩ = some (.iface 86 (.pointer (some ea))) := HST4.out.bel.cell HE.out (by show 0 < _; omega) (by simp; omega)
      have hL3 : ¬ (1048576 : Int) < (L : Int) := by omega
      have q1 := Q1.out
      have hK : Hid (r + 1 ≤ K) := Lib.hid hr
      clear hL hr hL2
      go_wp2_with (go_at_call 28; refine hlen.out.mono ?_; rintro e w5 ⟨rfl, n5, rfl⟩)
      go_roundg (K - (r + 1))
      case measure => have := hK.out; omega
      case rel => exact ⟨r + 1, bp, bc, rfl, rfl, rfl, hK, Lib.hid (HST4.out.kept ((Kept.refl _ _).drewN n5) (Nat.le_of_lt HST4.out.buf.lt))⟩
    · obtain rfl : r = K := by have := HR.out; omega
      have hrd := HS1.out.rd
      rw [show r * m = N by rw [HN.out, HM.out]] at hrd
      have hbp : bc < s0 + 1 + 1 + 1 ∧ bp < s0 + 1 + 1 + 1 ∧ s0 < bc ∧ s0 < bp := by rcases HS1.out.two with h | h <;> omega
      have hE1 : w1.cell? ⟨0, 0, none⟩ = some (.iface 86 (.pointer (some ea))) := HS1.out.bel.cell HE.out (by show 0 < _; omega) (by simp; omega)
      have hU1 : w1.cell? ⟨2, 0, none⟩ = some (.iface 86 (.pointer (some eu))) := HS1.out.bel.cell HU.out (by show 2 < _; omega) (by simp; omega)
      have hfull := Lib.hid (full35_end w1 rb db N C z m m bc ea hrd hm1 hE1)
      clear hrd hbp
      obtain ⟨t, q2⟩ := eq_any ea eu w1 (HPA.out.bel HS1.out.bel (by have := HPL.out.1; omega) (by have := HPL.out.1; simp; omega)) (HPU.out.bel HS1.out.bel (by have := HPL.out.2; omega) (by have := HPL.out.2; simp; omega))
      have q3 := fun w => ne_same ea w
      have q4 := fun w => eq_same ea w
      cases t
      all_goals
        go_wp2_with (first
          | (go_at_call 35; refine hfull.out.mono ?_; rintro e w2 ⟨rfl, n2, rfl⟩)
          | (go_at_call 36; refine (log36 _).mono ?_; rintro e w3 ⟨rfl, rfl⟩))
        go_ret2
        refine ⟨by rw [HS0.out]; rfl, by rw [HS0.out]; exact buf_keep ((Kept.refl [] _).drewN n2) (by simp) HS1.out.buf, ?_⟩
        have hk := HS0.out
        refine Bel.kept (B := s0) (L := [rb, s0 + 1, s0 + 1 + 1]) ?_ (by omega) (by simp; omega)
        exact (((Bel.of_kept HK0.out (by omega)).mono (Nat.le_refl _) (by simp)).trans (HS1.out.bel.mono (by omega) (by simp))).drewN n2
end Go.Proofs.YtmihbmjillcjaaaDoor.up
