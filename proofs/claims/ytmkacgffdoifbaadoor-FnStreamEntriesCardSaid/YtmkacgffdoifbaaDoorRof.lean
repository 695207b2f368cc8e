/-
  spec.RowsOf: the rows of a cross reference stream.
-/
import Derived.Test.YtmkacgffdoifbaaDoorRpl
namespace Go.Proofs.YtmkacgffdoifbaaDoor.se
open Go.RowKit Go.MapKept Go.ChangeMaps
set_option linter.unusedVariables false
set_option linter.unusedSimpArgs false

/-- Bytes of the call's own. -/
structure Acc (W V : World) (B : Nat) (o : Value) (L : List Nat) : Prop where
  own : V.ownsRow B 5 1 o L.length (bv L)
  bel : Bel B [] W V
  size : B ≤ V.heap.size
theorem Acc.drewN {W V : World} {B : Nat} {o : Value} {L : List Nat} (h : Acc W V B o L) (n : Nat) : Acc W (V.drewN n) B o L := ⟨⟨h.own.1, h.own.2⟩, h.bel.drewN n, h.size⟩
theorem Acc.alloc {W V : World} {B : Nat} {o : Value} {L : List Nat} (h : Acc W V B o L) (ob : Obj) : Acc W (V.alloc ob) B o L := ⟨h.own.alloc _, h.bel.alloc h.size _, by have := h.size; simp; omega⟩
theorem Acc.app {W V V1 : World} {B n width : Nat} {o : Value} {L : List Nat} {e : Ending} (h : Acc W V B o L) (hF : FieldE V n width e V1) (hL : L.length ≤ 1000000) (hw : width ≤ 6) (ty : TypeId) :
    ∃ a m C V', (Builtin.append_ #[27, 27] ty #[o, .slice (some ⟨V.heap.size, 0, none⟩) width width]).run Tryd.prog V1 = .ok (.slice a m C) V' ∧ Acc W V' B (.slice a m C) (L ++ fb n width) := by
  obtain ⟨_, hb, hbl, hsz⟩ := hF
  obtain ⟨i5, hi5, hz5, hsz5, hby5⟩ := info_parts info5f
  have k1 : Kept [] V V1 := Kept.of_below hbl []
  have hown : V1.ownsRow B 5 1 o L.length (bv L) := own_kept h.own k1 (by simp)
  have hB1 : B ≤ V1.heap.size := Nat.le_trans h.size k1.size
  obtain ⟨v', w', hr, ho, hg, hnil⟩ := run_append_own (P := Tryd.prog) (w := V1) B 27 ty 5 i5 (.int .u8 0) 1 1 Tryd.underlying27 hi5 hz5 hsz5 hby5 rfl (by decide) o L.length (bv L) hown ⟨V.heap.size, 0, none⟩ width width (bv (fb n width)) (by simp [bv, fb_length])
    (fun j u hj => by
      rw [addr_add, Nat.zero_add, cellsOf hb]
      simpa using hj) (fun u hu => by
      simp [bv] at hu
      obtain ⟨i, _, rfl⟩ := hu
      rfl) (by unfold maxLen; omega) (by omega) hB1
  obtain ⟨a, C, rfl⟩ := own_slice ho
  have e1 : (L ++ fb n width).length = L.length + width := by simp [fb_length]
  have hg' := grown_bel hg (B := B) hB1 (fun g hg => (own_block hown g hg).1)
  exact ⟨a, _, C, w', hr, ⟨by rw [e1, bv_append]; exact ho, h.bel.trans ((Bel.of_kept k1 h.size).trans hg'), Nat.le_trans hB1 hg'.size⟩⟩

theorem two8 (k : Nat) : (2 : Int) ^ (8 * k) = ((256 ^ k : Nat) : Int) := by
  rw [cast256, Int.pow_mul]; rfl
theorem shr_zero {a : Nat} {k : Nat} : ((a : Int) / 2 ^ (8 * k) = 0) ↔ a < 256 ^ k := by
  have hp : 0 < 256 ^ k := Nat.pow_pos (by omega)
  rw [two8]
  generalize 256 ^ k = m at *
  rw [← Int.natCast_ediv]
  constructor
  · intro h
    have h2 : a / m = 0 := by omega
    rcases Nat.lt_or_ge a m with h1 | h1
    · exact h1
    · have h3 : 1 ≤ a / m := (Nat.one_le_div_iff hp).2 h1
      omega
  · intro h
    rw [Nat.div_eq_of_lt h]
    rfl
theorem shr0 (A k : Nat) (hk : k ≤ 6) (h : A < 256 ^ k) (W : World) : (Op.shift BinOp.shr IntKind.i64 (A : Int) IntKind.i64 (wrap64 (8 * (k : Int)))).run Tryd.prog W = .ok (.int .i64 0) W := by
  have e : wrap64 (8 * (k : Int)) = ((8 * k : Nat) : Int) := by unfold wrap64; omega
  rw [e]
  have e2 := (shr_zero (a := A) (k := k)).2 h
  have n1 : ¬ ((8 * k : Nat) : Int) < 0 := by omega
  have hm : min (((8 * k : Nat) : Int)).toNat IntKind.i64.bits = 8 * k := by
    rw [Int.toNat_natCast]
    have : IntKind.i64.bits = 64 := rfl
    omega
  simp only [Op.shift, n1, if_false, hm]
  rw [Int.fdiv_eq_ediv_of_nonneg _ (by rw [two8]; omega), e2]
  rfl

theorem shrN (A k : Nat) (hk : k ≤ 6) (W : World) : (Op.shift BinOp.shr IntKind.i64 (A : Int) IntKind.i64 (wrap64 (8 * (k : Int)))).run Tryd.prog W = .ok (.int .i64 ((A / 256 ^ k : Nat) : Int)) W := by
  have e : wrap64 (8 * (k : Int)) = ((8 * k : Nat) : Int) := by unfold wrap64; omega
  rw [e]
  have n1 : ¬ ((8 * k : Nat) : Int) < 0 := by omega
  have hm : min (((8 * k : Nat) : Int)).toNat IntKind.i64.bits = 8 * k := by
    rw [Int.toNat_natCast]
    have : IntKind.i64.bits = 64 := rfl
    omega
  simp only [Op.shift, n1, if_false, hm]
  rw [Int.fdiv_eq_ediv_of_nonneg _ (by rw [two8]; exact Int.natCast_nonneg _), two8, ← Int.natCast_ediv]
  rfl
theorem shr_ne {A k : Nat} (h : ¬ A < 256 ^ k) : (((A / 256 ^ k : Nat) : Int) != 0) = true := by
  have hp : 0 < 256 ^ k := Nat.pow_pos (by omega)
  have h3 : 1 ≤ A / 256 ^ k := (Nat.one_le_div_iff hp).2 (by omega)
  generalize A / 256 ^ k = X at *
  simp
  omega
theorem pow_lt {a k : Nat} (h : a < 256 ^ k) : (a : Int) < (256 : Int) ^ k := by
  rw [← cast256]
  omega
theorem lt_62 {a k : Nat} (hk : k ≤ 6) (h1 : a < 256 ^ k) : a < 4611686018427387904 := by
  have h2 : 256 ^ k ≤ 256 ^ 6 := Nat.pow_le_pow_right (by omega) hk
  have h3 : (256 : Nat) ^ 6 = 281474976710656 := by decide
  omega

def RowsE (w : World) (w0 w1 w2 n : Nat) (f : Nat → Ent) (e : Ending) (w' : World) : Prop :=
  ∃ v b, e = .returned (.tuple #[v, .bool b]) ∧ Below w.heap.size w w' ∧ (b = true → (∀ i, i < n → Fits (f i) w0 w1 w2) ∧ w'.ownsRow w.heap.size 5 1 v (dataB w0 w1 w2 f n).length (bv (dataB w0 w1 w2 f n)))

set_option maxHeartbeats 40000000 in
set_option maxRecDepth 100000 in
theorem rows4z (v : Value) (n : Nat) (f : Nat → Ent) (w0 w1 w2 : Nat) (w : World) (hD : EntsV w v n f) (hz : w0 = 0) (hn : n ≤ 500) (h0 : w0 ≤ 2) (h1 : 1 ≤ w1) (h1' : w1 ≤ 6) (h2 : w2 ≤ 3) :
    Calls Tryd.prog 4 #[v, .agg #[.int .i64 (w0 : Int), .int .i64 (w1 : Int), .int .i64 (w2 : Int)]] w fun e w' => RowsE w w0 w1 w2 n f e w' := by
  subst hz
  rw [show ((0 : Nat) : Int) = 0 from rfl]
  obtain ⟨a, C, rfl⟩ := hD.slice
  have HD := Lib.hid hD
  have HW := Lib.hid (And.intro h0 (And.intro h1 (And.intro h1' h2)))
  have HN := Lib.hid hn
  obtain ⟨W, hW⟩ : ∃ W, w.alloc (.cells #[.int .i64 (0 : Int), .int .i64 (w1 : Int), .int .i64 (w2 : Int)] 23) = W := ⟨_, rfl⟩
  have kW : Kept [] w W := by rw [← hW]; exact (Kept.refl _ _).alloc _
  have hbox : W.heap[w.heap.size]? = some (.cells #[.int .i64 (0 : Int), .int .i64 (w1 : Int), .int .i64 (w2 : Int)] 23 (0, 0)) := by rw [← hW]; exact heap_alloc_new w _
  have hsW : W.heap.size = w.heap.size + 1 := by rw [← hW]; simp
  have HK := Lib.hid (And.intro kW (And.intro hbox hsW))
  have hno : ∀ V, Bel (w.heap.size + 1) [] W V → RowsE w 0 w1 w2 n f (.returned (.tuple #[.slice none 0 0, .bool false])) V := fun V h => ⟨_, _, rfl, (kW.below (Nat.le_refl _) (by simp)).trans (h.below' (by omega)), fun e => by cases e⟩
  have HNO := Lib.hid hno
  clear hD hn h0 h1 h1' h2 kW hbox hsW hno
  go_enter Tryd.func4, Tryd.ntmps4
  go_wp2_with fail
  clear hW
  go_loopw [6, 14] (fun o i wr => ∃ k : Nat, i = .int .i64 (k : Int) ∧ k ≤ n ∧ Hid ((∀ i, i < k → Fits (f i) 0 w1 w2) ∧ Acc W wr (w.heap.size + 1) o (dataB 0 w1 w2 f k))) (fun _ i _ => n - (intOf i).toNat)
  case atStart => exact ⟨0, rfl, by omega, Lib.hid ⟨fun i hi => by omega, ⟨rfl, .inl ⟨rfl, rfl⟩⟩, Bel.refl _ _ _, by rw [HK.out.2.2]; exact Nat.le_refl _⟩⟩
  case round =>
    obtain ⟨k, rfl, hk, HS⟩ := hrel
    by_cases hlt : k < n
    · obtain ⟨b, o, rfl, hc⟩ := (HD.out.kept HK.out.1).cells (by omega)
      have hcell : ∀ j u, (entC (f k))[j]? = some u → wr.cell? ⟨b, o + k * 9 + j, none⟩ = some u := fun j u hj => by
        have h := hc k hlt j u hj
        exact HS.out.2.bel.cell h (by rw [← HK.out.2.2]; exact World.block_lt_of_cell? _ _ h) (by simp)
      obtain ⟨⟨num, fr, cm, off, gen, hf, hg, str, idx⟩, hfk⟩ : ∃ e, f k = e := ⟨_, rfl⟩
      rw [hfk] at hcell
      have c0 : wr.cell? ⟨b, o + k * 9, none⟩ = some (.int .i64 num) := hcell 0 _ rfl
      have c1 : wr.cell? ⟨b, o + k * 9 + 1, none⟩ = some (.bool fr) := hcell 1 _ rfl
      have c2 : wr.cell? ⟨b, o + k * 9 + 2, none⟩ = some (.bool cm) := hcell 2 _ rfl
      have c3 : wr.cell? ⟨b, o + k * 9 + 3, none⟩ = some (.int .i64 off) := hcell 3 _ rfl
      have c4 : wr.cell? ⟨b, o + k * 9 + 4, none⟩ = some (.int .i64 gen) := hcell 4 _ rfl
      have c5 : wr.cell? ⟨b, o + k * 9 + 5, none⟩ = some (.bool hf) := hcell 5 _ rfl
      have c6 : wr.cell? ⟨b, o + k * 9 + 6, none⟩ = some (.bool hg) := hcell 6 _ rfl
      have c7 : wr.cell? ⟨b, o + k * 9 + 7, none⟩ = some (.int .i64 str) := hcell 7 _ rfl
      have c8 : wr.cell? ⟨b, o + k * 9 + 8, none⟩ = some (.int .i64 idx) := hcell 8 _ rfl
      have d0 : wr.cell? ⟨w.heap.size, 0, none⟩ = some (.int .i64 (0 : Int)) := HS.out.2.bel.cell (cellsOf HK.out.2.1 0) (by simp) (by simp)
      have d1 : wr.cell? ⟨w.heap.size, 1, none⟩ = some (.int .i64 (w1 : Int)) := HS.out.2.bel.cell (cellsOf HK.out.2.1 1) (by simp) (by simp)
      have d2 : wr.cell? ⟨w.heap.size, 2, none⟩ = some (.int .i64 (w2 : Int)) := HS.out.2.bel.cell (cellsOf HK.out.2.1 2) (by simp) (by simp)
      have HF := Lib.hid hfk
      have hwl : w.heap.size < wr.heap.size := World.block_lt_of_cell? _ _ d0
      have hki : (k : Int) < (n : Int) := by omega
      clear hc hcell hfk
      have e0 : decide ((0 : Int) < 0) = false := by simp
      have e1 : decide ((w1 : Int) < 1) = false := by have := HW.out; simp <;> omega
      have e2 : decide ((w2 : Int) < 0) = false := by simp
      have e3 : decide (2 < (0 : Int)) = false := by have := HW.out; simp <;> omega
      have e4 : decide (6 < (w1 : Int)) = false := by have := HW.out; simp <;> omega
      have e5 : decide (3 < (w2 : Int)) = false := by have := HW.out; simp <;> omega
      have HKN := Lib.hid hlt
      have hkb : k < 500 := by have := HN.out; omega
      cases fr <;> cases cm
      · go_wp2_with fail
        go_quiet (fail)
        obtain ⟨V, hV⟩ : ∃ V, (wr.alloc (.cells #[.int .i64 num, .bool false, .bool false, .int .i64 off, .int .i64 gen, .bool hf, .bool hg, .int .i64 str, .int .i64 idx] 26)).drewN nq = V := ⟨_, rfl⟩
        rw [hV]
        have HV := Lib.hid (show Acc W V (w.heap.size + 1) _ (dataB 0 w1 w2 f k) by rw [← hV]; exact (HS.out.2.alloc _).drewN _)
        have v0 : V.cell? ⟨w.heap.size, 0, none⟩ = some (.int .i64 (0 : Int)) := HV.out.bel.cell (cellsOf HK.out.2.1 0) (by simp) (by simp)
        have v1 : V.cell? ⟨w.heap.size, 1, none⟩ = some (.int .i64 (w1 : Int)) := HV.out.bel.cell (cellsOf HK.out.2.1 1) (by simp) (by simp)
        have v2 : V.cell? ⟨w.heap.size, 2, none⟩ = some (.int .i64 (w2 : Int)) := HV.out.bel.cell (cellsOf HK.out.2.1 2) (by simp) (by simp)
        have x1 : V.cell? ⟨wr.heap.size, 1, none⟩ = some (.bool false) := by rw [← hV]; simp [go_sem]
        have x2 : V.cell? ⟨wr.heap.size, 2, none⟩ = some (.bool false) := by rw [← hV]; simp [go_sem]
        clear hV c0 c1 c2 c3 c4 c5 c6 c7 c8 d0 d1 d2
        by_cases q1 : off < 0
        · have g1 : decide (off < 0) = true := by simpa using q1
          clear q1
          go_wp2_with fail
          all_goals
            go_ret2
            exact HNO.out _ (HV.out.bel)
        obtain ⟨A, rfl⟩ := Int.eq_ofNat_of_zero_le (show 0 ≤ off by omega)
        have g1 : decide ((A : Int) < 0) = false := by simp
        clear q1
        go_wp2_with fail
        clear e0 e1 e2 e3 e4 e5 g1
        by_cases q2 : A < 256 ^ w1
        rotate_left
        · have s1 := fun W => shrN A w1 (by have := HW.out; omega) W
          have g2 := shr_ne q2
          clear q2
          generalize A / 256 ^ w1 = X at s1 g2
          rw [s1]
          go_simp
          go_wp2_with fail
          all_goals
            go_ret2
            exact HNO.out _ (HV.out.bel)
        have s1 := fun W => shr0 A w1 (by have := HW.out; omega) q2 W
        by_cases q3 : gen < 0
        · have g3 : decide (gen < 0) = true := by simpa using q3
          clear q2 q3
          rw [s1]
          go_simp
          go_wp2_with fail
          all_goals
            go_ret2
            exact HNO.out _ (HV.out.bel)
        obtain ⟨Bb, rfl⟩ := Int.eq_ofNat_of_zero_le (show 0 ≤ gen by omega)
        have g3 : decide ((Bb : Int) < 0) = false := by simp
        clear q3
        rw [s1]
        go_simp
        go_wp2_with fail
        clear s1 g3
        by_cases q4 : Bb < 256 ^ w2
        rotate_left
        · have s2 := fun W => shrN Bb w2 (by have := HW.out; omega) W
          have g4 := shr_ne q4
          clear q2 q4
          generalize Bb / 256 ^ w2 = X at s2 g4
          rw [s2]
          go_simp
          go_wp2_with fail
          all_goals
            go_ret2
            exact HNO.out _ (HV.out.bel)
        have s2 := fun W => shr0 Bb w2 (by have := HW.out; omega) q4 W
        have HFF : Hid (Fits (f k) 0 w1 w2) := Lib.hid (by
          rw [HF.out]
          exact ⟨by simp, fun _ => rfl, by simp, Int.natCast_nonneg _, pow_lt q2, Int.natCast_nonneg _, pow_lt q4⟩)
        have HR : Hid (rowB 0 w1 w2 (f k) = fb 1 0 ++ (fb A w1 ++ fb Bb w2)) := Lib.hid (by rw [HF.out]; rfl)
        have H8a := Lib.hid fun V => field8 1 0 (by have := HW.out; omega) (by omega) V
        have H8b := Lib.hid fun V => field8 A w1 (by have := HW.out; omega) (lt_62 (by have := HW.out; omega) q2) V
        have H8c := Lib.hid fun V => field8 Bb w2 (by have := HW.out; omega) (lt_62 (by have := HW.out; omega) q4) V
        have HLEN := Lib.hid (show (dataB 0 w1 w2 f k).length ≤ 10000 by
          rw [dataB_length]
          have h5 : k * (0 + w1 + w2) ≤ 500 * 11 := Nat.mul_le_mul (by have := HN.out; omega) (by have := HW.out; omega)
          omega)
        clear q2 q4
        rw [s2]
        go_simp
        go_wp2_with (go_at_call 8; refine (H8a.out _).mono ?_; rintro e V1 hF1; (have he := hF1.1); subst he; refine Hid.out ?_)
        refine Lib.hid ?_
        obtain ⟨a1, m1, C1, V2, hr1, hA2⟩ := HV.out.app hF1 (by have := HLEN.out; omega) (by have := HW.out; omega) 27
        have d3 : V2.cell? ⟨w.heap.size, 1, none⟩ = some (.int .i64 (w1 : Int)) := hA2.bel.cell (cellsOf HK.out.2.1 1) (by simp) (by simp)
        go_wp2_with (first | (at_builtin; refine Lib.wpList_append_run _ rfl _ _ 27 27 rfl _ _ rfl rfl _ _ hr1 ?_) | (go_at_call 8; refine (H8b.out _).mono ?_; rintro e V3 hF3; (have he := hF3.1); subst he; refine Hid.out ?_))
        refine Lib.hid ?_
        obtain ⟨a2, m2, C2, V4, hr2, hA4⟩ := hA2.app hF3 (by have := HLEN.out; have := HW.out; simp [fb_length]; omega) (by have := HW.out; omega) 27
        have d4 : V4.cell? ⟨w.heap.size, 2, none⟩ = some (.int .i64 (w2 : Int)) := hA4.bel.cell (cellsOf HK.out.2.1 2) (by simp) (by simp)
        go_wp2_with (first | (at_builtin; refine Lib.wpList_append_run _ rfl _ _ 27 27 rfl _ _ rfl rfl _ _ hr2 ?_) | (go_at_call 8; refine (H8c.out _).mono ?_; rintro e V5 hF5; (have he := hF5.1); subst he; refine Hid.out ?_))
        refine Lib.hid ?_
        obtain ⟨a3, m3, C3, V6, hr3, hA6⟩ := hA4.app hF5 (by have := HLEN.out; have := HW.out; simp [fb_length]; omega) (by have := HW.out; omega) 27
        have HA6 := Lib.hid hA6
        clear hA6 hA2 hA4 hF1 hF3 hF5 hr1 hr2
        go_wp2_with (at_builtin; refine Lib.wpList_append_run _ rfl _ _ 27 27 rfl _ _ rfl rfl _ _ hr3 ?_)
        go_roundw
        case rel =>
          refine ⟨k + 1, by go_num, by have := HKN.out; omega, Lib.hid ⟨fun i hi => ?_, ?_⟩⟩
          · rcases Nat.lt_or_ge i k with h | h
            · exact HS.out.1 i h
            · obtain rfl : i = k := by omega
              exact HFF.out
          · have h := HA6.out
            rw [List.append_assoc, List.append_assoc, ← HR.out, ← dataB_succ] at h
            exact h
        case measure => have := HKN.out; simp [intOf]; omega
      · go_wp2_with fail
        go_quiet (fail)
        obtain ⟨nq1, hnq⟩ : ∃ q, q = nq := ⟨_, rfl⟩
        subst hnq
        go_wp2_with fail
        go_quiet (fail)
        obtain ⟨V, hV⟩ : ∃ V, ((wr.alloc (.cells #[.int .i64 num, .bool false, .bool true, .int .i64 off, .int .i64 gen, .bool hf, .bool hg, .int .i64 str, .int .i64 idx] 26)).drewN nq1).drewN nq = V := ⟨_, rfl⟩
        rw [hV]
        have HV := Lib.hid (show Acc W V (w.heap.size + 1) _ (dataB 0 w1 w2 f k) by rw [← hV]; exact ((HS.out.2.alloc _).drewN _).drewN _)
        have v0 : V.cell? ⟨w.heap.size, 0, none⟩ = some (.int .i64 (0 : Int)) := HV.out.bel.cell (cellsOf HK.out.2.1 0) (by simp) (by simp)
        have v1 : V.cell? ⟨w.heap.size, 1, none⟩ = some (.int .i64 (w1 : Int)) := HV.out.bel.cell (cellsOf HK.out.2.1 1) (by simp) (by simp)
        have v2 : V.cell? ⟨w.heap.size, 2, none⟩ = some (.int .i64 (w2 : Int)) := HV.out.bel.cell (cellsOf HK.out.2.1 2) (by simp) (by simp)
        have x1 : V.cell? ⟨wr.heap.size, 1, none⟩ = some (.bool false) := by rw [← hV]; simp [go_sem]
        have x2 : V.cell? ⟨wr.heap.size, 2, none⟩ = some (.bool true) := by rw [← hV]; simp [go_sem]
        clear hV c0 c1 c2 c3 c4 c5 c6 c7 c8 d0 d1 d2
        by_cases hy : w2 = 0
        · have ey : ((w2 : Int) == 0) = true := by simp [hy]
          clear hy
          go_wp2_with fail
          all_goals
            go_ret2
            exact HNO.out _ HV.out.bel
        have ey : ((w2 : Int) == 0) = false := by simp; omega
        clear hy
        go_wp2_with fail
        all_goals
          go_ret2
          exact HNO.out _ HV.out.bel
      · go_wp2_with fail
        go_quiet (fail)
        obtain ⟨V, hV⟩ : ∃ V, (wr.alloc (.cells #[.int .i64 num, .bool true, .bool false, .int .i64 off, .int .i64 gen, .bool hf, .bool hg, .int .i64 str, .int .i64 idx] 26)).drewN nq = V := ⟨_, rfl⟩
        rw [hV]
        have HV := Lib.hid (show Acc W V (w.heap.size + 1) _ (dataB 0 w1 w2 f k) by rw [← hV]; exact (HS.out.2.alloc _).drewN _)
        have v0 : V.cell? ⟨w.heap.size, 0, none⟩ = some (.int .i64 (0 : Int)) := HV.out.bel.cell (cellsOf HK.out.2.1 0) (by simp) (by simp)
        have v1 : V.cell? ⟨w.heap.size, 1, none⟩ = some (.int .i64 (w1 : Int)) := HV.out.bel.cell (cellsOf HK.out.2.1 1) (by simp) (by simp)
        have v2 : V.cell? ⟨w.heap.size, 2, none⟩ = some (.int .i64 (w2 : Int)) := HV.out.bel.cell (cellsOf HK.out.2.1 2) (by simp) (by simp)
        have x1 : V.cell? ⟨wr.heap.size, 1, none⟩ = some (.bool true) := by rw [← hV]; simp [go_sem]
        have x2 : V.cell? ⟨wr.heap.size, 2, none⟩ = some (.bool false) := by rw [← hV]; simp [go_sem]
        clear hV c0 c1 c2 c3 c4 c5 c6 c7 c8 d0 d1 d2
        go_wp2_with fail
        all_goals
          go_ret2
          exact HNO.out _ HV.out.bel
      · go_wp2_with fail
        go_quiet (fail)
        obtain ⟨V, hV⟩ : ∃ V, (wr.alloc (.cells #[.int .i64 num, .bool true, .bool true, .int .i64 off, .int .i64 gen, .bool hf, .bool hg, .int .i64 str, .int .i64 idx] 26)).drewN nq = V := ⟨_, rfl⟩
        rw [hV]
        have HV := Lib.hid (show Acc W V (w.heap.size + 1) _ (dataB 0 w1 w2 f k) by rw [← hV]; exact (HS.out.2.alloc _).drewN _)
        have v0 : V.cell? ⟨w.heap.size, 0, none⟩ = some (.int .i64 (0 : Int)) := HV.out.bel.cell (cellsOf HK.out.2.1 0) (by simp) (by simp)
        have v1 : V.cell? ⟨w.heap.size, 1, none⟩ = some (.int .i64 (w1 : Int)) := HV.out.bel.cell (cellsOf HK.out.2.1 1) (by simp) (by simp)
        have v2 : V.cell? ⟨w.heap.size, 2, none⟩ = some (.int .i64 (w2 : Int)) := HV.out.bel.cell (cellsOf HK.out.2.1 2) (by simp) (by simp)
        have x1 : V.cell? ⟨wr.heap.size, 1, none⟩ = some (.bool true) := by rw [← hV]; simp [go_sem]
        have x2 : V.cell? ⟨wr.heap.size, 2, none⟩ = some (.bool true) := by rw [← hV]; simp [go_sem]
        clear hV c0 c1 c2 c3 c4 c5 c6 c7 c8 d0 d1 d2
        go_wp2_with fail
        all_goals
          go_ret2
          exact HNO.out _ HV.out.bel
    · obtain rfl : k = n := by omega
      go_wp2_with fail
      go_ret2
      refine ⟨_, _, rfl, (HK.out.1.below (Nat.le_refl _) (by simp)).trans (HS.out.2.bel.below' (by omega)), fun _ => ⟨HS.out.1, own_mono HS.out.2.own (by omega)⟩⟩

set_option maxHeartbeats 40000000 in
set_option maxRecDepth 100000 in
theorem rows4p (v : Value) (n : Nat) (f : Nat → Ent) (w0 w1 w2 : Nat) (w : World) (hD : EntsV w v n f) (hz : 0 < w0) (hn : n ≤ 500) (h0 : w0 ≤ 2) (h1 : 1 ≤ w1) (h1' : w1 ≤ 6) (h2 : w2 ≤ 3) :
    Calls Tryd.prog 4 #[v, .agg #[.int .i64 (w0 : Int), .int .i64 (w1 : Int), .int .i64 (w2 : Int)]] w fun e w' => RowsE w w0 w1 w2 n f e w' := by
  have ez : ((w0 : Int) == 0) = false := by simp; omega
  have hzz := Lib.hid hz
  clear hz
  obtain ⟨a, C, rfl⟩ := hD.slice
  have HD := Lib.hid hD
  have HW := Lib.hid (And.intro h0 (And.intro h1 (And.intro h1' h2)))
  have HN := Lib.hid hn
  obtain ⟨W, hW⟩ : ∃ W, w.alloc (.cells #[.int .i64 (w0 : Int), .int .i64 (w1 : Int), .int .i64 (w2 : Int)] 23) = W := ⟨_, rfl⟩
  have kW : Kept [] w W := by rw [← hW]; exact (Kept.refl _ _).alloc _
  have hbox : W.heap[w.heap.size]? = some (.cells #[.int .i64 (w0 : Int), .int .i64 (w1 : Int), .int .i64 (w2 : Int)] 23 (0, 0)) := by rw [← hW]; exact heap_alloc_new w _
  have hsW : W.heap.size = w.heap.size + 1 := by rw [← hW]; simp
  have HK := Lib.hid (And.intro kW (And.intro hbox hsW))
  have hno : ∀ V, Bel (w.heap.size + 1) [] W V → RowsE w w0 w1 w2 n f (.returned (.tuple #[.slice none 0 0, .bool false])) V := fun V h => ⟨_, _, rfl, (kW.below (Nat.le_refl _) (by simp)).trans (h.below' (by omega)), fun e => by cases e⟩
  have HNO := Lib.hid hno
  clear hD hn h0 h1 h1' h2 kW hbox hsW hno
  go_enter Tryd.func4, Tryd.ntmps4
  go_wp2_with fail
  clear hW
  go_loopw [6, 14] (fun o i wr => ∃ k : Nat, i = .int .i64 (k : Int) ∧ k ≤ n ∧ Hid ((∀ i, i < k → Fits (f i) w0 w1 w2) ∧ Acc W wr (w.heap.size + 1) o (dataB w0 w1 w2 f k))) (fun _ i _ => n - (intOf i).toNat)
  case atStart => exact ⟨0, rfl, by omega, Lib.hid ⟨fun i hi => by omega, ⟨rfl, .inl ⟨rfl, rfl⟩⟩, Bel.refl _ _ _, by rw [HK.out.2.2]; exact Nat.le_refl _⟩⟩
  case round =>
    obtain ⟨k, rfl, hk, HS⟩ := hrel
    by_cases hlt : k < n
    · obtain ⟨b, o, rfl, hc⟩ := (HD.out.kept HK.out.1).cells (by omega)
      have hcell : ∀ j u, (entC (f k))[j]? = some u → wr.cell? ⟨b, o + k * 9 + j, none⟩ = some u := fun j u hj => by
        have h := hc k hlt j u hj
        exact HS.out.2.bel.cell h (by rw [← HK.out.2.2]; exact World.block_lt_of_cell? _ _ h) (by simp)
      obtain ⟨⟨num, fr, cm, off, gen, hf, hg, str, idx⟩, hfk⟩ : ∃ e, f k = e := ⟨_, rfl⟩
      rw [hfk] at hcell
      have c0 : wr.cell? ⟨b, o + k * 9, none⟩ = some (.int .i64 num) := hcell 0 _ rfl
      have c1 : wr.cell? ⟨b, o + k * 9 + 1, none⟩ = some (.bool fr) := hcell 1 _ rfl
      have c2 : wr.cell? ⟨b, o + k * 9 + 2, none⟩ = some (.bool cm) := hcell 2 _ rfl
      have c3 : wr.cell? ⟨b, o + k * 9 + 3, none⟩ = some (.int .i64 off) := hcell 3 _ rfl
      have c4 : wr.cell? ⟨b, o + k * 9 + 4, none⟩ = some (.int .i64 gen) := hcell 4 _ rfl
      have c5 : wr.cell? ⟨b, o + k * 9 + 5, none⟩ = some (.bool hf) := hcell 5 _ rfl
      have c6 : wr.cell? ⟨b, o + k * 9 + 6, none⟩ = some (.bool hg) := hcell 6 _ rfl
      have c7 : wr.cell? ⟨b, o + k * 9 + 7, none⟩ = some (.int .i64 str) := hcell 7 _ rfl
      have c8 : wr.cell? ⟨b, o + k * 9 + 8, none⟩ = some (.int .i64 idx) := hcell 8 _ rfl
      have d0 : wr.cell? ⟨w.heap.size, 0, none⟩ = some (.int .i64 (w0 : Int)) := HS.out.2.bel.cell (cellsOf HK.out.2.1 0) (by simp) (by simp)
      have d1 : wr.cell? ⟨w.heap.size, 1, none⟩ = some (.int .i64 (w1 : Int)) := HS.out.2.bel.cell (cellsOf HK.out.2.1 1) (by simp) (by simp)
      have d2 : wr.cell? ⟨w.heap.size, 2, none⟩ = some (.int .i64 (w2 : Int)) := HS.out.2.bel.cell (cellsOf HK.out.2.1 2) (by simp) (by simp)
      have HF := Lib.hid hfk
      have hwl : w.heap.size < wr.heap.size := World.block_lt_of_cell? _ _ d0
      have hki : (k : Int) < (n : Int) := by omega
      clear hc hcell hfk
      have e0 : decide ((w0 : Int) < 0) = false := by simp
      have e1 : decide ((w1 : Int) < 1) = false := by have := HW.out; simp <;> omega
      have e2 : decide ((w2 : Int) < 0) = false := by simp
      have e3 : decide (2 < (w0 : Int)) = false := by have := HW.out; simp <;> omega
      have e4 : decide (6 < (w1 : Int)) = false := by have := HW.out; simp <;> omega
      have e5 : decide (3 < (w2 : Int)) = false := by have := HW.out; simp <;> omega
      have HKN := Lib.hid hlt
      have hkb : k < 500 := by have := HN.out; omega
      cases fr <;> cases cm
      · go_wp2_with fail
        go_quiet (fail)
        obtain ⟨V, hV⟩ : ∃ V, (wr.alloc (.cells #[.int .i64 num, .bool false, .bool false, .int .i64 off, .int .i64 gen, .bool hf, .bool hg, .int .i64 str, .int .i64 idx] 26)).drewN nq = V := ⟨_, rfl⟩
        rw [hV]
        have HV := Lib.hid (show Acc W V (w.heap.size + 1) _ (dataB w0 w1 w2 f k) by rw [← hV]; exact (HS.out.2.alloc _).drewN _)
        have v0 : V.cell? ⟨w.heap.size, 0, none⟩ = some (.int .i64 (w0 : Int)) := HV.out.bel.cell (cellsOf HK.out.2.1 0) (by simp) (by simp)
        have v1 : V.cell? ⟨w.heap.size, 1, none⟩ = some (.int .i64 (w1 : Int)) := HV.out.bel.cell (cellsOf HK.out.2.1 1) (by simp) (by simp)
        have v2 : V.cell? ⟨w.heap.size, 2, none⟩ = some (.int .i64 (w2 : Int)) := HV.out.bel.cell (cellsOf HK.out.2.1 2) (by simp) (by simp)
        have x1 : V.cell? ⟨wr.heap.size, 1, none⟩ = some (.bool false) := by rw [← hV]; simp [go_sem]
        have x2 : V.cell? ⟨wr.heap.size, 2, none⟩ = some (.bool false) := by rw [← hV]; simp [go_sem]
        clear hV c0 c1 c2 c3 c4 c5 c6 c7 c8 d0 d1 d2
        by_cases q1 : off < 0
        · have g1 : decide (off < 0) = true := by simpa using q1
          clear q1
          go_wp2_with fail
          all_goals
            go_ret2
            exact HNO.out _ (HV.out.bel)
        obtain ⟨A, rfl⟩ := Int.eq_ofNat_of_zero_le (show 0 ≤ off by omega)
        have g1 : decide ((A : Int) < 0) = false := by simp
        clear q1
        go_wp2_with fail
        clear e0 e1 e2 e3 e4 e5 g1
        by_cases q2 : A < 256 ^ w1
        rotate_left
        · have s1 := fun W => shrN A w1 (by have := HW.out; omega) W
          have g2 := shr_ne q2
          clear q2
          generalize A / 256 ^ w1 = X at s1 g2
          rw [s1]
          go_simp
          go_wp2_with fail
          all_goals
            go_ret2
            exact HNO.out _ (HV.out.bel)
        have s1 := fun W => shr0 A w1 (by have := HW.out; omega) q2 W
        by_cases q3 : gen < 0
        · have g3 : decide (gen < 0) = true := by simpa using q3
          clear q2 q3
          rw [s1]
          go_simp
          go_wp2_with fail
          all_goals
            go_ret2
            exact HNO.out _ (HV.out.bel)
        obtain ⟨Bb, rfl⟩ := Int.eq_ofNat_of_zero_le (show 0 ≤ gen by omega)
        have g3 : decide ((Bb : Int) < 0) = false := by simp
        clear q3
        rw [s1]
        go_simp
        go_wp2_with fail
        clear s1 g3
        by_cases q4 : Bb < 256 ^ w2
        rotate_left
        · have s2 := fun W => shrN Bb w2 (by have := HW.out; omega) W
          have g4 := shr_ne q4
          clear q2 q4
          generalize Bb / 256 ^ w2 = X at s2 g4
          rw [s2]
          go_simp
          go_wp2_with fail
          all_goals
            go_ret2
            exact HNO.out _ (HV.out.bel)
        have s2 := fun W => shr0 Bb w2 (by have := HW.out; omega) q4 W
        have HFF : Hid (Fits (f k) w0 w1 w2) := Lib.hid (by
          rw [HF.out]
          exact ⟨by simp, fun _ => rfl, by simp, Int.natCast_nonneg _, pow_lt q2, Int.natCast_nonneg _, pow_lt q4⟩)
        have HR : Hid (rowB w0 w1 w2 (f k) = fb 1 w0 ++ (fb A w1 ++ fb Bb w2)) := Lib.hid (by rw [HF.out]; rfl)
        have H8a := Lib.hid fun V => field8 1 w0 (by have := HW.out; omega) (by omega) V
        have H8b := Lib.hid fun V => field8 A w1 (by have := HW.out; omega) (lt_62 (by have := HW.out; omega) q2) V
        have H8c := Lib.hid fun V => field8 Bb w2 (by have := HW.out; omega) (lt_62 (by have := HW.out; omega) q4) V
        have HLEN := Lib.hid (show (dataB w0 w1 w2 f k).length ≤ 10000 by
          rw [dataB_length]
          have h5 : k * (w0 + w1 + w2) ≤ 500 * 11 := Nat.mul_le_mul (by have := HN.out; omega) (by have := HW.out; omega)
          omega)
        clear q2 q4
        rw [s2]
        go_simp
        go_wp2_with (go_at_call 8; refine (H8a.out _).mono ?_; rintro e V1 hF1; (have he := hF1.1); subst he; refine Hid.out ?_)
        refine Lib.hid ?_
        obtain ⟨a1, m1, C1, V2, hr1, hA2⟩ := HV.out.app hF1 (by have := HLEN.out; omega) (by have := HW.out; omega) 27
        have d3 : V2.cell? ⟨w.heap.size, 1, none⟩ = some (.int .i64 (w1 : Int)) := hA2.bel.cell (cellsOf HK.out.2.1 1) (by simp) (by simp)
        go_wp2_with (first | (at_builtin; refine Lib.wpList_append_run _ rfl _ _ 27 27 rfl _ _ rfl rfl _ _ hr1 ?_) | (go_at_call 8; refine (H8b.out _).mono ?_; rintro e V3 hF3; (have he := hF3.1); subst he; refine Hid.out ?_))
        refine Lib.hid ?_
        obtain ⟨a2, m2, C2, V4, hr2, hA4⟩ := hA2.app hF3 (by have := HLEN.out; have := HW.out; simp [fb_length]; omega) (by have := HW.out; omega) 27
        have d4 : V4.cell? ⟨w.heap.size, 2, none⟩ = some (.int .i64 (w2 : Int)) := hA4.bel.cell (cellsOf HK.out.2.1 2) (by simp) (by simp)
        go_wp2_with (first | (at_builtin; refine Lib.wpList_append_run _ rfl _ _ 27 27 rfl _ _ rfl rfl _ _ hr2 ?_) | (go_at_call 8; refine (H8c.out _).mono ?_; rintro e V5 hF5; (have he := hF5.1); subst he; refine Hid.out ?_))
        refine Lib.hid ?_
        obtain ⟨a3, m3, C3, V6, hr3, hA6⟩ := hA4.app hF5 (by have := HLEN.out; have := HW.out; simp [fb_length]; omega) (by have := HW.out; omega) 27
        have HA6 := Lib.hid hA6
        clear hA6 hA2 hA4 hF1 hF3 hF5 hr1 hr2
        go_wp2_with (at_builtin; refine Lib.wpList_append_run _ rfl _ _ 27 27 rfl _ _ rfl rfl _ _ hr3 ?_)
        go_roundw
        case rel =>
          refine ⟨k + 1, by go_num, by have := HKN.out; omega, Lib.hid ⟨fun i hi => ?_, ?_⟩⟩
          · rcases Nat.lt_or_ge i k with h | h
            · exact HS.out.1 i h
            · obtain rfl : i = k := by omega
              exact HFF.out
          · have h := HA6.out
            rw [List.append_assoc, List.append_assoc, ← HR.out, ← dataB_succ] at h
            exact h
        case measure => have := HKN.out; simp [intOf]; omega
      · go_wp2_with fail
        go_quiet (fail)
        obtain ⟨nq1, hnq⟩ : ∃ q, q = nq := ⟨_, rfl⟩
        subst hnq
        go_wp2_with fail
        go_quiet (fail)
        obtain ⟨V, hV⟩ : ∃ V, ((wr.alloc (.cells #[.int .i64 num, .bool false, .bool true, .int .i64 off, .int .i64 gen, .bool hf, .bool hg, .int .i64 str, .int .i64 idx] 26)).drewN nq1).drewN nq = V := ⟨_, rfl⟩
        rw [hV]
        have HV := Lib.hid (show Acc W V (w.heap.size + 1) _ (dataB w0 w1 w2 f k) by rw [← hV]; exact ((HS.out.2.alloc _).drewN _).drewN _)
        have v0 : V.cell? ⟨w.heap.size, 0, none⟩ = some (.int .i64 (w0 : Int)) := HV.out.bel.cell (cellsOf HK.out.2.1 0) (by simp) (by simp)
        have v1 : V.cell? ⟨w.heap.size, 1, none⟩ = some (.int .i64 (w1 : Int)) := HV.out.bel.cell (cellsOf HK.out.2.1 1) (by simp) (by simp)
        have v2 : V.cell? ⟨w.heap.size, 2, none⟩ = some (.int .i64 (w2 : Int)) := HV.out.bel.cell (cellsOf HK.out.2.1 2) (by simp) (by simp)
        have x1 : V.cell? ⟨wr.heap.size, 1, none⟩ = some (.bool false) := by rw [← hV]; simp [go_sem]
        have x2 : V.cell? ⟨wr.heap.size, 2, none⟩ = some (.bool true) := by rw [← hV]; simp [go_sem]
        clear hV c0 c1 c2 c3 c4 c5 c6 c7 c8 d0 d1 d2
        by_cases hy : w2 = 0
        · have ey : ((w2 : Int) == 0) = true := by simp [hy]
          clear hy
          go_wp2_with fail
          all_goals
            go_ret2
            exact HNO.out _ HV.out.bel
        have ey : ((w2 : Int) == 0) = false := by simp; omega
        have hyy := Lib.hid hy
        clear hy
        by_cases q1 : str < 0
        · have g1 : decide (str < 0) = true := by simpa using q1
          clear q1
          go_wp2_with fail
          all_goals
            go_ret2
            exact HNO.out _ (HV.out.bel)
        obtain ⟨A, rfl⟩ := Int.eq_ofNat_of_zero_le (show 0 ≤ str by omega)
        have g1 : decide ((A : Int) < 0) = false := by simp
        clear q1
        go_wp2_with fail
        clear e0 e1 e2 e3 e4 e5 g1
        by_cases q2 : A < 256 ^ w1
        rotate_left
        · have s1 := fun W => shrN A w1 (by have := HW.out; omega) W
          have g2 := shr_ne q2
          clear q2
          generalize A / 256 ^ w1 = X at s1 g2
          rw [s1]
          go_simp
          go_wp2_with fail
          all_goals
            go_ret2
            exact HNO.out _ (HV.out.bel)
        have s1 := fun W => shr0 A w1 (by have := HW.out; omega) q2 W
        by_cases q3 : idx < 0
        · have g3 : decide (idx < 0) = true := by simpa using q3
          clear q2 q3
          rw [s1]
          go_simp
          go_wp2_with fail
          all_goals
            go_ret2
            exact HNO.out _ (HV.out.bel)
        obtain ⟨Bb, rfl⟩ := Int.eq_ofNat_of_zero_le (show 0 ≤ idx by omega)
        have g3 : decide ((Bb : Int) < 0) = false := by simp
        clear q3
        rw [s1]
        go_simp
        go_wp2_with fail
        clear s1 g3
        by_cases q4 : Bb < 256 ^ w2
        rotate_left
        · have s2 := fun W => shrN Bb w2 (by have := HW.out; omega) W
          have g4 := shr_ne q4
          clear q2 q4
          generalize Bb / 256 ^ w2 = X at s2 g4
          rw [s2]
          go_simp
          go_wp2_with fail
          all_goals
            go_ret2
            exact HNO.out _ (HV.out.bel)
        have s2 := fun W => shr0 Bb w2 (by have := HW.out; omega) q4 W
        have HFF : Hid (Fits (f k) w0 w1 w2) := Lib.hid (by
          rw [HF.out]
          exact ⟨by simp, fun e => absurd e (by have := hzz.out; omega), fun _ => hyy.out, Int.natCast_nonneg _, pow_lt q2, Int.natCast_nonneg _, pow_lt q4⟩)
        have HR : Hid (rowB w0 w1 w2 (f k) = fb 2 w0 ++ (fb A w1 ++ fb Bb w2)) := Lib.hid (by rw [HF.out]; rfl)
        have H8a := Lib.hid fun V => field8 2 w0 (by have := HW.out; omega) (by omega) V
        have H8b := Lib.hid fun V => field8 A w1 (by have := HW.out; omega) (lt_62 (by have := HW.out; omega) q2) V
        have H8c := Lib.hid fun V => field8 Bb w2 (by have := HW.out; omega) (lt_62 (by have := HW.out; omega) q4) V
        have HLEN := Lib.hid (show (dataB w0 w1 w2 f k).length ≤ 10000 by
          rw [dataB_length]
          have h5 : k * (w0 + w1 + w2) ≤ 500 * 11 := Nat.mul_le_mul (by have := HN.out; omega) (by have := HW.out; omega)
          omega)
        clear q2 q4
        rw [s2]
        go_simp
        go_wp2_with (go_at_call 8; refine (H8a.out _).mono ?_; rintro e V1 hF1; (have he := hF1.1); subst he; refine Hid.out ?_)
        refine Lib.hid ?_
        obtain ⟨a1, m1, C1, V2, hr1, hA2⟩ := HV.out.app hF1 (by have := HLEN.out; omega) (by have := HW.out; omega) 27
        have d3 : V2.cell? ⟨w.heap.size, 1, none⟩ = some (.int .i64 (w1 : Int)) := hA2.bel.cell (cellsOf HK.out.2.1 1) (by simp) (by simp)
        go_wp2_with (first | (at_builtin; refine Lib.wpList_append_run _ rfl _ _ 27 27 rfl _ _ rfl rfl _ _ hr1 ?_) | (go_at_call 8; refine (H8b.out _).mono ?_; rintro e V3 hF3; (have he := hF3.1); subst he; refine Hid.out ?_))
        refine Lib.hid ?_
        obtain ⟨a2, m2, C2, V4, hr2, hA4⟩ := hA2.app hF3 (by have := HLEN.out; have := HW.out; simp [fb_length]; omega) (by have := HW.out; omega) 27
        have d4 : V4.cell? ⟨w.heap.size, 2, none⟩ = some (.int .i64 (w2 : Int)) := hA4.bel.cell (cellsOf HK.out.2.1 2) (by simp) (by simp)
        go_wp2_with (first | (at_builtin; refine Lib.wpList_append_run _ rfl _ _ 27 27 rfl _ _ rfl rfl _ _ hr2 ?_) | (go_at_call 8; refine (H8c.out _).mono ?_; rintro e V5 hF5; (have he := hF5.1); subst he; refine Hid.out ?_))
        refine Lib.hid ?_
        obtain ⟨a3, m3, C3, V6, hr3, hA6⟩ := hA4.app hF5 (by have := HLEN.out; have := HW.out; simp [fb_length]; omega) (by have := HW.out; omega) 27
        have HA6 := Lib.hid hA6
        clear hA6 hA2 hA4 hF1 hF3 hF5 hr1 hr2
        go_wp2_with (at_builtin; refine Lib.wpList_append_run _ rfl _ _ 27 27 rfl _ _ rfl rfl _ _ hr3 ?_)
        go_roundw
        case rel =>
          refine ⟨k + 1, by go_num, by have := HKN.out; omega, Lib.hid ⟨fun i hi => ?_, ?_⟩⟩
          · rcases Nat.lt_or_ge i k with h | h
            · exact HS.out.1 i h
            · obtain rfl : i = k := by omega
              exact HFF.out
          · have h := HA6.out
            rw [List.append_assoc, List.append_assoc, ← HR.out, ← dataB_succ] at h
            exact h
        case measure => have := HKN.out; simp [intOf]; omega
      · go_wp2_with fail
        go_quiet (fail)
        obtain ⟨V, hV⟩ : ∃ V, (wr.alloc (.cells #[.int .i64 num, .bool true, .bool false, .int .i64 off, .int .i64 gen, .bool hf, .bool hg, .int .i64 str, .int .i64 idx] 26)).drewN nq = V := ⟨_, rfl⟩
        rw [hV]
        have HV := Lib.hid (show Acc W V (w.heap.size + 1) _ (dataB w0 w1 w2 f k) by rw [← hV]; exact (HS.out.2.alloc _).drewN _)
        have v0 : V.cell? ⟨w.heap.size, 0, none⟩ = some (.int .i64 (w0 : Int)) := HV.out.bel.cell (cellsOf HK.out.2.1 0) (by simp) (by simp)
        have v1 : V.cell? ⟨w.heap.size, 1, none⟩ = some (.int .i64 (w1 : Int)) := HV.out.bel.cell (cellsOf HK.out.2.1 1) (by simp) (by simp)
        have v2 : V.cell? ⟨w.heap.size, 2, none⟩ = some (.int .i64 (w2 : Int)) := HV.out.bel.cell (cellsOf HK.out.2.1 2) (by simp) (by simp)
        have x1 : V.cell? ⟨wr.heap.size, 1, none⟩ = some (.bool true) := by rw [← hV]; simp [go_sem]
        have x2 : V.cell? ⟨wr.heap.size, 2, none⟩ = some (.bool false) := by rw [← hV]; simp [go_sem]
        clear hV c0 c1 c2 c3 c4 c5 c6 c7 c8 d0 d1 d2
        by_cases q1 : off < 0
        · have g1 : decide (off < 0) = true := by simpa using q1
          clear q1
          go_wp2_with fail
          all_goals
            go_ret2
            exact HNO.out _ (HV.out.bel)
        obtain ⟨A, rfl⟩ := Int.eq_ofNat_of_zero_le (show 0 ≤ off by omega)
        have g1 : decide ((A : Int) < 0) = false := by simp
        clear q1
        go_wp2_with fail
        clear e0 e1 e2 e3 e4 e5 g1
        by_cases q2 : A < 256 ^ w1
        rotate_left
        · have s1 := fun W => shrN A w1 (by have := HW.out; omega) W
          have g2 := shr_ne q2
          clear q2
          generalize A / 256 ^ w1 = X at s1 g2
          rw [s1]
          go_simp
          go_wp2_with fail
          all_goals
            go_ret2
            exact HNO.out _ (HV.out.bel)
        have s1 := fun W => shr0 A w1 (by have := HW.out; omega) q2 W
        by_cases q3 : gen < 0
        · have g3 : decide (gen < 0) = true := by simpa using q3
          clear q2 q3
          rw [s1]
          go_simp
          go_wp2_with fail
          all_goals
            go_ret2
            exact HNO.out _ (HV.out.bel)
        obtain ⟨Bb, rfl⟩ := Int.eq_ofNat_of_zero_le (show 0 ≤ gen by omega)
        have g3 : decide ((Bb : Int) < 0) = false := by simp
        clear q3
        rw [s1]
        go_simp
        go_wp2_with fail
        clear s1 g3
        by_cases q4 : Bb < 256 ^ w2
        rotate_left
        · have s2 := fun W => shrN Bb w2 (by have := HW.out; omega) W
          have g4 := shr_ne q4
          clear q2 q4
          generalize Bb / 256 ^ w2 = X at s2 g4
          rw [s2]
          go_simp
          go_wp2_with fail
          all_goals
            go_ret2
            exact HNO.out _ (HV.out.bel)
        have s2 := fun W => shr0 Bb w2 (by have := HW.out; omega) q4 W
        have HFF : Hid (Fits (f k) w0 w1 w2) := Lib.hid (by
          rw [HF.out]
          exact ⟨by simp, fun e => absurd e (by have := hzz.out; omega), by simp, Int.natCast_nonneg _, pow_lt q2, Int.natCast_nonneg _, pow_lt q4⟩)
        have HR : Hid (rowB w0 w1 w2 (f k) = fb 0 w0 ++ (fb A w1 ++ fb Bb w2)) := Lib.hid (by rw [HF.out]; rfl)
        have H8a := Lib.hid fun V => field8 0 w0 (by have := HW.out; omega) (by omega) V
        have H8b := Lib.hid fun V => field8 A w1 (by have := HW.out; omega) (lt_62 (by have := HW.out; omega) q2) V
        have H8c := Lib.hid fun V => field8 Bb w2 (by have := HW.out; omega) (lt_62 (by have := HW.out; omega) q4) V
        have HLEN := Lib.hid (show (dataB w0 w1 w2 f k).length ≤ 10000 by
          rw [dataB_length]
          have h5 : k * (w0 + w1 + w2) ≤ 500 * 11 := Nat.mul_le_mul (by have := HN.out; omega) (by have := HW.out; omega)
          omega)
        clear q2 q4
        rw [s2]
        go_simp
        go_wp2_with (go_at_call 8; refine (H8a.out _).mono ?_; rintro e V1 hF1; (have he := hF1.1); subst he; refine Hid.out ?_)
        refine Lib.hid ?_
        obtain ⟨a1, m1, C1, V2, hr1, hA2⟩ := HV.out.app hF1 (by have := HLEN.out; omega) (by have := HW.out; omega) 27
        have d3 : V2.cell? ⟨w.heap.size, 1, none⟩ = some (.int .i64 (w1 : Int)) := hA2.bel.cell (cellsOf HK.out.2.1 1) (by simp) (by simp)
        go_wp2_with (first | (at_builtin; refine Lib.wpList_append_run _ rfl _ _ 27 27 rfl _ _ rfl rfl _ _ hr1 ?_) | (go_at_call 8; refine (H8b.out _).mono ?_; rintro e V3 hF3; (have he := hF3.1); subst he; refine Hid.out ?_))
        refine Lib.hid ?_
        obtain ⟨a2, m2, C2, V4, hr2, hA4⟩ := hA2.app hF3 (by have := HLEN.out; have := HW.out; simp [fb_length]; omega) (by have := HW.out; omega) 27
        have d4 : V4.cell? ⟨w.heap.size, 2, none⟩ = some (.int .i64 (w2 : Int)) := hA4.bel.cell (cellsOf HK.out.2.1 2) (by simp) (by simp)
        go_wp2_with (first | (at_builtin; refine Lib.wpList_append_run _ rfl _ _ 27 27 rfl _ _ rfl rfl _ _ hr2 ?_) | (go_at_call 8; refine (H8c.out _).mono ?_; rintro e V5 hF5; (have he := hF5.1); subst he; refine Hid.out ?_))
        refine Lib.hid ?_
        obtain ⟨a3, m3, C3, V6, hr3, hA6⟩ := hA4.app hF5 (by have := HLEN.out; have := HW.out; simp [fb_length]; omega) (by have := HW.out; omega) 27
        have HA6 := Lib.hid hA6
        clear hA6 hA2 hA4 hF1 hF3 hF5 hr1 hr2
        go_wp2_with (at_builtin; refine Lib.wpList_append_run _ rfl _ _ 27 27 rfl _ _ rfl rfl _ _ hr3 ?_)
        go_roundw
        case rel =>
          refine ⟨k + 1, by go_num, by have := HKN.out; omega, Lib.hid ⟨fun i hi => ?_, ?_⟩⟩
          · rcases Nat.lt_or_ge i k with h | h
            · exact HS.out.1 i h
            · obtain rfl : i = k := by omega
              exact HFF.out
          · have h := HA6.out
            rw [List.append_assoc, List.append_assoc, ← HR.out, ← dataB_succ] at h
            exact h
        case measure => have := HKN.out; simp [intOf]; omega
      · go_wp2_with fail
        go_quiet (fail)
        obtain ⟨V, hV⟩ : ∃ V, (wr.alloc (.cells #[.int .i64 num, .bool true, .bool true, .int .i64 off, .int .i64 gen, .bool hf, .bool hg, .int .i64 str, .int .i64 idx] 26)).drewN nq = V := ⟨_, rfl⟩
        rw [hV]
        have HV := Lib.hid (show Acc W V (w.heap.size + 1) _ (dataB w0 w1 w2 f k) by rw [← hV]; exact (HS.out.2.alloc _).drewN _)
        have v0 : V.cell? ⟨w.heap.size, 0, none⟩ = some (.int .i64 (w0 : Int)) := HV.out.bel.cell (cellsOf HK.out.2.1 0) (by simp) (by simp)
        have v1 : V.cell? ⟨w.heap.size, 1, none⟩ = some (.int .i64 (w1 : Int)) := HV.out.bel.cell (cellsOf HK.out.2.1 1) (by simp) (by simp)
        have v2 : V.cell? ⟨w.heap.size, 2, none⟩ = some (.int .i64 (w2 : Int)) := HV.out.bel.cell (cellsOf HK.out.2.1 2) (by simp) (by simp)
        have x1 : V.cell? ⟨wr.heap.size, 1, none⟩ = some (.bool true) := by rw [← hV]; simp [go_sem]
        have x2 : V.cell? ⟨wr.heap.size, 2, none⟩ = some (.bool true) := by rw [← hV]; simp [go_sem]
        clear hV c0 c1 c2 c3 c4 c5 c6 c7 c8 d0 d1 d2
        go_wp2_with fail
        all_goals
          go_ret2
          exact HNO.out _ HV.out.bel
    · obtain rfl : k = n := by omega
      go_wp2_with fail
      go_ret2
      refine ⟨_, _, rfl, (HK.out.1.below (Nat.le_refl _) (by simp)).trans (HS.out.2.bel.below' (by omega)), fun _ => ⟨HS.out.1, own_mono HS.out.2.own (by omega)⟩⟩

theorem rows4 (v : Value) (n : Nat) (f : Nat → Ent) (w0 w1 w2 : Nat) (w : World) (hD : EntsV w v n f) (hn : n ≤ 500) (h0 : w0 ≤ 2) (h1 : 1 ≤ w1) (h1' : w1 ≤ 6) (h2 : w2 ≤ 3) :
    Calls Tryd.prog 4 #[v, .agg #[.int .i64 (w0 : Int), .int .i64 (w1 : Int), .int .i64 (w2 : Int)]] w fun e w' => RowsE w w0 w1 w2 n f e w' := by
  rcases Nat.eq_zero_or_pos w0 with hz | hz
  · exact rows4z v n f w0 w1 w2 w hD hz hn h0 h1 h1' h2
  · exact rows4p v n f w0 w1 w2 w hD hz hn h0 h1 h1' h2
end Go.Proofs.YtmkacgffdoifbaaDoor.se
