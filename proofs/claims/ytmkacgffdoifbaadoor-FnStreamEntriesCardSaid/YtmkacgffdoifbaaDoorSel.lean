/-
  laws.FnStreamEntries: the walk.
-/
import Derived.Test.YtmkacgffdoifbaaDoorTwo
import Derived.Test.YtmkacgffdoifbaaDoorRof
import Derived.StillTailTactics
namespace Go.Proofs.YtmkacgffdoifbaaDoor.se
open Go.RowKit Go.MapKept Go.ChangeMaps
set_option linter.unusedVariables false
set_option linter.unusedSimpArgs false

structure NumS (W wr : World) (B : Nat) (f : Nat → Ent) (k : Nat) (v5 v6 : Value) : Prop where
  two : Two W wr B (nums f k) (streams f k) v5 v6
  ris : ∀ i, i + 1 < k → (f i).num < (f (i + 1)).num
theorem rising {f : Nat → Ent} {n : Nat} (h : ∀ i, i + 1 < n → (f i).num < (f (i + 1)).num) : ∀ i j, i < j → j < n → (f i).num < (f j).num := by
  intro i j hij hj
  induction j with
  | zero => omega
  | succ j ih =>
    have h1 := h j hj
    rcases Nat.lt_or_ge i j with h2 | h2
    · have := ih h2 (by omega)
      omega
    · obtain rfl : i = j := by omega
      exact h1
theorem mem_getD {A B : List Int} (h : ∀ x ∈ A, x ∈ B) : ∀ i, i < A.length → ∃ j, j < B.length ∧ B.getD j 0 = A.getD i 0 := fun i hi => by
  have h1 : A.getD i 0 ∈ A := by rw [List.getD_eq_getElem?_getD, List.getElem?_eq_getElem hi]; exact List.getElem_mem hi
  obtain ⟨j, hj, e⟩ := List.mem_iff_getElem.1 (h _ h1)
  exact ⟨j, hj, by rw [List.getD_eq_getElem?_getD, List.getElem?_eq_getElem hj]; exact e⟩
theorem streams_le (f : Nat → Ent) (k : Nat) : (streams f k).length ≤ k := streams_length f k

set_option maxHeartbeats 40000000 in
set_option maxRecDepth 100000 in
theorem law3 (v : Value) (n : Nat) (f : Nat → Ent) (a b c : Int) (w : World) (hD : EntsV w v n f) :
    Calls Tryd.prog 3 #[v, .agg #[.int .i64 a, .int .i64 b, .int .i64 c]] w fun e w' => e = .returned (.bool true) ∧ Below w.heap.size w w' := by
  obtain ⟨av, C, rfl⟩ := hD.slice
  obtain ⟨W, hW⟩ : ∃ W, w.alloc (.cells #[.int .i64 a, .int .i64 b, .int .i64 c] 23) = W := ⟨_, rfl⟩
  have kW : Kept [] w W := by rw [← hW]; exact (Kept.refl _ _).alloc _
  have hbox : W.heap[w.heap.size]? = some (.cells #[.int .i64 a, .int .i64 b, .int .i64 c] 23 (0, 0)) := by rw [← hW]; exact heap_alloc_new w _
  have hsW : W.heap.size = w.heap.size + 1 := by rw [← hW]; simp
  have HK := Lib.hid (And.intro kW (And.intro hbox hsW))
  have HD := Lib.hid (hD.kept kW)
  have HEX : Hid (∀ V, Bel (w.heap.size + 1) [] W V → Below w.heap.size w V) := Lib.hid fun V h => (kW.below (Nat.le_refl _) (by simp)).trans (h.below' (by omega))
  have b0 : W.cell? ⟨w.heap.size, 0, none⟩ = some (.int .i64 a) := cellsOf hbox 0
  have b1 : W.cell? ⟨w.heap.size, 1, none⟩ = some (.int .i64 b) := cellsOf hbox 1
  have b2 : W.cell? ⟨w.heap.size, 2, none⟩ = some (.int .i64 c) := cellsOf hbox 2
  clear hD kW hbox hsW
  by_cases hbig : 2147483647 < n
  · have h1 : (2147483647 : Int) < (n : Int) := by omega
    go_enter Tryd.func3, Tryd.ntmps3
    go_wp2_with fail
    go_ret
    exact ⟨rfl, HEX.out _ (Bel.refl _ _ _)⟩
  have hb1 : ¬ (2147483647 : Int) < (n : Int) := by omega
  clear hbig
  by_cases q0 : 500 < (n : Int)
  · go_enter Tryd.func3, Tryd.ntmps3
    go_wp2_with fail
    go_ret
    exact ⟨rfl, HEX.out _ (Bel.refl _ _ _)⟩
  by_cases q1 : a < 0
  · go_enter Tryd.func3, Tryd.ntmps3
    go_wp2_with fail
    go_ret
    exact ⟨rfl, HEX.out _ (Bel.refl _ _ _)⟩
  by_cases q2 : 2 < a
  · go_enter Tryd.func3, Tryd.ntmps3
    go_wp2_with fail
    go_ret
    exact ⟨rfl, HEX.out _ (Bel.refl _ _ _)⟩
  by_cases q3 : b < 1
  · go_enter Tryd.func3, Tryd.ntmps3
    go_wp2_with fail
    go_ret
    exact ⟨rfl, HEX.out _ (Bel.refl _ _ _)⟩
  by_cases q4 : 6 < b
  · go_enter Tryd.func3, Tryd.ntmps3
    go_wp2_with fail
    go_ret
    exact ⟨rfl, HEX.out _ (Bel.refl _ _ _)⟩
  by_cases q5 : c < 0
  · go_enter Tryd.func3, Tryd.ntmps3
    go_wp2_with fail
    go_ret
    exact ⟨rfl, HEX.out _ (Bel.refl _ _ _)⟩
  by_cases q6 : 3 < c
  · go_enter Tryd.func3, Tryd.ntmps3
    go_wp2_with fail
    go_ret
    exact ⟨rfl, HEX.out _ (Bel.refl _ _ _)⟩
  obtain ⟨w0, rfl⟩ : ∃ t : Nat, a = (t : Int) := ⟨a.toNat, by omega⟩
  obtain ⟨w1, rfl⟩ : ∃ t : Nat, b = (t : Int) := ⟨b.toNat, by omega⟩
  obtain ⟨w2, rfl⟩ : ∃ t : Nat, c = (t : Int) := ⟨c.toNat, by omega⟩
  have HQ : Hid (n ≤ 500 ∧ w0 ≤ 2 ∧ 1 ≤ w1 ∧ w1 ≤ 6 ∧ w2 ≤ 3) := Lib.hid (by omega)
  go_enter Tryd.func3, Tryd.ntmps3
  go_wp2_with fail
  clear q0 q1 q2 q3 q4 q5 q6 hb1 hW
  go_loopw [5, 6, 53] (fun v5 v6 i wr => ∃ k : Nat, i = .int .i64 (k : Int) ∧ k ≤ n ∧ Hid (NumS W wr (w.heap.size + 1) f k v5 v6)) (fun _ _ i _ => n - (intOf i).toNat)
  case atStart => exact ⟨0, rfl, by omega, Lib.hid ⟨⟨⟨rfl, .inl ⟨rfl, rfl⟩⟩, ⟨rfl, .inl ⟨rfl, rfl⟩⟩, fun g h => (by cases h), Bel.refl _ _ _, by rw [HK.out.2.2]; exact Nat.le_refl _⟩, fun i hi => by omega⟩⟩
  case round =>
    obtain ⟨k, rfl, hk, HS⟩ := hrel
    obtain ⟨a5, C5, e5⟩ := own_slice HS.out.two.own5
    obtain ⟨a6, C6, e6⟩ := own_slice HS.out.two.own6
    rw [nums_length] at e5
    subst e5
    subst e6
    by_cases hlt : k < n
    · obtain ⟨bb, o, rfl, hc⟩ := (HD.out.kept ⟨HS.out.two.bel.os, HS.out.two.bel.tape, HS.out.two.bel.output, HS.out.two.bel.size, fun k hk hn => HS.out.two.bel.block k (by have := HK.out.2.2; omega) hn⟩).cells (by omega)
      have hcell := hc k hlt
      obtain ⟨⟨num, fr, cm, off, gen, hf, hg, str, idx⟩, hfk⟩ : ∃ e, f k = e := ⟨_, rfl⟩
      rw [hfk] at hcell
      have c0 : wr.cell? ⟨bb, o + k * 9, none⟩ = some (.int .i64 num) := hcell 0 _ rfl
      have c1 : wr.cell? ⟨bb, o + k * 9 + 1, none⟩ = some (.bool fr) := hcell 1 _ rfl
      have c2 : wr.cell? ⟨bb, o + k * 9 + 2, none⟩ = some (.bool cm) := hcell 2 _ rfl
      have c3 : wr.cell? ⟨bb, o + k * 9 + 3, none⟩ = some (.int .i64 off) := hcell 3 _ rfl
      have c4 : wr.cell? ⟨bb, o + k * 9 + 4, none⟩ = some (.int .i64 gen) := hcell 4 _ rfl
      have c5 : wr.cell? ⟨bb, o + k * 9 + 5, none⟩ = some (.bool hf) := hcell 5 _ rfl
      have c6 : wr.cell? ⟨bb, o + k * 9 + 6, none⟩ = some (.bool hg) := hcell 6 _ rfl
      have c7 : wr.cell? ⟨bb, o + k * 9 + 7, none⟩ = some (.int .i64 str) := hcell 7 _ rfl
      have c8 : wr.cell? ⟨bb, o + k * 9 + 8, none⟩ = some (.int .i64 idx) := hcell 8 _ rfl
      have HF := Lib.hid hfk
      have hki : (k : Int) < (n : Int) := by omega
      have HCP := Lib.hid hc
      obtain ⟨E, hE⟩ : ∃ E, wr.alloc (.cells #[.int .i64 num, .bool fr, .bool cm, .int .i64 off, .int .i64 gen, .bool hf, .bool hg, .int .i64 str, .int .i64 idx] 26) = E := ⟨_, rfl⟩
      have HEk : Hid (Kept [] wr E ∧ E.heap[wr.heap.size]? = some (.cells #[.int .i64 num, .bool fr, .bool cm, .int .i64 off, .int .i64 gen, .bool hf, .bool hg, .int .i64 str, .int .i64 idx] 26 (0, 0))) := Lib.hid (by rw [← hE]; exact ⟨(Kept.refl _ _).alloc _, heap_alloc_new wr _⟩)
      have d0 : E.cell? ⟨wr.heap.size, 0, none⟩ = some (.int .i64 num) := cellsOf HEk.out.2 0
      have d1 : E.cell? ⟨wr.heap.size, 1, none⟩ = some (.bool fr) := cellsOf HEk.out.2 1
      have d2 : E.cell? ⟨wr.heap.size, 2, none⟩ = some (.bool cm) := cellsOf HEk.out.2 2
      have d3 : E.cell? ⟨wr.heap.size, 3, none⟩ = some (.int .i64 off) := cellsOf HEk.out.2 3
      have d7 : E.cell? ⟨wr.heap.size, 7, none⟩ = some (.int .i64 str) := cellsOf HEk.out.2 7
      have HBE : Hid (∀ V, Kept [] E V → Bel (w.heap.size + 1) [] W V) := Lib.hid fun V h => (HS.out.two.bel.trans (Bel.of_kept HEk.out.1 HS.out.two.size)).trans (Bel.of_kept h (Nat.le_trans HS.out.two.size HEk.out.1.size))
      have HLT := Lib.hid hlt
      clear hc hcell hfk
      go_wp2_with fail
      try rw [hE]
      clear hE c0 c1 c2 c3 c4 c5 c6 c7 c8
      by_cases q1 : num < 1
      · have g1 : decide (num < 1) = true := by simpa using q1
        clear q1
        go_quiet (fail)
        go_wp2_with fail
        go_ret
        exact ⟨rfl, HEX.out _ (HBE.out _ ((Kept.refl _ _).drewN _))⟩
      have g1 : decide (num < 1) = false := by simpa using q1
      clear q1
      by_cases q2 : 65536 < num
      · have g2 : decide (65536 < num) = true := by simpa using q2
        clear q2
        go_quiet (fail)
        go_wp2_with fail
        go_ret
        exact ⟨rfl, HEX.out _ (HBE.out _ ((Kept.refl _ _).drewN _))⟩
      have g2 : decide (65536 < num) = false := by simpa using q2
      clear q2
      rcases Nat.eq_zero_or_pos k with hk0 | hk0
      · have g3 : decide ((0 : Int) < (k : Int)) = false := by simp; omega
        have g3b : decide (0 < k) = false := by simp; omega
        have HRI : Hid (∀ i, i + 1 < k + 1 → (f i).num < (f (i + 1)).num) := Lib.hid fun i hi => by omega
        clear hk0
        cases cm
        · cases fr
          · by_cases q6 : off = 0
            · have g6 : (off == 0) = true := by simpa using q6
              clear q6
              go_quiet (fail)
              go_wp2_with fail
              go_ret
              exact ⟨rfl, HEX.out _ (HBE.out _ ((Kept.refl _ _).drewN _))⟩
            have g6 : (off == 0) = false := by simpa using q6
            clear q6
            go_quiet (fail)
            obtain ⟨V, hV⟩ : ∃ V, E.drewN nq = V := ⟨_, rfl⟩
            rw [hV]
            have kV : Kept [] E V := by rw [← hV]; exact (Kept.refl _ _).drewN _
            have v0 := kV.cell d0 (by simp)
            have v2 := kV.cell d2 (by simp)
            have v7 := kV.cell d7 (by simp)
            have HT := Lib.hid (HS.out.two.kept (HEk.out.1.trans kV))
            have HVE := Lib.hid ((kV.block _ (Array.getElem?_eq_some_iff.1 HEk.out.2).1 (by simp)).trans HEk.out.2)
            clear hV kV d0 d1 d2 d3 d7
            go_wp2_with (at_builtin; refine (HT.out.app num (by rw [nums_length]; have := HQ.out; omega) _ (by simp)).elim fun a1 h1 => h1.elim fun C1 h2 => h2.elim fun N1 h3 => h3.elim fun D h => Lib.wpList_append_run _ rfl _ _ 24 24 rfl _ _ rfl rfl _ _ h.1 ?_; refine Hid.out ?_)
            refine Lib.hid ?_
            have HT2 := Lib.hid h.2.1
            have hE2 := (h.2.2 _ (Array.getElem?_eq_some_iff.1 HVE.out).1 (own_not HT.out.own5 HVE.out (by decide))).trans HVE.out
            have y2 : D.cell? ⟨wr.heap.size, 2, none⟩ = some (.bool false) := cellsOf hE2 2
            have y7 : D.cell? ⟨wr.heap.size, 7, none⟩ = some (.int .i64 str) := cellsOf hE2 7
            clear h h1 h2 h3 hE2 v0 v2 v7
            have hlt2 := HLT.out
            have hq5 : n ≤ 500 := HQ.out.1
            go_wp2_with fail
            go_roundw
            case rel =>
              refine ⟨k + 1, by go_num, by have := HLT.out; omega, Lib.hid ⟨?_, HRI.out⟩⟩
              rw [nums_succ, streams_succ, HF.out]
              exact HT2.out
            case measure => have := HLT.out; simp [intOf]; omega
          · go_quiet (fail)
            obtain ⟨V, hV⟩ : ∃ V, E.drewN nq = V := ⟨_, rfl⟩
            rw [hV]
            have kV : Kept [] E V := by rw [← hV]; exact (Kept.refl _ _).drewN _
            have v0 := kV.cell d0 (by simp)
            have v2 := kV.cell d2 (by simp)
            have v7 := kV.cell d7 (by simp)
            have HT := Lib.hid (HS.out.two.kept (HEk.out.1.trans kV))
            have HVE := Lib.hid ((kV.block _ (Array.getElem?_eq_some_iff.1 HEk.out.2).1 (by simp)).trans HEk.out.2)
            clear hV kV d0 d1 d2 d3 d7
            go_wp2_with (at_builtin; refine (HT.out.app num (by rw [nums_length]; have := HQ.out; omega) _ (by simp)).elim fun a1 h1 => h1.elim fun C1 h2 => h2.elim fun N1 h3 => h3.elim fun D h => Lib.wpList_append_run _ rfl _ _ 24 24 rfl _ _ rfl rfl _ _ h.1 ?_; refine Hid.out ?_)
            refine Lib.hid ?_
            have HT2 := Lib.hid h.2.1
            have hE2 := (h.2.2 _ (Array.getElem?_eq_some_iff.1 HVE.out).1 (own_not HT.out.own5 HVE.out (by decide))).trans HVE.out
            have y2 : D.cell? ⟨wr.heap.size, 2, none⟩ = some (.bool false) := cellsOf hE2 2
            have y7 : D.cell? ⟨wr.heap.size, 7, none⟩ = some (.int .i64 str) := cellsOf hE2 7
            clear h h1 h2 h3 hE2 v0 v2 v7
            have hlt2 := HLT.out
            have hq5 : n ≤ 500 := HQ.out.1
            go_wp2_with fail
            go_roundw
            case rel =>
              refine ⟨k + 1, by go_num, by have := HLT.out; omega, Lib.hid ⟨?_, HRI.out⟩⟩
              rw [nums_succ, streams_succ, HF.out]
              exact HT2.out
            case measure => have := HLT.out; simp [intOf]; omega
        · by_cases q4 : str < 1
          · have g5 : decide (str < 1) = true := by simpa using q4
            clear q4
            go_quiet (fail)
            go_wp2_with fail
            go_ret
            exact ⟨rfl, HEX.out _ (HBE.out _ ((Kept.refl _ _).drewN _))⟩
          have g5 : decide (str < 1) = false := by simpa using q4
          clear q4
          by_cases q5 : 65536 < str
          · have g6 : decide (65536 < str) = true := by simpa using q5
            clear q5
            go_quiet (fail)
            go_wp2_with fail
            go_ret
            exact ⟨rfl, HEX.out _ (HBE.out _ ((Kept.refl _ _).drewN _))⟩
          have g6 : decide (65536 < str) = false := by simpa using q5
          clear q5
          go_quiet (fail)
          obtain ⟨V, hV⟩ : ∃ V, E.drewN nq = V := ⟨_, rfl⟩
          rw [hV]
          have kV : Kept [] E V := by rw [← hV]; exact (Kept.refl _ _).drewN _
          have v0 := kV.cell d0 (by simp)
          have v2 := kV.cell d2 (by simp)
          have v7 := kV.cell d7 (by simp)
          have HT := Lib.hid (HS.out.two.kept (HEk.out.1.trans kV))
          have HVE := Lib.hid ((kV.block _ (Array.getElem?_eq_some_iff.1 HEk.out.2).1 (by simp)).trans HEk.out.2)
          clear hV kV d0 d1 d2 d3 d7
          go_wp2_with (at_builtin; refine (HT.out.app num (by rw [nums_length]; have := HQ.out; omega) _ (by simp)).elim fun a1 h1 => h1.elim fun C1 h2 => h2.elim fun N1 h3 => h3.elim fun D h => Lib.wpList_append_run _ rfl _ _ 24 24 rfl _ _ rfl rfl _ _ h.1 ?_; refine Hid.out ?_)
          refine Lib.hid ?_
          have HT2 := Lib.hid h.2.1
          have hE2 := (h.2.2 _ (Array.getElem?_eq_some_iff.1 HVE.out).1 (own_not HT.out.own5 HVE.out (by decide))).trans HVE.out
          have y2 : D.cell? ⟨wr.heap.size, 2, none⟩ = some (.bool true) := cellsOf hE2 2
          have y7 : D.cell? ⟨wr.heap.size, 7, none⟩ = some (.int .i64 str) := cellsOf hE2 7
          clear h h1 h2 h3 hE2 v0 v2 v7
          go_wp2_with (at_builtin; refine (HT2.out.swap.app str (by have := streams_le f k; have := HQ.out; omega) _ (by simp)).elim fun a2 h1 => h1.elim fun C2 h2 => h2.elim fun N2 h3 => h3.elim fun D2 h => Lib.wpList_append_run _ rfl _ _ 24 24 rfl _ _ rfl rfl _ _ h.1 ?_; refine Hid.out ?_)
          refine Lib.hid ?_
          have HT3 := Lib.hid h.2.1.swap
          clear h h1 h2 h3 y2 y7
          have hlt2 := HLT.out
          have hq5 : n ≤ 500 := HQ.out.1
          go_wp2_with fail
          go_roundw
          case rel =>
            refine ⟨k + 1, by go_num, by have := HLT.out; omega, Lib.hid ⟨?_, HRI.out⟩⟩
            rw [nums_succ, streams_succ, HF.out]
            exact HT3.out
          case measure => have := HLT.out; simp [intOf]; omega
      · have g3 : (0 : Int) < (k : Int) := by omega
        have i1 : IntKind.i64.wrap ((k : Int) - 1) = (k : Int) - 1 := IntWalk.i64_in _ (by have := HQ.out; omega)
        have i2 : (0 : Int) ≤ (k : Int) - 1 := by omega
        have i3 : (k : Int) - 1 < (n : Int) := by omega
        have i4 : ((k : Int) - 1).toNat = k - 1 := by omega
        have p0 : E.cell? ⟨bb, o + (k - 1) * 9, none⟩ = some (.int .i64 (f (k - 1)).num) := HEk.out.1.cell (HCP.out (k - 1) (by omega) 0 _ rfl) (by simp)
        obtain ⟨pn, hpn⟩ : ∃ pn, (f (k - 1)).num = pn := ⟨_, rfl⟩
        rw [hpn] at p0
        have HPN := Lib.hid hpn
        clear hpn
        by_cases q3 : num ≤ pn
        · have g4 : decide (num ≤ pn) = true := by simpa using q3
          clear q3
          go_quiet (fail)
          go_wp2_with fail
          go_ret
          exact ⟨rfl, HEX.out _ (HBE.out _ ((Kept.refl _ _).drewN _))⟩
        have g4 : decide (num ≤ pn) = false := by simpa using q3
        have HRI : Hid (∀ i, i + 1 < k + 1 → (f i).num < (f (i + 1)).num) := Lib.hid fun i hi => by
          rcases Nat.lt_or_ge (i + 1) k with h | h
          · exact HS.out.ris i h
          · have e : k = i + 1 := by omega
            subst e
            rw [HF.out]
            have h2 := HPN.out
            simp at h2
            rw [h2]
            show pn < num
            omega
        clear q3
        cases cm
        · cases fr
          · by_cases q6 : off = 0
            · have g6 : (off == 0) = true := by simpa using q6
              clear q6
              go_quiet (fail)
              go_wp2_with fail
              go_ret
              exact ⟨rfl, HEX.out _ (HBE.out _ ((Kept.refl _ _).drewN _))⟩
            have g6 : (off == 0) = false := by simpa using q6
            clear q6
            go_quiet (fail)
            obtain ⟨V, hV⟩ : ∃ V, E.drewN nq = V := ⟨_, rfl⟩
            rw [hV]
            have kV : Kept [] E V := by rw [← hV]; exact (Kept.refl _ _).drewN _
            have v0 := kV.cell d0 (by simp)
            have v2 := kV.cell d2 (by simp)
            have v7 := kV.cell d7 (by simp)
            have HT := Lib.hid (HS.out.two.kept (HEk.out.1.trans kV))
            have HVE := Lib.hid ((kV.block _ (Array.getElem?_eq_some_iff.1 HEk.out.2).1 (by simp)).trans HEk.out.2)
            clear hV kV d0 d1 d2 d3 d7
            go_wp2_with (at_builtin; refine (HT.out.app num (by rw [nums_length]; have := HQ.out; omega) _ (by simp)).elim fun a1 h1 => h1.elim fun C1 h2 => h2.elim fun N1 h3 => h3.elim fun D h => Lib.wpList_append_run _ rfl _ _ 24 24 rfl _ _ rfl rfl _ _ h.1 ?_; refine Hid.out ?_)
            refine Lib.hid ?_
            have HT2 := Lib.hid h.2.1
            have hE2 := (h.2.2 _ (Array.getElem?_eq_some_iff.1 HVE.out).1 (own_not HT.out.own5 HVE.out (by decide))).trans HVE.out
            have y2 : D.cell? ⟨wr.heap.size, 2, none⟩ = some (.bool false) := cellsOf hE2 2
            have y7 : D.cell? ⟨wr.heap.size, 7, none⟩ = some (.int .i64 str) := cellsOf hE2 7
            clear h h1 h2 h3 hE2 v0 v2 v7
            have hlt2 := HLT.out
            have hq5 : n ≤ 500 := HQ.out.1
            go_wp2_with fail
            go_roundw
            case rel =>
              refine ⟨k + 1, by go_num, by have := HLT.out; omega, Lib.hid ⟨?_, HRI.out⟩⟩
              rw [nums_succ, streams_succ, HF.out]
              exact HT2.out
            case measure => have := HLT.out; simp [intOf]; omega
          · go_quiet (fail)
            obtain ⟨V, hV⟩ : ∃ V, E.drewN nq = V := ⟨_, rfl⟩
            rw [hV]
            have kV : Kept [] E V := by rw [← hV]; exact (Kept.refl _ _).drewN _
            have v0 := kV.cell d0 (by simp)
            have v2 := kV.cell d2 (by simp)
            have v7 := kV.cell d7 (by simp)
            have HT := Lib.hid (HS.out.two.kept (HEk.out.1.trans kV))
            have HVE := Lib.hid ((kV.block _ (Array.getElem?_eq_some_iff.1 HEk.out.2).1 (by simp)).trans HEk.out.2)
            clear hV kV d0 d1 d2 d3 d7
            go_wp2_with (at_builtin; refine (HT.out.app num (by rw [nums_length]; have := HQ.out; omega) _ (by simp)).elim fun a1 h1 => h1.elim fun C1 h2 => h2.elim fun N1 h3 => h3.elim fun D h => Lib.wpList_append_run _ rfl _ _ 24 24 rfl _ _ rfl rfl _ _ h.1 ?_; refine Hid.out ?_)
            refine Lib.hid ?_
            have HT2 := Lib.hid h.2.1
            have hE2 := (h.2.2 _ (Array.getElem?_eq_some_iff.1 HVE.out).1 (own_not HT.out.own5 HVE.out (by decide))).trans HVE.out
            have y2 : D.cell? ⟨wr.heap.size, 2, none⟩ = some (.bool false) := cellsOf hE2 2
            have y7 : D.cell? ⟨wr.heap.size, 7, none⟩ = some (.int .i64 str) := cellsOf hE2 7
            clear h h1 h2 h3 hE2 v0 v2 v7
            have hlt2 := HLT.out
            have hq5 : n ≤ 500 := HQ.out.1
            go_wp2_with fail
            go_roundw
            case rel =>
              refine ⟨k + 1, by go_num, by have := HLT.out; omega, Lib.hid ⟨?_, HRI.out⟩⟩
              rw [nums_succ, streams_succ, HF.out]
              exact HT2.out
            case measure => have := HLT.out; simp [intOf]; omega
        · by_cases q4 : str < 1
          · have g5 : decide (str < 1) = true := by simpa using q4
            clear q4
            go_quiet (fail)
            go_wp2_with fail
            go_ret
            exact ⟨rfl, HEX.out _ (HBE.out _ ((Kept.refl _ _).drewN _))⟩
          have g5 : decide (str < 1) = false := by simpa using q4
          clear q4
          by_cases q5 : 65536 < str
          · have g6 : decide (65536 < str) = true := by simpa using q5
            clear q5
            go_quiet (fail)
            go_wp2_with fail
            go_ret
            exact ⟨rfl, HEX.out _ (HBE.out _ ((Kept.refl _ _).drewN _))⟩
          have g6 : decide (65536 < str) = false := by simpa using q5
          clear q5
          go_quiet (fail)
          obtain ⟨V, hV⟩ : ∃ V, E.drewN nq = V := ⟨_, rfl⟩
          rw [hV]
          have kV : Kept [] E V := by rw [← hV]; exact (Kept.refl _ _).drewN _
          have v0 := kV.cell d0 (by simp)
          have v2 := kV.cell d2 (by simp)
          have v7 := kV.cell d7 (by simp)
          have HT := Lib.hid (HS.out.two.kept (HEk.out.1.trans kV))
          have HVE := Lib.hid ((kV.block _ (Array.getElem?_eq_some_iff.1 HEk.out.2).1 (by simp)).trans HEk.out.2)
          clear hV kV d0 d1 d2 d3 d7
          go_wp2_with (at_builtin; refine (HT.out.app num (by rw [nums_length]; have := HQ.out; omega) _ (by simp)).elim fun a1 h1 => h1.elim fun C1 h2 => h2.elim fun N1 h3 => h3.elim fun D h => Lib.wpList_append_run _ rfl _ _ 24 24 rfl _ _ rfl rfl _ _ h.1 ?_; refine Hid.out ?_)
          refine Lib.hid ?_
          have HT2 := Lib.hid h.2.1
          have hE2 := (h.2.2 _ (Array.getElem?_eq_some_iff.1 HVE.out).1 (own_not HT.out.own5 HVE.out (by decide))).trans HVE.out
          have y2 : D.cell? ⟨wr.heap.size, 2, none⟩ = some (.bool true) := cellsOf hE2 2
          have y7 : D.cell? ⟨wr.heap.size, 7, none⟩ = some (.int .i64 str) := cellsOf hE2 7
          clear h h1 h2 h3 hE2 v0 v2 v7
          go_wp2_with (at_builtin; refine (HT2.out.swap.app str (by have := streams_le f k; have := HQ.out; omega) _ (by simp)).elim fun a2 h1 => h1.elim fun C2 h2 => h2.elim fun N2 h3 => h3.elim fun D2 h => Lib.wpList_append_run _ rfl _ _ 24 24 rfl _ _ rfl rfl _ _ h.1 ?_; refine Hid.out ?_)
          refine Lib.hid ?_
          have HT3 := Lib.hid h.2.1.swap
          clear h h1 h2 h3 y2 y7
          have hlt2 := HLT.out
          have hq5 : n ≤ 500 := HQ.out.1
          go_wp2_with fail
          go_roundw
          case rel =>
            refine ⟨k + 1, by go_num, by have := HLT.out; omega, Lib.hid ⟨?_, HRI.out⟩⟩
            rw [nums_succ, streams_succ, HF.out]
            exact HT3.out
          case measure => have := HLT.out; simp [intOf]; omega
    · obtain rfl : k = n := by omega
      have hR := rising HS.out.ris
      have kWr : Kept [] W wr := ⟨HS.out.two.bel.os, HS.out.two.bel.tape, HS.out.two.bel.output, HS.out.two.bel.size, fun k hk hn => HS.out.two.bel.block k (by have := HK.out.2.2; omega) hn⟩
      have r0 := kWr.cell b0 (by simp)
      have r1 := kWr.cell b1 (by simp)
      have r2 := kWr.cell b2 (by simp)
      have H4 := Lib.hid (rows4 (.slice av k C) k f w0 w1 w2 wr (HD.out.kept kWr) HQ.out.1 HQ.out.2.1 HQ.out.2.2.1 HQ.out.2.2.2.1 HQ.out.2.2.2.2)
      have HKW := Lib.hid kWr
      have HRR := Lib.hid hR
      clear hR kWr b0 b1 b2
      go_wp2_with (go_at_call 4; refine H4.out.mono ?_; rintro e V1 ⟨dv, is, rfl, hb1, hok⟩; refine Hid.out ?_)
      refine Lib.hid ?_
      have k1 := Kept.of_below hb1 []
      have s0 := k1.cell r0 (by simp)
      have s1 := k1.cell r1 (by simp)
      have s2 := k1.cell r2 (by simp)
      have HW1 := Lib.hid (HKW.out.trans k1)
      cases is
      · clear hok hb1
        go_wp2_with fail
        go_ret
        exact ⟨rfl, HEX.out _ (Bel.of_kept HW1.out (by rw [HK.out.2.2]; exact Nat.le_refl _))⟩
      obtain ⟨hF, hown⟩ := hok rfl
      obtain ⟨da, dC, rfl⟩ := own_slice hown
      have ho5 := own_kept HS.out.two.own5 k1 (by simp)
      have ho6 := own_kept HS.out.two.own6 k1 (by simp)
      have H5 := Lib.hid (stream5 _ _ a5 C5 da _ dC w0 w1 w2 f k V1 HQ.out.1 HQ.out.2.1 HQ.out.2.2.1 HQ.out.2.2.2.1 HQ.out.2.2.2.2 (by have h := ho5; rw [nums_length] at h ⊢; exact h) hown hF HRR.out)
      have HF2 := Lib.hid hF
      have HO6 := Lib.hid ho6
      obtain ⟨ld, hld⟩ : ∃ ld, (dataB w0 w1 w2 f k).length = ld := ⟨_, rfl⟩
      rw [hld] at H5
      rw [hld]
      clear hok hb1 hF hown ho5 ho6 k1 r0 r1 r2 hld
      go_wp2_with (go_at_call 5; refine H5.out.mono ?_; rintro e V2 ⟨gv, sv, K, rfl, hgv, hsv, hsub, hsup, hKl5, hb2⟩; refine Hid.out ?_)
      refine Lib.hid ?_
      obtain ⟨ga, gC, rfl⟩ := hgv.slice
      obtain ⟨sa, sC, rfl⟩ := hsv.slice
      have k2 := Kept.of_below hb2 []
      have HW2 := Lib.hid (HW1.out.trans k2)
      have HGV := Lib.hid hgv
      have HO62 := Lib.hid (own_kept HO6.out k2 (by simp))
      have HSV := Lib.hid (And.intro hsv (And.intro hsub hsup))
      have hKl : Hid (K.length ≤ 1000000) := Lib.hid (by omega)
      clear hgv hsv hsub hsup hKl5 hb2 k2 s0 s1 s2
      go_wp2_with fail
      go_loopw [150] (fun i wr2 => ∃ q : Nat, i = .int .i64 (q : Int) ∧ q ≤ k ∧ Hid (Kept [] V2 wr2)) (fun i _ => k - (intOf i).toNat)
      case atStart => exact ⟨0, rfl, by omega, Lib.hid (Kept.refl _ _)⟩
      case round =>
        obtain ⟨q, rfl, hq, HKQ⟩ := hrel
        by_cases hlt2 : q < k
        · obtain ⟨gb, go, hga, hgc⟩ := (HGV.out.kept HKQ.out).cells (by omega)
          obtain ⟨bb, oo, hav, hbc⟩ := (HD.out.kept (HW2.out.trans HKQ.out)).cells (by omega)
          subst hga
          subst hav
          have hg1 := hgc q hlt2
          have hb1 := hbc q hlt2
          have h6 := fun U => same6 (f q) (HF2.out q hlt2).one U
          obtain ⟨⟨xn, xfr, xcm, xof, xge, xhf, xhg, xst, xix⟩, he⟩ : ∃ e, norm (f q) = e := ⟨_, rfl⟩
          obtain ⟨⟨yn, yfr, ycm, yof, yge, yhf, yhg, yst, yix⟩, hf⟩ : ∃ e, f q = e := ⟨_, rfl⟩
          rw [he] at hg1 h6
          rw [hf] at hb1 h6
          have H6 : Hid (∀ U, Calls Tryd.prog 6 #[.agg #[.int .i64 xn, .bool xfr, .bool xcm, .int .i64 xof, .int .i64 xge, .bool xhf, .bool xhg, .int .i64 xst, .int .i64 xix], .agg #[.int .i64 yn, .bool yfr, .bool ycm, .int .i64 yof, .int .i64 yge, .bool yhf, .bool yhg, .int .i64 yst, .int .i64 yix]] U fun e w' => e = .returned (.bool true) ∧ Below U.heap.size U w') := Lib.hid h6
          have g0 : wr.cell? ⟨gb, go + q * 9, none⟩ = some (.int .i64 xn) := hg1 0 _ rfl
          have g1 : wr.cell? ⟨gb, go + q * 9 + 1, none⟩ = some (.bool xfr) := hg1 1 _ rfl
          have g2 : wr.cell? ⟨gb, go + q * 9 + 2, none⟩ = some (.bool xcm) := hg1 2 _ rfl
          have g3 : wr.cell? ⟨gb, go + q * 9 + 3, none⟩ = some (.int .i64 xof) := hg1 3 _ rfl
          have g4 : wr.cell? ⟨gb, go + q * 9 + 4, none⟩ = some (.int .i64 xge) := hg1 4 _ rfl
          have g5 : wr.cell? ⟨gb, go + q * 9 + 5, none⟩ = some (.bool xhf) := hg1 5 _ rfl
          have g6 : wr.cell? ⟨gb, go + q * 9 + 6, none⟩ = some (.bool xhg) := hg1 6 _ rfl
          have g7 : wr.cell? ⟨gb, go + q * 9 + 7, none⟩ = some (.int .i64 xst) := hg1 7 _ rfl
          have g8 : wr.cell? ⟨gb, go + q * 9 + 8, none⟩ = some (.int .i64 xix) := hg1 8 _ rfl
          have c0 : wr.cell? ⟨bb, oo + q * 9, none⟩ = some (.int .i64 yn) := hb1 0 _ rfl
          have c1 : wr.cell? ⟨bb, oo + q * 9 + 1, none⟩ = some (.bool yfr) := hb1 1 _ rfl
          have c2 : wr.cell? ⟨bb, oo + q * 9 + 2, none⟩ = some (.bool ycm) := hb1 2 _ rfl
          have c3 : wr.cell? ⟨bb, oo + q * 9 + 3, none⟩ = some (.int .i64 yof) := hb1 3 _ rfl
          have c4 : wr.cell? ⟨bb, oo + q * 9 + 4, none⟩ = some (.int .i64 yge) := hb1 4 _ rfl
          have c5 : wr.cell? ⟨bb, oo + q * 9 + 5, none⟩ = some (.bool yhf) := hb1 5 _ rfl
          have c6 : wr.cell? ⟨bb, oo + q * 9 + 6, none⟩ = some (.bool yhg) := hb1 6 _ rfl
          have c7 : wr.cell? ⟨bb, oo + q * 9 + 7, none⟩ = some (.int .i64 yst) := hb1 7 _ rfl
          have c8 : wr.cell? ⟨bb, oo + q * 9 + 8, none⟩ = some (.int .i64 yix) := hb1 8 _ rfl
          clear hgc hbc hg1 hb1 h6 he hf
          go_wp2_with fail
          go_still_tail 8, (by kernel_rfl)
          change wpList _ _ _ _ _ wr.drew
          have kd : Kept [] wr wr.drew := (Kept.refl _ _).drew
          generalize wr.drew = U2 at kd ⊢
          have HKD := Lib.hid kd
          clear kd g0 g1 g2 g3 g4 g5 g6 g7 g8 c0 c1 c2 c3 c4 c5 c6 c7 c8
          go_wp2_with (go_at_call 6; refine (H6.out _).mono ?_; rintro e w3 ⟨rfl, hb3⟩; refine Hid.out ?_)
          refine Lib.hid ?_
          have HB3 := Lib.hid hb3
          have hq5 : k ≤ 500 := HQ.out.1
          clear hb3
          go_wp2_with fail
          go_roundw
          case rel => exact ⟨q + 1, by go_num, by omega, Lib.hid ((HKQ.out.trans HKD.out).trans (Kept.of_below HB3.out _))⟩
          case measure => simp [intOf]; omega
        · obtain rfl : q = k := by omega
          obtain ⟨hsv, hsub, hsup⟩ := HSV.out
          have H7 := Lib.hid (set7 _ _ _ _ _ _ wr (hsv.kept HKQ.out) (ints_of_own (own_kept HO62.out HKQ.out (by simp))) (mem_getD hsub) (mem_getD hsup) hKl.out (by have := streams_le f q; have := HQ.out; omega))
          clear hsv hsub hsup
          go_wp2_with (go_at_call 7; refine H7.out.mono ?_; rintro e w3 ⟨rfl, hw3⟩; obtain rfl := hw3.symm; refine Hid.out ?_)
          refine Lib.hid ?_
          go_wp2_with fail
          go_ret
          exact ⟨rfl, HEX.out _ (Bel.of_kept (HW2.out.trans HKQ.out) (by rw [HK.out.2.2]; exact Nat.le_refl _))⟩
end Go.Proofs.YtmkacgffdoifbaaDoor.se
