/-
  FnAttributes: model.ParseObjectAttributes at a head of an object.
-/
import Derived.Test.YtgibcinbifaooaaDoorAt6
import Derived.Test.YtgibcinbifaooaaDoorAtp
import Derived.Lib.AtoiErrMem
namespace Go.Proofs.YtgibcinbifaooaaDoor.att
open Go.RowKit

theorem atoi18 (l : List UInt8) (n : Int) (hl : l.length ≤ 18) (h : Lib.atoi l = some n) (w : World) :
    Calls Tryd.prog 18 #[.string (mkS l)] w fun e w' => e = .returned (.tuple #[.int .i64 n, .nilIface]) ∧ Below w.heap.size w w' := by
  refine (Tryd.strconv_Atoi (mkS l) n (by rw [mkS_size]; exact hl) (by rw [mkS_list]; exact h) w).mono ?_
  rintro e w' ⟨rfl, t, rfl⟩
  exact ⟨rfl, Lib.bytesWorld_below w 5 t⟩

theorem sp_bl (c : UInt8) (h : sp c = true) : bl c = true := by
  unfold sp at h
  unfold bl
  simp only [beq_iff_eq] at h
  simp [h]
theorem sp_eq (c : UInt8) (h : sp c = true) : c = 32 := by
  unfold sp at h
  simp only [beq_iff_eq] at h
  exact UInt8.toNat_inj.1 h
theorem spaces_cons (l : List UInt8) (h : l.all sp = true) (hne : l ≠ []) : ∃ r, l = 32 :: r ∧ r.all sp = true := by
  cases l with
  | nil => exact absurd rfl hne
  | cons c r =>
    rw [List.all_cons, Bool.and_eq_true] at h
    exact ⟨r, by rw [sp_eq c h.1], h.2⟩

structure Head (bef N btw G aft : List UInt8) (n g : Int) : Prop where
  cbef : bef.all bl = true
  dn : ∀ c ∈ N, Dig c
  nn : N ≠ []
  ln : N.length ≤ 18
  an : Lib.atoi N = some n
  cbtw : btw.all sp = true
  nb : btw ≠ []
  dg : ∀ c ∈ G, Dig c
  ng : G ≠ []
  lg : G.length ≤ 18
  ag : Lib.atoi G = some g
  caft : aft.all sp = true
  na : aft ≠ []
  len : bef.length + btw.length + aft.length ≤ 300

set_option maxHeartbeats 4000000 in
set_option maxRecDepth 100000 in
theorem parse11 (bef N btw G aft r : List UInt8) (n g : Int) (H : Head bef N btw G aft n g) (hr : r.length ≤ 1024) (L : Nat) (w : World) (c0 : w.cell? ⟨L, 0, none⟩ = some (.string (mkS (bef ++ N ++ btw ++ G ++ aft ++ [111, 98, 106] ++ r)))) (f0 : w.frozen? ⟨L, 0, none⟩ = false) :
    Calls Tryd.prog 11 #[.pointer (some ⟨L, 0, none⟩)] w fun e w' => ∃ o q w1, e = .returned (.tuple #[.pointer (some ⟨o, 0, none⟩), .pointer (some ⟨q, 0, none⟩), .nilIface]) ∧ w1.cell? ⟨o, 0, none⟩ = some (.int .i64 n) ∧ w1.cell? ⟨q, 0, none⟩ = some (.int .i64 g) ∧ w.heap.size ≤ o ∧ w.heap.size ≤ q ∧ Below w.heap.size w w1 ∧ w' = w1.setCell ⟨L, 0, none⟩ (.string (mkS r)) := by
  have hLw : L < w.heap.size := World.block_lt_of_cell? _ _ c0
  have hlen := H.len
  have hln := H.ln
  have hlg := H.lg
  obtain ⟨b1, hb1, hb1s⟩ := spaces_cons btw H.cbtw H.nb
  obtain ⟨a1, ha1, ha1s⟩ := spaces_cons aft H.caft H.na
  obtain ⟨cn, N1, hN1⟩ : ∃ c N1, N = c :: N1 := by
    cases N with
    | nil => exact absurd rfl H.nn
    | cons c N1 => exact ⟨c, N1, rfl⟩
  obtain ⟨cg, G1, hG1⟩ : ∃ c G1, G = c :: G1 := by
    cases G with
    | nil => exact absurd rfl H.ng
    | cons c G1 => exact ⟨c, G1, rfl⟩
  have hdig : ∀ x, Dig x → x ≠ 111 := fun x hx e => by subst e; unfold Dig at hx; simp at hx
  have hblo : ∀ x, bl x = true → x ≠ 111 := fun x hx e => by subst e; revert hx; decide
  have hall : ∀ (l : List UInt8), l.all sp = true → ∀ x ∈ l, x.toNat = 32 := fun l h x hx => by
    have := List.all_eq_true.1 h x hx
    rw [sp_eq x this]; rfl
  have hspo : ∀ (l : List UInt8), l.all sp = true → ∀ x ∈ l, x ≠ 111 := fun l h x hx e => by
    have := hall l h x hx
    rw [e] at this
    simp at this
  -- the callees
  have h15 := Lib.hid fun w => detect15 (bef ++ N ++ btw ++ G ++ aft) r (by
    intro x hx
    simp only [List.mem_append] at hx
    rcases hx with (((hx | hx) | hx) | hx) | hx
    · exact hblo x (List.all_eq_true.1 H.cbef x hx)
    · exact hdig x (H.dn x hx)
    · exact hspo _ H.cbtw x hx
    · exact hdig x (H.dg x hx)
    · exact hspo _ H.caft x hx) (by rw [hN1]; simp) (by simp; omega) w
  have eM : bef ++ N ++ btw ++ G ++ aft = bef ++ cn :: (N1 ++ btw ++ G ++ aft) := by rw [hN1]; simp
  have eM2 : cn :: (N1 ++ btw ++ G ++ aft) = N ++ 32 :: (b1 ++ G ++ aft) := by rw [hN1, hb1]; simp
  have h16 : Hid (∀ w, Calls Tryd.prog 16 #[.string (mkS (bef ++ N ++ btw ++ G ++ aft))] w fun e w' => e = .returned (.tuple #[.string (mkS (N ++ 32 :: (b1 ++ G ++ aft))), .nilIface]) ∧ Below w.heap.size w w') := Lib.hid fun w => by
    rw [eM, ← eM2]
    refine clean16 bef _ cn H.cbef (H.dn cn (by rw [hN1]; simp)) ?_ (by
      have h1 := congrArg List.length hN1
      simp at h1 ⊢
      omega) w
    intro x hx
    rw [show cn :: (N1 ++ btw ++ G ++ aft) = N ++ btw ++ G ++ aft by rw [hN1]; simp] at hx
    simp only [List.mem_append] at hx
    rcases hx with ((hx | hx) | hx) | hx
    · exact Or.inl (H.dn x hx)
    · exact Or.inr (hall _ H.cbtw x hx)
    · exact Or.inl (H.dg x hx)
    · exact Or.inr (hall _ H.caft x hx)
  have hbl1 : b1.length ≤ 300 := by have h1 := congrArg List.length hb1; simp at h1; omega
  have hal1 : a1.length ≤ 300 := by have h1 := congrArg List.length ha1; simp at h1; omega
  have h17 := Lib.hid fun w => position17 N (b1 ++ G ++ aft) H.dn (by simp; omega) w
  have h19 := Lib.hid fun w => zz19 N H.dn H.nn (by omega) w
  have h18 := Lib.hid fun w => atoi18 N n H.ln H.an w
  have h20 : Hid (∀ w, Calls Tryd.prog 20 #[.string (mkS (32 :: (b1 ++ G ++ aft))), .bool false] w fun e w' => e = .returned (.tuple #[.string (mkS (G ++ 32 :: a1)), .bool false]) ∧ Below w.heap.size w w') := Lib.hid fun w => by
    have e1 : 32 :: (b1 ++ G ++ aft) = (32 :: b1) ++ cg :: (G1 ++ aft) := by rw [hG1]; simp
    have e2 : G ++ 32 :: a1 = cg :: (G1 ++ aft) := by rw [hG1, ha1]; simp
    rw [e1, e2]
    refine trimLeftSpace20 _ _ cg ?_ (H.dg cg (by rw [hG1]; simp)) (by
      have h1 := congrArg List.length hG1
      simp at h1 ⊢
      omega) w
    rw [← hb1]
    exact List.all_eq_true.2 fun x hx => sp_bl x (List.all_eq_true.1 H.cbtw x hx)
  have h17b := Lib.hid fun w => position17 G a1 H.dg (by simp; omega) w
  have h18b := Lib.hid fun w => atoi18 G g H.lg H.ag w
  -- the texts
  have zM : (mkS (N ++ 32 :: (b1 ++ G ++ aft))).size = N.length + (b1 ++ G ++ aft).length + 1 := by rw [mkS_size]; simp; omega
  have xM0 : (mkS (N ++ 32 :: (b1 ++ G ++ aft))).extract 0 N.length = mkS N := by rw [mkS_ext]; congr 1; simp
  have xM1 : (mkS (N ++ 32 :: (b1 ++ G ++ aft))).extract N.length (N.length + (b1 ++ G ++ aft).length + 1) = mkS (32 :: (b1 ++ G ++ aft)) := by
    rw [mkS_ext]
    congr 1
    rw [List.drop_left]
    exact List.take_of_length_le (by simp; omega)
  have zG : (mkS (G ++ 32 :: a1)).size = G.length + a1.length + 1 := by rw [mkS_size]; simp; omega
  have xG0 : (mkS (G ++ 32 :: a1)).extract 0 G.length = mkS G := by rw [mkS_ext]; congr 1; simp
  have zS : (mkS (bef ++ N ++ btw ++ G ++ aft ++ [111, 98, 106] ++ r)).size ≠ 0 := by rw [mkS_size]; simp
  have hN0 : 0 < N.length := List.length_pos_iff.2 H.nn
  have hG0 : 0 < G.length := List.length_pos_iff.2 H.ng
  clear H hdig hblo hall hspo eM eM2 hN1 hG1 hb1 ha1 hb1s ha1s hlen hr
  generalize mkS (bef ++ N ++ btw ++ G ++ aft ++ [111, 98, 106] ++ r) = S at *
  generalize mkS (bef ++ N ++ btw ++ G ++ aft) = T at *
  generalize mkS (N ++ 32 :: (b1 ++ G ++ aft)) = M at *
  generalize mkS (32 :: (b1 ++ G ++ aft)) = X at *
  generalize mkS (G ++ 32 :: a1) = Y at *
  generalize mkS N = NS at *
  generalize mkS G = GS at *
  generalize mkS r = R at *
  generalize (b1 ++ G ++ aft).length = m at *
  generalize a1.length = ma at *
  generalize N.length = ln at *
  generalize G.length = lg at *
  have p1 : (0 : Int) < (ln : Int) := by omega
  have p2 : (ln : Int) ≤ (ln : Int) + (m : Int) + 1 := by omega
  have p2' : ln ≤ ln + m + 1 := by omega
  have p3 : ¬ (lg : Int) ≤ 0 := by omega
  have p4 : (lg : Int) ≤ (lg : Int) + (ma : Int) + 1 := by omega
  have p5 : ¬ ((lg : Int) + (ma : Int) + 1 = 0) := by omega
  have p6 : ¬ (S.size : Int) = 0 := by omega
  have p7 : (((lg : Int) + (ma : Int) + 1) == 0) = false := by simpa using p5
  have p8 : ((S.size : Int) == 0) = false := by simpa using p6
  clear hN0 hG0 zS
  have C0 := Lib.hid c0
  have F0 := Lib.hid f0
  go_enter Tryd.func11, Tryd.ntmps11
  go_wp2_with (first
    | (go_at_call 15; refine (h15.out _).mono ?_; rintro e w1 ⟨rfl, k1⟩)
    | (go_at_call 16; refine (h16.out _).mono ?_; rintro e w2 ⟨rfl, k2⟩)
    | (go_at_call 17; refine (h17.out _).mono ?_; rintro e w3 ⟨rfl, k3⟩)
    | (go_at_call 19; refine (h19.out _).mono ?_; rintro e w4 ⟨rfl, k4⟩)
    | (go_at_call 18; refine (h18.out _).mono ?_; rintro e w5 ⟨rfl, k5⟩; refine Hid.out ?_))
  refine Lib.hid ?_
  have s1 := k1.size
  have s2 := Nat.le_trans s1 k2.size
  have s3 := Nat.le_trans s2 k3.size
  have s4 := Nat.le_trans s3 k4.size
  have HK := Lib.hid ((((k1.trans (k2.mono s1)).trans (k3.mono s2)).trans (k4.mono s3)).trans (k5.mono s4))
  have s5 := HK.out.size
  clear k1 k2 k3 k4 k5 s1 s2 s3 s4
  go_wp2_with (first
    | (go_at_call 20; refine (h20.out _).mono ?_; rintro e w6 ⟨rfl, k6⟩; refine Hid.out ?_))
  refine Lib.hid ?_
  have K6 := Lib.hid k6
  clear k6
  go_wp2_with (first
    | (go_at_call 17; refine (h17b.out _).mono ?_; rintro e w7 ⟨rfl, k7⟩)
    | (go_at_call 18; refine (h18b.out _).mono ?_; rintro e w8 ⟨rfl, k8⟩; refine Hid.out ?_))
  refine Lib.hid ?_
  have k6 := K6.out
  obtain ⟨W, hW⟩ : ∃ W, (w5.alloc (.cells #[.int .i64 n] 3)).alloc (.cells #[.int .i64 0] 3) = W := ⟨_, rfl⟩
  have zW : W.heap.size = w5.heap.size + 1 + 1 := by rw [← hW]; simp
  have oW : W.cell? ⟨w5.heap.size, 0, none⟩ = some (.int .i64 n) := by rw [← hW]; simp [go_sem]
  have qW : W.cell? ⟨w5.heap.size + 1, 0, none⟩ = some (.int .i64 0) := by rw [← hW]; simp [go_sem]
  have gW : W.frozen? ⟨w5.heap.size + 1, 0, none⟩ = false := by rw [← hW]; simp [go_sem]
  have bW : Below w.heap.size w W := by rw [← hW]; exact (HK.out.alloc s5 _).alloc (by simp; omega) _
  have kk : Below W.heap.size W w8 := by
    rw [hW] at k6
    exact (k6.trans (k7.mono k6.size)).trans (k8.mono (Nat.le_trans k6.size k7.size))
  have o8 := (kk.cell (p := ⟨w5.heap.size, 0, none⟩) (by show w5.heap.size < _; omega)).trans oW
  have q8 := (kk.cell (p := ⟨w5.heap.size + 1, 0, none⟩) (by show w5.heap.size + 1 < _; omega)).trans qW
  have g8 := (kk.frozen (p := ⟨w5.heap.size + 1, 0, none⟩) (by show w5.heap.size + 1 < _; omega)).trans gW
  have b8 := bW.trans (kk.mono (by omega))
  have c8 := (b8.cell (p := ⟨L, 0, none⟩) hLw).trans C0.out
  have f8 := (b8.frozen (p := ⟨L, 0, none⟩) hLw).trans F0.out
  have hne : L ≠ w5.heap.size + 1 := by omega
  have hne' : L ≠ w5.heap.size := by omega
  have B8 := Lib.hid b8
  have O8 := Lib.hid o8
  clear k6 k7 k8 hW zW oW qW gW bW kk b8 K6 HK c0 f0
  go_wp2_with fail
  refine bodyPost_ret (v := .tuple #[.pointer (some ⟨w5.heap.size, 0, none⟩), .pointer (some ⟨w5.heap.size + 1, 0, none⟩), .nilIface]) (by simp [results, Tryd.results11, go_sem]) rfl ⟨w5.heap.size, w5.heap.size + 1, w8.setCell ⟨w5.heap.size + 1, 0, none⟩ (.int .i64 g), rfl, ?_, ?_, s5, by omega, B8.out.setCell (p := ⟨w5.heap.size + 1, 0, none⟩) (by show w.heap.size ≤ w5.heap.size + 1; omega) _, rfl⟩
  · rw [World.cell?_setCell_other _ _ _ _ (by simp)]
    exact O8.out
  · simp [go_sem, q8, g8]
end Go.Proofs.YtgibcinbifaooaaDoor.att
