/-
  filter.filterPaeth, filter.applyHorDiff.
-/
import Derived.Test.YtmihbmjillcjaaaDoorUpr
namespace Go.Proofs.YtmihbmjillcjaaaDoor.up
set_option linter.unusedVariables false
set_option linter.unusedSimpArgs false
open Go.RowKit

/-- The row's bytes while Paeth's filter goes over the columns: what stands at r's predecessors in the pixel is done, and r's up to j. -/
def mp (bpp r j : Nat) (f g : Nat → Int) : Nat → Int := fun i => if i % bpp < r ∨ (i % bpp = r ∧ i < j) then f i else g i

theorem mp_zero (bpp : Nat) (f g : Nat → Int) : mp bpp 0 0 f g = g := by
  funext i
  unfold mp
  rw [if_neg (by omega)]
theorem mp_next (bpp r j size : Nat) (f g : Nat → Int) (hj : size ≤ j) (i : Nat) (hi : i < size) : mp bpp r j f g i = mp bpp (r + 1) (r + 1) f g i := by
  unfold mp
  by_cases h : i % bpp < r + 1
  · rw [if_pos (by omega), if_pos (by omega)]
  · have h2 : i % bpp ≤ i := Nat.mod_le _ _
    rw [if_neg (by omega), if_neg (by omega)]
theorem mp_all (bpp : Nat) (h1 : 1 ≤ bpp) (f g : Nat → Int) (i : Nat) : mp bpp bpp bpp f g i = f i := by
  unfold mp
  rw [if_pos (.inl (Nat.mod_lt _ h1))]
theorem mp_done {bpp r j : Nat} {f g : Nat → Int} {i : Nat} (h : i % bpp = r) (hi : i < j) : mp bpp r j f g i = f i := by
  unfold mp
  rw [if_pos (.inr ⟨h, hi⟩)]
theorem mp_todo {bpp r j : Nat} {f g : Nat → Int} (h : j % bpp = r) : mp bpp r j f g j = g j := by
  unfold mp
  rw [if_neg (by omega)]
theorem mp_step {bpp r j : Nat} (h1 : 1 ≤ bpp) (f g : Nat → Int) (h : j % bpp = r) (i : Nat) : (if i = j then f j else mp bpp r j f g i) = mp bpp r (j + bpp) f g i := by
  unfold mp
  by_cases hi : i = j
  · subst hi
    rw [if_pos rfl, if_pos (.inr ⟨h, by omega⟩)]
  · rw [if_neg hi]
    by_cases h2 : i % bpp < r ∨ (i % bpp = r ∧ i < j)
    · rw [if_pos h2, if_pos (by omega)]
    · rw [if_neg h2, if_neg]
      intro h3
      rcases h3 with h3 | ⟨h3, h4⟩
      · exact h2 (.inl h3)
      · have h5 : j < i := by
          rcases Nat.lt_or_ge i j with h6 | h6
          · exact absurd (.inr ⟨h3, h6⟩) h2
          · omega
        have h6 : (i - j) % bpp = 0 := Nat.sub_mod_eq_zero_of_mod_eq (h3.trans h.symm)
        have h7 := Nat.mod_eq_of_lt (a := i - j) (b := bpp) (by omega)
        omega
theorem rw8_mp {bpp r j : Nat} (h1 : 1 ≤ bpp) (t : Int) (f g : Nat → Int) (h : j % bpp = r) : (fun i => if i = 1 + j then Value.int .u8 (f j) else rw8 t (mp bpp r j f g) i) = rw8 t (mp bpp r (j + bpp) f g) := by
  funext i
  unfold rw8
  by_cases hi : i = 1 + j
  · subst hi
    rw [if_pos rfl, if_neg (by omega), Nat.add_sub_cancel_left, ← mp_step h1 f g h j, if_pos rfl]
  · rw [if_neg hi]
    by_cases h0 : i = 0
    · rw [if_pos h0, if_pos h0]
    · rw [if_neg h0, if_neg h0, ← mp_step h1 f g h (i - 1), if_neg (by omega)]

/-- The byte to the left, and the one above that. -/
def lf (bpp j : Nat) (f : Nat → Int) : Int := if bpp ≤ j then f (j - bpp) else 0
theorem lf_next (bpp j : Nat) (f : Nat → Int) : lf bpp (j + bpp) f = f j := by unfold lf; rw [if_pos (by omega), Nat.add_sub_cancel]
theorem lf_first {bpp j : Nat} (h : j < bpp) (f : Nat → Int) : lf bpp j f = 0 := by unfold lf; rw [if_neg (by omega)]
theorem lf_ge {bpp j : Nat} {f : Nat → Int} (h : ∀ i, 0 ≤ f i) : 0 ≤ lf bpp j f := by unfold lf; split; exact h _; exact Int.le_refl 0
theorem lf_le {bpp j : Nat} {f : Nat → Int} (h : ∀ i, f i ≤ 255) : lf bpp j f ≤ 255 := by unfold lf; split; exact h _; omega
theorem pv_lf (tag : Int) (bpp : Nat) (h1 : 1 ≤ bpp) (raw above : Nat → Int) (j : Nat) : pv tag bpp raw above j = (raw j + pred tag (lf bpp j (pv tag bpp raw above)) (above j) (lf bpp j above)) % 256 := by
  by_cases h : bpp ≤ j
  · rw [pv_far h1 h]
    unfold lf
    rw [if_pos h, if_pos h]
  · rw [pv_near (by omega), lf_first (by omega), lf_first (by omega)]

theorem and255 (x : Int) (h0 : 0 ≤ x) (h1 : x ≤ 510) : bits BinOp.and IntKind.i64 x 255 = x % 256 := by
  have key : ∀ x : Fin 511, bits BinOp.and IntKind.i64 (x.val : Int) 255 = (x.val : Int) % 256 := by decide +kernel
  have h := key ⟨x.toNat, by omega⟩
  simp only at h
  rw [show ((x.toNat : Nat) : Int) = x by omega] at h
  exact h

set_option maxHeartbeats 4000000 in
set_option maxRecDepth 100000 in
theorem paeth41 (size bpp : Nat) (h1 : 1 ≤ bpp) (hbs : bpp ≤ size) (hs : size ≤ 100000) (raw above : Nat → Int) (hraw : Bytes raw) (habv : Bytes above) (tp t : Int) (bc bp : Nat) (w : World)
    (hc : w.rowIs bc 5 (size + 1) (rw8 t raw)) (hpr : w.rowIs bp 5 (size + 1) (rw8 tp above)) (hne : bp ≠ bc) :
    Calls Tryd.prog 41 #[.slice (some ⟨bc, 1, none⟩) size size, .slice (some ⟨bp, 1, none⟩) size size, .int .i64 bpp] w fun e w' =>
      e = .returned (.tuple #[]) ∧ w'.rowIs bc 5 (size + 1) (rw8 t (mx size (pv 4 bpp raw above) raw)) ∧ w.grownBy w' (some bc) := by
  have hr0 := row_congr hc (g := mp bpp 0 0 (pv 4 bpp raw above) raw) fun i hi => by rw [mp_zero]
  have HR0 := Lib.hid hr0
  have HP := Lib.hid hpr
  have HA := Lib.hid habv
  have HW := Lib.hid hraw
  have hk := Lib.hid fun j => pv_lf 4 bpp h1 raw above j
  have hge := Lib.hid fun i => pv_ge 4 bpp raw above i
  have hle := Lib.hid fun i => pv_le 4 bpp raw above i
  clear hr0 hc hpr hraw habv
  generalize pv 4 bpp raw above = F at *
  go_enter Tryd.func41, Tryd.ntmps41
  go_wp2_with fail
  go_loopw [12] (fun i wr => ∃ r : Nat, i = .int .i64 (r : Int) ∧ r ≤ bpp ∧ Hid (wr.rowIs bc 5 (size + 1) (rw8 t (mp bpp r r F raw))) ∧ Hid (w.grownBy wr (some bc))) (fun i _ => bpp - (intOf i).toNat)
  case atStart => exact ⟨0, rfl, by omega, HR0, Lib.hid (grown_refl _ _)⟩
  case round =>
    obtain ⟨r, rfl, hr, HR, HG⟩ := hrel
    by_cases hlt : r < bpp
    · have hki : (r : Int) < (bpp : Int) := by omega
      go_wp2_with fail
      obtain ⟨wo, rfl⟩ : ∃ wo : World, wo = wr := ⟨_, rfl⟩
      go_loopw [6, 8, 13] (fun l c j wr => ∃ k : Nat, j = .int .i64 (k : Int) ∧ k ≤ size + bpp ∧ k % bpp = r ∧ l = .int .i64 (lf bpp k F) ∧ c = .int .i64 (lf bpp k above) ∧ Hid (wr.rowIs bc 5 (size + 1) (rw8 t (mp bpp r k F raw))) ∧ Hid (w.grownBy wr (some bc))) (fun _ _ j _ => size + bpp - (intOf j).toNat)
      case atStart => exact ⟨r, rfl, by omega, Nat.mod_eq_of_lt hlt, by rw [lf_first hlt], by rw [lf_first hlt], HR, HG⟩
      case round =>
        obtain ⟨k, rfl, hks, hkm, rfl, rfl, HR, HG⟩ := hrel
        have hkm' := Lib.hid hkm
        clear hkm
        by_cases hlt2 : k < size
        · have hki2 : (k : Int) < (size : Int) := by omega
          have hcell : wr.cell? ⟨bc, 1 + k, none⟩ = some (.int .u8 (raw k)) := by
            rw [HR.out.cell (by omega), rw8_at, mp_todo hkm'.out]
          have hcell2 : wr.cell? ⟨bp, 1 + k, none⟩ = some (.int .u8 (above k)) := by
            rw [(grown_row HG.out HP.out hne).cell (by omega), rw8_at]
          have hfz := HR.out.frozen (1 + k)
          have hset := HR.out.set (1 + k) (.int .u8 (F k))
          rw [rw8_mp h1 t F raw hkm'.out] at hset
          have HSET := Lib.hid hset
          have HG2 := Lib.hid (grown_set HG.out (1 + k) (.int .u8 (F k)))
          have l0 := lf_ge (bpp := bpp) (j := k) hge.out
          have l1 := lf_le (bpp := bpp) (j := k) hle.out
          have c0 := lf_ge (bpp := bpp) (j := k) HA.out.lo
          have c1 := lf_le (bpp := bpp) (j := k) HA.out.hi
          have u0 := HA.out.lo k
          have u1 := HA.out.hi k
          have r0 := HW.out.lo k
          have r1 := HW.out.hi k
          have hkk := hk.out k
          have hF : Hid (lf bpp (k + bpp) F = F k) := Lib.hid (lf_next _ _ _)
          have hAb : Hid (lf bpp (k + bpp) above = above k) := Lib.hid (lf_next _ _ _)
          have hkm2 : Hid ((k + bpp) % bpp = r) := Lib.hid (by rw [Nat.add_mod_right]; exact hkm'.out)
          have hpd : pred 4 (lf bpp k F) (above k) (lf bpp k above) = paeth (lf bpp k F) (above k) (lf bpp k above) := rfl
          rw [hpd] at hkk
          unfold paeth at hkk
          clear hset hpd
          generalize lf bpp k F = l at *
          generalize lf bpp k above = c at *
          generalize above k = u at *
          generalize raw k = x at *
          have HKK := Lib.hid hkk
          clear hkk
          by_cases t1 : iabs (u - c) ≤ iabs (l - c)
          · by_cases t2 : iabs (u - c) ≤ iabs (u - c + (l - c))
            · have hv : Hid ((l + x) % 256 = F k) := Lib.hid (by rw [HKK.out, if_pos ⟨t1, t2⟩, Int.add_comm])
              have ha := and255 (l + x) (by omega) (by omega)
              go_wp2_with (go_at_call 42; refine (abs42 _ (by omega) (by omega) _).mono ?_; rintro e w1 ⟨rfl, rfl⟩)
              go_roundw
              case rel => exact ⟨k + bpp, by go_num, by omega, hkm2.out, by rw [hF.out, hv.out], by rw [hAb.out], by rw [hv.out]; exact HSET, by rw [hv.out]; exact HG2⟩
              case measure => simp [intOf]; omega
            · by_cases t3 : iabs (l - c) ≤ iabs (u - c + (l - c))
              · exact absurd (Int.le_trans t1 t3) t2
              · have hv : Hid ((c + x) % 256 = F k) := Lib.hid (by rw [HKK.out, if_neg (fun h => t2 h.2), if_neg t3, Int.add_comm])
                have ha := and255 (c + x) (by omega) (by omega)
                go_wp2_with (go_at_call 42; refine (abs42 _ (by omega) (by omega) _).mono ?_; rintro e w1 ⟨rfl, rfl⟩)
                go_roundw
                case rel => exact ⟨k + bpp, by go_num, by omega, hkm2.out, by rw [hF.out, hv.out], by rw [hAb.out], by rw [hv.out]; exact HSET, by rw [hv.out]; exact HG2⟩
                case measure => simp [intOf]; omega
          · by_cases t3 : iabs (l - c) ≤ iabs (u - c + (l - c))
            · have hv : Hid ((u + x) % 256 = F k) := Lib.hid (by rw [HKK.out, if_neg (fun h => t1 h.1), if_pos t3, Int.add_comm])
              have ha := and255 (u + x) (by omega) (by omega)
              go_wp2_with (go_at_call 42; refine (abs42 _ (by omega) (by omega) _).mono ?_; rintro e w1 ⟨rfl, rfl⟩)
              go_roundw
              case rel => exact ⟨k + bpp, by go_num, by omega, hkm2.out, by rw [hF.out, hv.out], by rw [hAb.out], by rw [hv.out]; exact HSET, by rw [hv.out]; exact HG2⟩
              case measure => simp [intOf]; omega
            · have hv : Hid ((c + x) % 256 = F k) := Lib.hid (by rw [HKK.out, if_neg (fun h => t1 h.1), if_neg t3, Int.add_comm])
              have ha := and255 (c + x) (by omega) (by omega)
              go_wp2_with (go_at_call 42; refine (abs42 _ (by omega) (by omega) _).mono ?_; rintro e w1 ⟨rfl, rfl⟩)
              go_roundw
              case rel => exact ⟨k + bpp, by go_num, by omega, hkm2.out, by rw [hF.out, hv.out], by rw [hAb.out], by rw [hv.out]; exact HSET, by rw [hv.out]; exact HG2⟩
              case measure => simp [intOf]; omega
        · have hki2 : ¬ (k : Int) < (size : Int) := by omega
          have HN : Hid (wr.rowIs bc 5 (size + 1) (rw8 t (mp bpp (r + 1) (r + 1) F raw))) := Lib.hid (row_congr HR.out fun i hi => mp_next bpp r k size F raw (by omega) i hi)
          go_wp2_with fail
          go_roundw
          case rel => first | exact ⟨r + 1, by go_num, by omega, HN, HG⟩ | ((repeat apply Exists.intro); refine ⟨?_, rfl⟩; exact ⟨r + 1, by go_num, by omega, HN, HG⟩)
          case measure => simp [intOf]; omega
    · obtain rfl : r = bpp := by omega
      have HN : Hid (wr.rowIs bc 5 (size + 1) (rw8 t (mx size F raw))) := Lib.hid (row_congr HR.out fun i hi => by rw [mp_all r h1, mx_lt hi])
      go_wp2_with fail
      go_end0
      exact ⟨rfl, HN.out, HG.out⟩

set_option maxHeartbeats 2000000 in
set_option maxRecDepth 100000 in
theorem row39_paeth (p colors : Int) (size bpp : Nat) (hp : p ≠ 2) (h1 : 1 ≤ bpp) (hbs : bpp ≤ size) (hs : size ≤ 100000) (raw above : Nat → Int) (hraw : Bytes raw) (habv : Bytes above) (tp : Int) (bc bp : Nat) (w : World)
    (hc : w.rowIs bc 5 (size + 1) (rw8 4 raw)) (hpr : w.rowIs bp 5 (size + 1) (rw8 tp above)) (hne : bp ≠ bc) :
    Calls Tryd.prog 39 #[.slice (some ⟨bp, 0, none⟩) (size + 1) (size + 1), .slice (some ⟨bc, 0, none⟩) (size + 1) (size + 1), .int .i64 p, .int .i64 colors, .int .i64 bpp] w fun e w' =>
      e = .returned (.tuple #[.slice (some ⟨bc, 1, none⟩) size size, .nilIface]) ∧ w'.rowIs bc 5 (size + 1) (rw8 4 (mx size (pv 4 bpp raw above) raw)) ∧ w.grownBy w' (some bc) := by
  have hc0 : w.cell? ⟨bc, 0, none⟩ = some (.int .u8 4) := hc.cell (i := 0) (by omega)
  have hp2 : (p == 2) = false := by simpa using hp
  have hP := Lib.hid (paeth41 size bpp h1 hbs hs raw above hraw habv tp 4 bc bp w hc hpr hne)
  clear hc hpr hp hraw habv
  go_enter Tryd.func39, Tryd.ntmps39
  go_wp2_with (go_at_call 41; refine hP.out.mono ?_; rintro e w1 ⟨rfl, hr1, hg1⟩; refine Hid.out ?_)
  refine Lib.hid ?_
  have HR1 := Lib.hid hr1
  have HG1 := Lib.hid hg1
  clear hr1 hg1
  go_wp2_with fail
  go_ret2
  exact ⟨rfl, HR1.out, HG1.out⟩

/-- The tags that a row's filter may have. -/
def Tag (t : Int) : Prop := t = 0 ∨ t = 1 ∨ t = 2 ∨ t = 3 ∨ t = 4

/-- filter.processRow at a row of PNG's. -/
theorem row39 (t p colors : Int) (ht : Tag t) (size bpp : Nat) (hp : p ≠ 2) (h1 : 1 ≤ bpp) (hbs : bpp ≤ size) (hs : size ≤ 100000) (raw above : Nat → Int) (hraw : Bytes raw) (habv : Bytes above) (tp : Int) (bc bp : Nat) (w : World)
    (hc : w.rowIs bc 5 (size + 1) (rw8 t raw)) (hpr : w.rowIs bp 5 (size + 1) (rw8 tp above)) (hne : bp ≠ bc) :
    Calls Tryd.prog 39 #[.slice (some ⟨bp, 0, none⟩) (size + 1) (size + 1), .slice (some ⟨bc, 0, none⟩) (size + 1) (size + 1), .int .i64 p, .int .i64 colors, .int .i64 bpp] w fun e w' =>
      e = .returned (.tuple #[.slice (some ⟨bc, 1, none⟩) size size, .nilIface]) ∧ w'.rowIs bc 5 (size + 1) (rw8 t (mx size (pv t bpp raw above) raw)) ∧ w.grownBy w' (some bc) := by
  rcases ht with rfl | rfl | rfl | rfl | rfl
  · exact row39_none p colors size bpp hp h1 hbs hs raw above hraw habv tp bc bp w hc hpr hne
  · exact row39_sub p colors size bpp hp h1 hbs hs raw above hraw habv tp bc bp w hc hpr hne
  · exact row39_up p colors size bpp hp h1 hbs hs raw above hraw habv tp bc bp w hc hpr hne
  · exact row39_avg p colors size bpp hp h1 hbs hs raw above hraw habv tp bc bp w hc hpr hne
  · exact row39_paeth p colors size bpp hp h1 hbs hs raw above hraw habv tp bc bp w hc hpr hne
end Go.Proofs.YtmihbmjillcjaaaDoor.up
