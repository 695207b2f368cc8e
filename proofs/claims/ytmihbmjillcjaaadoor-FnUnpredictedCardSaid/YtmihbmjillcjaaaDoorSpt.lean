/-
  spec.tiffRow.
-/
import Derived.Test.YtmihbmjillcjaaaDoorSpa
namespace Go.Proofs.YtmihbmjillcjaaaDoor.up
set_option linter.unusedVariables false
set_option linter.unusedSimpArgs false
open Go.RowKit

/-- A row in which n bytes f are laid at o. -/
def at8 (F : Nat → Value) (o n : Nat) (f : Nat → Int) : Nat → Value := fun i => if o ≤ i ∧ i < o + n then .int .u8 (f (i - o)) else F i
theorem at8_in {F : Nat → Value} {o n : Nat} {f : Nat → Int} {i : Nat} (h : i < n) : at8 F o n f (o + i) = .int .u8 (f i) := by
  unfold at8
  rw [if_pos (by omega), Nat.add_sub_cancel_left]
theorem at8_out {F : Nat → Value} {o n : Nat} {f : Nat → Int} {i : Nat} (h : i < o ∨ o + n ≤ i) : at8 F o n f i = F i := by
  unfold at8
  rw [if_neg (by omega)]
theorem at8_set (F : Nat → Value) (o k : Nat) (f : Nat → Int) : (fun i => if i = o + k then Value.int .u8 (f k) else at8 F o k f i) = at8 F o (k + 1) f := by
  funext i
  unfold at8
  by_cases h : i = o + k
  · subst h
    rw [if_pos rfl, if_pos (by omega), Nat.add_sub_cancel_left]
  · rw [if_neg h]
    by_cases h2 : o ≤ i ∧ i < o + k
    · rw [if_pos h2, if_pos (by omega)]
    · rw [if_neg h2, if_neg (by omega)]

set_option maxHeartbeats 4000000 in
set_option maxRecDepth 100000 in
theorem tiff12 (q o size cap colors columns M : Nat) (early : Int) (hsz : size = columns * colors) (h1 : 1 ≤ colors) (h2 : colors ≤ 8) (h3 : 1 ≤ columns) (h4 : columns ≤ 1000) (raw above : Nat → Int) (hraw : Bytes raw) (F : Nat → Value) (w : World) (hr : w.rowIs q 5 M F) (hM : o + size ≤ M)
    (hF : ∀ i, i < size → F (o + i) = .int .u8 (raw i)) :
    Calls Tryd.prog 12 #[.slice (some ⟨q, o, none⟩) size cap, .agg #[.int .i64 2, .int .i64 colors, .int .i64 8, .int .i64 columns, .int .i64 early]] w fun e w' =>
      e = .returned (.tuple #[]) ∧ w'.rowIs q 5 M (at8 F o size (pv 1 colors raw above)) ∧ Kept [q] w w' := by
  have hs : size ≤ 8000 := by rw [hsz]; exact Nat.le_trans (Nat.mul_le_mul h4 h2) (by omega)
  have hcs : colors ≤ size := by rw [hsz]; exact Nat.le_mul_of_pos_left _ h3
  have hmul : (colors : Int) * (columns : Int) = (size : Int) := by rw [hsz]; push_cast; exact Int.mul_comm _ _
  have hr0 : w.rowIs q 5 M (at8 F o colors (pv 1 colors raw above)) := hr.congr fun i hi => by
    unfold at8
    by_cases h : o ≤ i ∧ i < o + colors
    · rw [if_pos h, pv_byte hraw (i - o) (by unfold pred; rw [if_pos rfl, dif_neg (by omega)])]
      have := hF (i - o) (by omega)
      rwa [show o + (i - o) = i by omega] at this
    · rw [if_neg h]
  obtain ⟨s0, hs0⟩ : ∃ s0, w.heap.size = s0 := ⟨_, rfl⟩
  obtain ⟨W0, hW0⟩ : ∃ W0, w.alloc (.cells #[.int .i64 2, .int .i64 colors, .int .i64 8, .int .i64 columns, .int .i64 early] 24) = W0 := ⟨_, rfl⟩
  have k0 : Kept [] w W0 := by rw [← hW0]; exact (Kept.refl _ _).alloc _
  have p1 : W0.cell? ⟨s0, 1, none⟩ = some (.int .i64 colors) := by rw [← hW0, ← hs0]; simp [go_sem]
  have p2 : W0.cell? ⟨s0, 2, none⟩ = some (.int .i64 8) := by rw [← hW0, ← hs0]; simp [go_sem]
  have p3 : W0.cell? ⟨s0, 3, none⟩ = some (.int .i64 columns) := by rw [← hW0, ← hs0]; simp [go_sem]
  have hqs : q ≠ s0 := by have := hr.lt; omega
  have HR0 := Lib.hid (k0.row hr0 (by simp))
  have HF0 := Lib.hid fun d => (pv_far (tag := 1) (raw := raw) (above := above) h1 (by omega : colors ≤ d + colors))
  have hge := Lib.hid fun i => pv_ge 1 colors raw above i
  have hle := Lib.hid fun i => pv_le 1 colors raw above i
  have HW := Lib.hid hraw
  have HF := Lib.hid hF
  have K0 := Lib.hid k0
  have HP := Lib.hid (And.intro p1 (And.intro p2 p3))
  clear hr hr0 hraw hF k0 hsz
  generalize pv 1 colors raw above = G at *
  go_enter Tryd.func12, Tryd.ntmps12
  go_wp2_with fail
  clear hW0 hs0 p2 p3
  go_loopw [4] (fun i wr => ∃ k : Nat, i = .int .i64 (k : Int) ∧ colors ≤ k ∧ k ≤ size ∧ Hid (wr.rowIs q 5 M (at8 F o k G)) ∧ Hid (Kept [q] W0 wr)) (fun i _ => size - (intOf i).toNat)
  case atStart => exact ⟨colors, rfl, by omega, hcs, HR0, Lib.hid (Kept.refl _ _)⟩
  case round =>
    obtain ⟨k, rfl, hck, hks, HR, HK⟩ := hrel
    have x1 := HK.out.cell HP.out.1 (by simp; omega)
    have x2 := HK.out.cell HP.out.2.1 (by simp; omega)
    have x3 := HK.out.cell HP.out.2.2 (by simp; omega)
    have e1 : IntKind.i64.wrap ((colors : Int) * (columns : Int)) = (size : Int) := by rw [hmul, IntWalk.i64_in _ (by omega)]
    by_cases hlt : k < size
    · have hki : (k : Int) < (size : Int) := by omega
      obtain ⟨d, rfl⟩ : ∃ d, k = d + colors := ⟨k - colors, by omega⟩
      have hcell : wr.cell? ⟨q, o + (d + colors), none⟩ = some (.int .u8 (raw (d + colors))) := by
        rw [HR.out.cell (by omega), at8_out (by omega), HF.out _ hlt]
      have hcell2 : wr.cell? ⟨q, o + d, none⟩ = some (.int .u8 (G d)) := by
        rw [HR.out.cell (by omega), at8_in (by omega)]
      have hfz := HR.out.frozen (o + (d + colors))
      have r0 := HW.out.lo (d + colors)
      have r1 := HW.out.hi (d + colors)
      have g0 := hge.out d
      have g1 := hle.out d
      have hset := HR.out.set (o + (d + colors)) (.int .u8 (G (d + colors)))
      rw [at8_set] at hset
      have HSET := Lib.hid hset
      have hv : Hid ((raw (d + colors) + G d) % 256 = G (d + colors)) := Lib.hid (by
        have := HF0.out d
        rw [Nat.add_sub_cancel] at this
        exact this.symm)
      have e2 : IntKind.i64.wrap (((d + colors : Nat) : Int) - (colors : Int)) = (d : Int) := by rw [IntWalk.i64_in _ (by omega)]; omega
      have hs1 : Hid (∀ (j : Nat) (x : Int) (W : World), wr.cell? ⟨q, o + j, none⟩ = some (.int .u8 x) → W.heap = wr.heap → j < size → 0 ≤ x → x ≤ 255 → Calls Tryd.prog 19 #[.slice (some ⟨q, o, none⟩) size cap, .int .i64 j, .int .i64 8] W fun e w' => e = .returned (.int .i64 x) ∧ ∃ m, w' = W.drewN m) :=
        Lib.hid fun j x W hc hW hj x0 x1 => sample19 q o size cap j x hj (by omega) x0 x1 W (by rw [← hc]; simp [World.cell?, hW])
      have hki2 : (d : Int) + (colors : Int) < (size : Int) := by omega
      have e3 : IntKind.i64.wrap (raw (d + colors) + G d) = raw (d + colors) + G d := IntWalk.i64_in _ (by omega)
      have ha : bits BinOp.and IntKind.i64 (raw (d + colors) + G d) 255 = G (d + colors) := by rw [and255 _ (by omega) (by omega)]; exact hv.out
      have g2 := hge.out (d + colors)
      have g3 := hle.out (d + colors)
      have hput := Lib.hid fun W (hW : W.heap = wr.heap) => put20 q o size cap (d + colors) (raw (d + colors)) (G (d + colors)) hlt (by omega) r0 r1 g2 g3 W (by rw [← hcell]; simp [World.cell?, hW]) (by rw [← hfz]; simp [World.frozen?, hW])
      clear hset
      go_wp2_with fail
      go_quiet ((go_at_call 19; exact Calls.quiet_of (hs1.out _ _ _ (by assumption) rfl (by omega) (by assumption) (by assumption))))
      clear hs1 e1 e2 hcell2
      go_wp2_with fail
      obtain ⟨V, hV⟩ : ∃ V, wr.drewN nq = V := ⟨_, rfl⟩
      rw [hV]
      have y2 : V.cell? ⟨s0, 2, none⟩ = some (.int .i64 8) := by rw [← hV]; exact x2
      have hp2' := hput.out V.drew (by rw [← hV]; rfl)
      rw [Int.natCast_add] at hp2'
      have hp2 := Lib.hid hp2'
      have m1 : IntKind.i64.wrap 256 = 256 := by decide
      have m2 : IntKind.i64.wrap (256 - 1) = 255 := by decide
      have m3 : IntKind.i64.wrap 255 = 255 := by decide
      clear hp2'
      have HV := Lib.hid hV
      clear hput hV
      go_region_with ((go_at_call 20); (with_reducible refine hp2.out.mono ?_); rintro e w2 ⟨rfl, rfl⟩)
      all_goals
        go_wp2_with fail
        go_roundw
        case rel => exact ⟨d + colors + 1, by go_num, by omega, by omega, by rw [← HV.out]; exact Lib.hid HSET.out, by rw [← HV.out]; exact Lib.hid ((((HK.out.drewN _).setCell (by simp) _).drew).drew)⟩
        case measure => simp [intOf]; omega
    · obtain rfl : k = size := by omega
      have hki : ¬ (k : Int) < (k : Int) := by omega
      go_wp2_with fail
      go_end0
      exact ⟨rfl, HR.out, (K0.out.mono (by simp)).trans HK.out⟩
end Go.Proofs.YtmihbmjillcjaaaDoor.up
