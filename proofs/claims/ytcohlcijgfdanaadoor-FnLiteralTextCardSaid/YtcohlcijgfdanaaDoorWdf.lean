/-
  utf16.Encode at the runes of a text.
-/
import Derived.Test.YtcohlcijgfdanaaDoorWde
namespace Go.Proofs.YtcohlcijgfdanaaDoor.wd
open Go.RowKit

/-- The row of the units so far. -/
def rowU (us : List Nat) : Nat → Value := fun j => .int .u16 ((us.getD j 0 : Nat) : Int)
theorem rowU_add (us : List Nat) (u : Nat) : (fun j => if j = us.length then Value.int .u16 (u : Int) else rowU us j) = rowU (us ++ [u]) := by
  funext j
  unfold rowU
  by_cases h : j = us.length
  · subst h
    simp
  · rw [if_neg h]
    by_cases h2 : j < us.length
    · simp only [List.getD_eq_getElem?_getD, List.getElem?_append_left h2]
    · simp only [List.getD_eq_getElem?_getD]
      rw [List.getElem?_eq_none (by omega), List.getElem?_eq_none (by simp; omega)]

theorem unit_lo (c : Nat) (h : c < 65536) : unit c = [c] := by unfold unit; rw [if_pos h]
theorem unit_hi (c : Nat) (h : ¬ c < 65536) : unit c = [55296 + (c - 65536) / 1024, 56320 + (c - 65536) % 1024] := by unfold unit; rw [if_neg h]
theorem units_snoc (cs : List Nat) (c : Nat) : units (cs ++ [c]) = units cs ++ unit c := by simp [units]
theorem units_snoc_le (pre rest : List Nat) (c : Nat) : (units pre).length + (unit c).length ≤ (units (pre ++ c :: rest)).length := by
  rw [units_app, List.length_append]
  have : (units (c :: rest)).length = (unit c).length + (units rest).length := by simp [units]
  omega

theorem slice_all (g N : Nat) (w : World) : (Instr.slice 71 (.slice (some ⟨g, 0, none⟩) N N) none (some (.int .i64 (N : Int))) none).run Tryd.prog w = .ok (.slice (some ⟨g, 0, none⟩) N N) w := by
  simp [go_sem]

set_option maxHeartbeats 2000000 in
set_option maxRecDepth 100000 in
theorem encode65 (cs : List Nat) (hcs : ∀ c ∈ cs, Scal c) (hlen : cs.length ≤ 1000000) (g cap : Nat) (w : World) (hc : ∀ (i c : Nat), cs[i]? = some c → w.cell? ⟨g, i, none⟩ = some (.int .i32 (c : Int))) :
    Calls Tryd.prog 65 #[.slice (some ⟨g, 0, none⟩) cs.length cap] w fun e w' => ∃ g' c', e = .returned (.slice (some ⟨g', 0, none⟩) (units cs).length c') ∧ w'.rowIs g' 74 (units cs).length (rowU (units cs)) ∧ Below w.heap.size w w' := by
  have hN := units_len cs
  have HC := Lib.hid hc
  have HS := Lib.hid hcs
  clear hc hcs
  go_enter Tryd.func65, Tryd.ntmps65
  go_wp2_with fail
  go_loopw [3, 15] (fun n i wr => ∃ pre rest : List Nat, Hid (cs = pre ++ rest) ∧ n = .int .i64 (((units pre).length + rest.length : Nat) : Int) ∧ i = .int .i64 (pre.length : Int) ∧ w = wr) (fun _ i _ => cs.length - (intOf i).toNat)
  case atStart => exact ⟨[], cs, Lib.hid rfl, by simp [units], rfl, rfl⟩
  case round =>
    obtain ⟨pre, rest, hpr, rfl, rfl, rfl⟩ := hrel
    have hln : cs.length = pre.length + rest.length := by rw [hpr.out]; simp
    have hun := units_len pre
    cases rest with
    | cons c rest =>
      simp only [List.length_cons] at hln ⊢
      have hcell : w.cell? ⟨g, pre.length, none⟩ = some (.int .i32 (c : Int)) := HC.out pre.length c (by rw [hpr.out]; simp)
      have hlt : (pre.length : Int) < (cs.length : Int) := by omega
      have hsc : Scal c := HS.out c (by rw [hpr.out]; simp)
      have hul : Hid ((units (pre ++ [c])).length = (units pre).length + (unit c).length) := Lib.hid (by rw [units_snoc, List.length_append])
      have HSC := Lib.hid hsc
      clear hsc
      by_cases h16 : c < 65536
      · have h16' : ¬ (65536 : Int) ≤ (c : Int) := by omega
        have hu1 : Hid ((unit c).length = 1) := Lib.hid (by rw [unit_lo c h16]; rfl)
        clear h16
        go_wp2_with fail
        go_roundw
        case rel => exact ⟨pre ++ [c], rest, Lib.hid (by rw [hpr.out]; simp), by rw [hul.out, hu1.out]; go_num, by simp, trivial⟩
        case measure => simp [intOf]; omega
      · have h16' : (65536 : Int) ≤ (c : Int) := by omega
        have hu1 : Hid ((unit c).length = 2) := Lib.hid (by rw [unit_hi c h16]; rfl)
        clear h16
        go_wp2_with fail
        go_roundw
        case rel => exact ⟨pre ++ [c], rest, Lib.hid (by rw [hpr.out]; simp), by rw [hul.out, hu1.out]; go_num, by simp, trivial⟩
        case measure => simp [intOf]; omega
    | nil =>
      obtain rfl : cs = pre := by rw [hpr.out]; simp
      clear hln
      have hmk : ∀ w : World, (Instr.makeSlice 71 (.int .i64 ((units cs).length : Int)) (.int .i64 ((units cs).length : Int))).run Tryd.prog w = .ok (.slice (some ⟨w.heap.size, 0, none⟩) (units cs).length (units cs).length) (w.alloc (.cells (madeCells #[.int .u16 0] (units cs).length) 74)) := fun w =>
        run_make_row' 71 74 (.int .u16 0) 2 Tryd.underlying71 Go.Proofs.YtcohlcijgfdanaaDoor.u16.infoU16 rfl .i64 .i64 (units cs).length (by omega) (by omega) w
      have hrow0 := Lib.hid (World.rowIs_made w (.int .u16 0) (units cs).length 74)
      have hB0 : Hid (Below w.heap.size w (w.alloc (.cells (madeCells #[.int .u16 0] (units cs).length) 74))) := Lib.hid ((Below.refl _ _).alloc (Nat.le_refl _) _)
      clear hpr
      generalize hNN : (units cs).length = N at *
      have HNN := Lib.hid hNN
      clear hNN
      go_wp2_with fail
      generalize w.alloc (.cells (madeCells #[.int .u16 0] N) 74) = W at *
      have hsl := slice_all w.heap.size N
      go_loopw [3, 28] (fun n i wr => ∃ pre rest : List Nat, Hid (cs = pre ++ rest) ∧ n = .int .i64 ((units pre).length : Int) ∧ i = .int .i64 (pre.length : Int) ∧ Hid (wr.rowIs w.heap.size 74 N (rowU (units pre))) ∧ Hid (Below w.heap.size w wr)) (fun _ i _ => cs.length - (intOf i).toNat)
      case atStart => exact ⟨[], cs, Lib.hid rfl, by simp [units], rfl, Lib.hid (hrow0.out.congr fun i _ => rfl), hB0⟩
      case round =>
        obtain ⟨pre, rest, hpr, rfl, rfl, HR, HB⟩ := hrel
        have hln : cs.length = pre.length + rest.length := by rw [hpr.out]; simp
        cases rest with
        | cons c rest =>
          simp only [List.length_cons] at hln
          have hc0 : w.cell? ⟨g, pre.length, none⟩ = some (.int .i32 (c : Int)) := HC.out pre.length c (by rw [hpr.out]; simp)
          have hcell : wr.cell? ⟨g, pre.length, none⟩ = some (.int .i32 (c : Int)) := (HB.out.cell (World.block_lt_of_cell? _ _ hc0)).trans hc0
          have hlt : (pre.length : Int) < (cs.length : Int) := by omega
          have hsc : Scal c := HS.out c (by rw [hpr.out]; simp)
          have hle := units_snoc_le pre rest c
          rw [← hpr.out, HNN.out] at hle
          have HSC := Lib.hid hsc
          have hrow := HR.out
          have hfz := hrow.frozen (units pre).length
          have hfz1 := hrow.frozen ((units pre).length + 1)
          have hc1 := hrow.cell (i := (units pre).length) (by have := (unit_len c).1; omega)
          have HLN := Lib.hid hln
          clear hc0 hsc hln
          by_cases h16 : c < 65536
          · have hcall := Lib.hid (len90 c HSC.out h16 wr)
            have hu1 := unit_lo c h16
            have h16' : (c : Int) < 65536 := by omega
            have hset := hrow.set (units pre).length (.int .u16 (c : Int))
            rw [rowU_add, ← hu1, ← units_snoc] at hset
            have HSET := Lib.hid hset
            have hul : Hid ((units (pre ++ [c])).length = (units pre).length + 1) := Lib.hid (by rw [units_snoc, List.length_append, hu1]; rfl)
            have hlt2 : (units pre).length < N := by rw [hu1] at hle; exact hle
            have h31 : (0 : Int) ≤ (c : Int) := by omega
            clear hset hrow hle h16 hu1
            generalize (c : Int) = d at *
            go_wp2_with (go_at_call 90; refine hcall.out.mono ?_; rintro e w1 ⟨rfl, rfl⟩)
            go_roundw
            case rel =>
              (repeat apply Exists.intro)
              refine ⟨⟨pre ++ [c], rest, Lib.hid (by rw [hpr.out]; simp), ?ra, ?rb, HSET, Lib.hid (HB.out.setCell (Nat.le_refl _) _)⟩, rfl⟩
              case ra => rw [hul.out]; go_num
              case rb => simp
            case measure =>
              have hln := HLN.out
              simp [intOf]; omega
          · have h16' : (65536 : Int) ≤ (c : Int) := by omega
            have h17 : (c : Int) ≤ 1114111 := by have := HSC.out; unfold Scal at this; omega
            have hcall := Lib.hid (len90_hi c h16' h17 wr)
            have hcall2 := Lib.hid (enc91 c h16' h17 wr)
            have hu1 := unit_hi c h16
            have hx1 : ((55296 + (c - 65536) / 1024 : Nat) : Int) < 65536 := by omega
            have hy1 : ((56320 + (c - 65536) % 1024 : Nat) : Int) < 65536 := by omega
            have hx0 : (0 : Int) ≤ ((55296 + (c - 65536) / 1024 : Nat) : Int) := by omega
            have hy0 : (0 : Int) ≤ ((56320 + (c - 65536) % 1024 : Nat) : Int) := by omega
            generalize 55296 + (c - 65536) / 1024 = x at *
            generalize 56320 + (c - 65536) % 1024 = y at *
            have hset0 := hrow.set (units pre).length (.int .u16 (x : Int))
            rw [rowU_add] at hset0
            have hset := hset0.set (units pre ++ [x]).length (.int .u16 (y : Int))
            rw [rowU_add, List.append_assoc, List.length_append, List.length_singleton, show [x] ++ [y] = unit c by rw [hu1]; rfl, ← units_snoc] at hset
            have HSET := Lib.hid hset
            have hul : Hid ((units (pre ++ [c])).length = (units pre).length + 2) := Lib.hid (by rw [units_snoc, List.length_append, hu1]; rfl)
            have hlt2 : (units pre).length + 1 < N := by rw [hu1] at hle; exact hle
            have hc2 := hrow.cell (i := (units pre).length + 1) hlt2
            clear hset0 hset hrow hle h16 hu1
            generalize (c : Int) = d at *
            generalize (x : Int) = x' at *
            generalize (y : Int) = y' at *
            go_wp2_with (first
              | (go_at_call 90; refine hcall.out.mono ?_; rintro e w1 ⟨rfl, rfl⟩)
              | (go_at_call 91; refine hcall2.out.mono ?_; rintro e w1 ⟨rfl, rfl⟩))
            go_roundw
            case rel =>
              (repeat apply Exists.intro)
              refine ⟨⟨pre ++ [c], rest, Lib.hid (by rw [hpr.out]; simp), ?rc, ?rd, HSET, Lib.hid ((HB.out.setCell (Nat.le_refl _) _).setCell (Nat.le_refl _) _)⟩, rfl⟩
              case rc => rw [hul.out]; go_num
              case rd => simp
            case measure =>
              have hln := HLN.out
              simp [intOf]; omega
        | nil =>
          clear hln
          obtain rfl : cs = pre := by rw [hpr.out]; simp
          have hNN := HNN.out
          subst hNN
          go_wp2_with fail
          go_ret
          exact ⟨_, ⟨_, rfl⟩, HR.out, HB.out⟩
end Go.Proofs.YtcohlcijgfdanaaDoor.wd
