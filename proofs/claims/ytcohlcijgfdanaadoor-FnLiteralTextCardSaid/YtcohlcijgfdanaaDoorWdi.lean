/-
  utf16.Decode at the units of a text.
-/
import Derived.Test.YtcohlcijgfdanaaDoorWdf
namespace Go.Proofs.YtcohlcijgfdanaaDoor.wd
open Go.RowKit

theorem i32_or (a b : Nat) (ha : a < 1024) (hb : b < 1024) : bits .or .i32 ((a : Int) * 1024) (b : Int) = (a : Int) * 1024 + b := by
  have hk : BitVec.ofInt 32 ((a : Int) * 1024) = BitVec.ofNat 32 (a * 1024) := by
    rw [show (a : Int) * 1024 = ((a * 1024 : Nat) : Int) by omega]
    exact BitVec.ofInt_natCast 32 (a * 1024)
  have hk2 : BitVec.ofInt 32 (b : Int) = BitVec.ofNat 32 b := BitVec.ofInt_natCast 32 b
  have key : (BitVec.ofInt 32 ((a : Int) * 1024) ||| BitVec.ofInt 32 (b : Int)).toNat = a * 1024 + b := by
    rw [hk, hk2, BitVec.toNat_or, BitVec.toNat_ofNat, BitVec.toNat_ofNat, Nat.mod_eq_of_lt (by omega), Nat.mod_eq_of_lt (by omega)]
    rw [show a * 1024 = 2 ^ 10 * a by omega, ← Nat.two_pow_add_eq_or_of_lt (i := 10) (b := b) hb a]
  show IntKind.i32.wrap ((BitVec.ofInt 32 ((a : Int) * 1024) ||| BitVec.ofInt 32 (b : Int)).toNat : Nat) = _
  rw [key, IntKind.wrap_i32]
  omega

theorem dec114' (x y z : Int) (e : bits .or .i32 ((x - 55296) * 1024) (y - 56320) = z) (x0 : 55296 ≤ x) (x1 : x < 56320) (y0 : 56320 ≤ y) (y1 : y < 57344) (z0 : 0 ≤ z) (z1 : z < 1048576) (w : World) :
    Calls Tryd.prog 114 #[.int .i32 x, .int .i32 y] w fun e w' => e = .returned (.int .i32 (z + 65536)) ∧ w = w' := by
  go_enter Tryd.func114, Tryd.ntmps114
  go_wp2
  go_ret
  exact ⟨rfl, rfl⟩
theorem dec114 (c : Nat) (h0 : 65536 ≤ c) (h1 : c ≤ 1114111) (w : World) :
    Calls Tryd.prog 114 #[.int .i32 ((55296 + (c - 65536) / 1024 : Nat) : Int), .int .i32 ((56320 + (c - 65536) % 1024 : Nat) : Int)] w fun e w' => e = .returned (.int .i32 (c : Int)) ∧ w = w' := by
  have hz := i32_or ((c - 65536) / 1024) ((c - 65536) % 1024) (by omega) (by omega)
  have hk := dec114' ((55296 + (c - 65536) / 1024 : Nat) : Int) ((56320 + (c - 65536) % 1024 : Nat) : Int) ((c : Int) - 65536) (by
    rw [show ((55296 + (c - 65536) / 1024 : Nat) : Int) - 55296 = (((c - 65536) / 1024 : Nat) : Int) by omega, show ((56320 + (c - 65536) % 1024 : Nat) : Int) - 56320 = (((c - 65536) % 1024 : Nat) : Int) by omega, hz]
    omega) (by omega) (by omega) (by omega) (by omega) (by omega) (by omega) w
  rw [show (c : Int) - 65536 + 65536 = (c : Int) by omega] at hk
  exact hk

def r32 (cs : List Nat) : List Value := cs.map fun (c : Nat) => Value.int .i32 (c : Int)
theorem r32_snoc (cs : List Nat) (c : Nat) : r32 cs ++ [Value.int .i32 (c : Int)] = r32 (cs ++ [c]) := by simp [r32]
theorem units_at (pre rest : List Nat) (c : Nat) (k u : Nat) (h : (unit c)[k]? = some u) : (units (pre ++ c :: rest))[(units pre).length + k]? = some u := by
  rw [units_app, List.getElem?_append_right (by omega)]
  have hk := (List.getElem?_eq_some_iff.1 h).1
  rw [show (units pre).length + k - (units pre).length = k by omega]
  show (List.flatMap unit (c :: rest))[k]? = some u
  rw [List.flatMap_cons, List.getElem?_append_left hk]
  exact h
theorem units_lt_len (pre rest : List Nat) (c : Nat) : (units pre).length + (unit c).length ≤ (units (pre ++ c :: rest)).length := by
  rw [units_app, List.length_append]
  show _ ≤ _ + (List.flatMap unit (c :: rest)).length
  rw [List.flatMap_cons, List.length_append]
  omega

set_option maxHeartbeats 2000000 in
set_option maxRecDepth 100000 in
theorem decode102 (cs : List Nat) (hcs : ∀ c ∈ cs, Scal c) (hlen : cs.length ≤ 1000000) (g cap B : Nat) (v : Value) (w : World) (hc : ∀ (i u : Nat), (units cs)[i]? = some u → w.cell? ⟨g, i, none⟩ = some (.int .u16 (u : Int))) (hg : g < B) (hown : w.ownsRow B 21 1 v 0 []) (hBw : B ≤ w.heap.size) :
    Calls Tryd.prog 102 #[.slice (some ⟨g, 0, none⟩) (units cs).length cap, v] w fun e w' => ∃ v', e = .returned v' ∧ w'.ownsRow B 21 1 v' cs.length (r32 cs) ∧ Below B w w' := by
  obtain ⟨i0, hi, hz0, hz1, hz2⟩ := info_parts Go.Proofs.YtcohlcijgfdanaaDoor.u16.infoI32
  have HC := Lib.hid hc
  have HS := Lib.hid hcs
  have hN := units_len cs
  have HO0 := Lib.hid hown
  clear hc hcs hown
  generalize hNN : (units cs).length = N at *
  have HNN := Lib.hid hNN
  clear hNN
  go_enter Tryd.func102, Tryd.ntmps102
  go_wp2_with fail
  go_loopw [1, 5] (fun v i wr => ∃ pre rest : List Nat, Hid (cs = pre ++ rest) ∧ i = .int .i64 ((units pre).length : Int) ∧ Hid (wr.ownsRow B 21 1 v pre.length (r32 pre)) ∧ Hid (Below B w wr)) (fun _ i _ => N - (intOf i).toNat)
  case atStart => exact ⟨[], cs, Lib.hid rfl, rfl, HO0, Lib.hid (Below.refl _ _)⟩
  case round =>
    obtain ⟨pre, rest, hpr, rfl, HO, HB⟩ := hrel
    cases rest with
    | cons c rest =>
      have hsc : Scal c := HS.out c (by rw [hpr.out]; simp)
      have hle := units_lt_len pre rest c
      rw [← hpr.out, HNN.out] at hle
      have hat : ∀ (k u : Nat), (unit c)[k]? = some u → wr.cell? ⟨g, (units pre).length + k, none⟩ = some (.int .u16 (u : Int)) := fun k u h => (HB.out.cell (p := ⟨g, (units pre).length + k, none⟩) hg).trans (HC.out _ _ (by rw [hpr.out]; exact units_at pre rest c k u h))
      have hul : Hid ((units (pre ++ [c])).length = (units pre).length + (unit c).length) := Lib.hid (by rw [units_snoc, List.length_append])
      have hpl : pre.length < cs.length := by rw [hpr.out]; simp
      have HSC := Lib.hid hsc
      have hsz := HB.out.size
      have hown := HO.out
      clear hsc
      by_cases h16 : c < 65536
      · have hu1 := unit_lo c h16
        have hcell := hat 0 c (by rw [hu1]; rfl)
        rw [Nat.add_zero] at hcell
        rw [hu1] at hle hul
        have hlt : (units pre).length < N := hle
        have hcc : ((c : Int) < 55296 ∧ (c : Int) < 65536) ∨ ((c : Int) < 65536 ∧ 57344 ≤ (c : Int) ∧ ¬ (c : Int) < 55296) := by have := HSC.out; unfold Scal at this; omega
        have h31 : (0 : Int) ≤ (c : Int) := by omega
        have hsn := Lib.hid (r32_snoc pre c)
        clear hat h16 hu1 hle
        generalize (c : Int) = d at *
        rcases hcc with ⟨k1, k2⟩ | ⟨k1, k2, k3⟩
        all_goals
          go_wp2_with (at_builtin; refine wpList_append_own _ rfl _ _ 73 rfl B 21 i0 (.int .i32 0) 1 4 Tryd.underlying73 hi hz0 hz1 hz2 rfl (by decide) _ _ _ rfl (hown.alloc _) ⟨wr.heap.size, 0, none⟩ 1 1 [Value.int .i32 d] rfl rfl (by intro j u' hj; match j, hj with | 0, hj => simp at hj; subst hj; exact Go.Proofs.YtcohlcijgfdanaaDoor.u16.cell_new _ _ _ _ (by simp)) (by intro u' hu'; simp at hu'; subst hu'; rfl) (by unfold maxLen; omega) (by omega) (by simp; omega) ?_; intro v2 w2 hown2 hgrow _; refine Hid.out ?_)
          refine Lib.hid ?_
          rw [hsn.out] at hown2
          have hb2 := (HB.out.alloc (by omega) (.cells #[.int .i32 d] 21)).grown hgrow (by simp; omega) (fun k hk => (hown.lt k hk).1)
          have HO2 := Lib.hid hown2
          have HB2 := Lib.hid hb2
          clear hown2 hb2 hgrow hown hcell
          go_wp2_with fail
          go_roundw
          case rel =>
            refine ⟨pre ++ [c], rest, Lib.hid (by rw [hpr.out]; simp), ?_, by simpa using HO2, HB2⟩
            rw [hul.out]; simp
          case measure => simp [intOf]; omega
      · have hu1 := unit_hi c h16
        have hcm : c ≤ 1114111 := by have := HSC.out; unfold Scal at this; omega
        have hcell := hat 0 (55296 + (c - 65536) / 1024) (by rw [hu1]; rfl)
        have hcell1 := hat 1 (56320 + (c - 65536) % 1024) (by rw [hu1]; rfl)
        rw [Nat.add_zero] at hcell
        rw [hu1] at hle hul
        have hlt : (units pre).length + 1 < N := hle
        have hcall := Lib.hid fun w => dec114 c (by omega) hcm w
        have hsn := Lib.hid (r32_snoc pre c)
        have x0 : (55296 : Int) ≤ ((55296 + (c - 65536) / 1024 : Nat) : Int) := by omega
        have x1 : ((55296 + (c - 65536) / 1024 : Nat) : Int) < 56320 := by omega
        have y0 : (56320 : Int) ≤ ((56320 + (c - 65536) % 1024 : Nat) : Int) := by omega
        have y1 : ((56320 + (c - 65536) % 1024 : Nat) : Int) < 57344 := by omega
        generalize ((55296 + (c - 65536) / 1024 : Nat) : Int) = x at *
        generalize ((56320 + (c - 65536) % 1024 : Nat) : Int) = y at *
        have k0 : ¬ x < 55296 := by omega
        have k1 : ¬ 57344 ≤ x := by omega
        have k2 : x < 65536 := by omega
        have k3 : y < 65536 := by omega
        have k4 : 0 ≤ x := by omega
        have k5 : 0 ≤ y := by omega
        clear hat h16 hu1 hle hcm
        generalize (c : Int) = d at *
        go_wp2_with (first
          | (go_at_call 114; refine (hcall.out _).mono ?_; rintro e w' ⟨rfl, rfl⟩)
          | (at_builtin; refine wpList_append_own _ rfl _ _ 73 rfl B 21 i0 (.int .i32 0) 1 4 Tryd.underlying73 hi hz0 hz1 hz2 rfl (by decide) _ _ _ rfl (hown.alloc _) ⟨wr.heap.size, 0, none⟩ 1 1 [Value.int .i32 d] rfl rfl (by intro j u' hj; match j, hj with | 0, hj => simp at hj; subst hj; exact Go.Proofs.YtcohlcijgfdanaaDoor.u16.cell_new _ _ _ _ (by simp)) (by intro u' hu'; simp at hu'; subst hu'; rfl) (by unfold maxLen; omega) (by omega) (by simp; omega) ?_; intro v2 w2 hown2 hgrow _; refine Hid.out ?_))
        refine Lib.hid ?_
        rw [hsn.out] at hown2
        have hb2 := (HB.out.alloc (by omega) (.cells #[.int .i32 d] 21)).grown hgrow (by simp; omega) (fun k hk => (hown.lt k hk).1)
        have HO2 := Lib.hid hown2
        have HB2 := Lib.hid hb2
        clear hown2 hb2 hgrow hown hcell hcell1
        go_wp2_with fail
        go_roundw
        case rel =>
          refine ⟨pre ++ [c], rest, Lib.hid (by rw [hpr.out]; simp), ?_, by simpa using HO2, HB2⟩
          rw [hul.out]; simp; omega
        case measure => simp [intOf]; omega
    | nil =>
      obtain rfl : cs = pre := by rw [hpr.out]; simp
      have hlt : ¬ (N : Int) < (N : Int) := by omega
      have hNN := HNN.out
      rw [hNN]
      go_wp2_with fail
      go_ret
      exact ⟨_, rfl, HO.out, HB.out⟩

set_option maxHeartbeats 1000000 in
/-- utf16.Decode of the units. -/
theorem decode88 (cs : List Nat) (hcs : ∀ c ∈ cs, Scal c) (hlen : cs.length ≤ 1000000) (g cap : Nat) (w : World) (hg : g < w.heap.size) (hc : ∀ (i u : Nat), (units cs)[i]? = some u → w.cell? ⟨g, i, none⟩ = some (.int .u16 (u : Int))) :
    Calls Tryd.prog 88 #[.slice (some ⟨g, 0, none⟩) (units cs).length cap] w fun e w' => ∃ v', e = .returned v' ∧ w'.ownsRow w.heap.size 21 1 v' cs.length (r32 cs) ∧ Below w.heap.size w w' := by
  obtain ⟨i0, hi, hz0, hz1, hz2⟩ := info_parts Go.Proofs.YtcohlcijgfdanaaDoor.u16.infoI32
  have hmk : ∀ w : World, (Instr.makeSlice 73 (.int .i64 0) (.int .i64 64)).run Tryd.prog w = .ok (.slice (some ⟨w.heap.size, 0, none⟩) 0 64) (w.alloc (.cells (madeCells #[.int .i32 0] 64) 21)) := fun w => by
    have := run_make (P := Tryd.prog) w 73 21 i0 (.int .i32 0) Tryd.underlying73 hi hz0 .i64 .i64 0 64 (by decide) (by decide) (by rw [hz2]; decide) (by decide)
    rw [hz1] at this
    exact this
  obtain ⟨W, hW⟩ : ∃ W, w.alloc (.cells (madeCells #[.int .i32 0] 64) 21) = W := ⟨_, rfl⟩
  have hown : W.ownsRow w.heap.size 21 1 (.slice (some ⟨w.heap.size, 0, none⟩) 0 64) 0 [] := by
    rw [← hW]
    exact World.ownsRow_made w _ 64 (Nat.le_refl _) (by unfold maxLen; omega) (size_madeCells _ _)
  have hB : Below w.heap.size w W := by rw [← hW]; exact (Below.refl _ _).alloc (Nat.le_refl _) _
  have hcl := Lib.hid (decode102 cs hcs hlen g cap w.heap.size (.slice (some ⟨w.heap.size, 0, none⟩) 0 64) W (fun i u h => (hB.cell (p := ⟨g, i, none⟩) hg).trans (hc i u h)) hg hown hB.size)
  have HB := Lib.hid hB
  have HW := Lib.hid hW
  clear hown hB hW hc hcs
  generalize (units cs).length = N at *
  go_enter Tryd.func88, Tryd.ntmps88
  go_wp2_with (go_at_call 102; rw [HW.out]; refine hcl.out.mono ?_; rintro e w1 ⟨v', rfl, ho, hb⟩)
  go_ret
  exact ⟨v', rfl, ho, HB.out.trans hb⟩
end Go.Proofs.YtcohlcijgfdanaaDoor.wd
