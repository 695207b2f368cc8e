/-
  FnLiteralText: types.decodeUTF16String at bytes that are no UTF-16BE.
-/
import Derived.Test.YtcohlcijgfdanaaDoorWdk
namespace Go.Proofs.YtcohlcijgfdanaaDoor.wd
open Go.RowKit

/-- Units that are none of UTF-16: the second half of a pair alone, or the first one. -/
def Bad : List Nat → Prop
  | [] => False
  | u :: r => (56320 ≤ u ∧ u ≤ 57343) ∨ (55296 ≤ u ∧ u < 56320 ∧ match r with
    | [] => True
    | v :: _ => v < 56320 ∨ 57343 < v)

theorem err58 (s : ByteArray) (w : World) : Calls Tryd.prog 58 #[.string s] w fun e w' => (∃ p, e = .returned (.iface 101 p)) ∧ Below w.heap.size w w' := by
  go_enter Tryd.func58, Tryd.ntmps58
  go_wp2_with fail
  go_ret
  exact ⟨⟨_, rfl⟩, (Below.refl _ _).alloc (Nat.le_refl _) _⟩

set_option maxHeartbeats 8000000 in
set_option maxRecDepth 100000 in
theorem decode64e (cs bad : List Nat) (hcs : ∀ c ∈ cs, Scal c) (h57 : ¬ 57344 ∈ cs) (hlen : cs.length ≤ 5000) (hbad : Bad bad) (hbl : bad.length ≤ 10000) (hblt : ∀ u ∈ bad, u < 65536) (g cap : Nat) (hcap : 2 * (units cs ++ bad).length ≤ cap) (hm : cap ≤ maxLen) (w : World) (c0 : w.cell? ⟨g, 0, none⟩ = some (.int .u8 254)) (c1 : w.cell? ⟨g, 1, none⟩ = some (.int .u8 255))
    (hb : ∀ (k u : Nat), (units cs ++ bad)[k]? = some u → w.cell? ⟨g, 2 + 2 * k, none⟩ = some (.int .u8 ((u / 256 : Nat) : Int)) ∧ w.cell? ⟨g, 2 + (2 * k + 1), none⟩ = some (.int .u8 ((u % 256 : Nat) : Int))) :
    Calls Tryd.prog 64 #[.slice (some ⟨g, 0, none⟩) (2 + 2 * (units cs ++ bad).length) (2 + cap)] w fun e w' => (∃ p, e = .returned (.tuple #[.string ⟨#[]⟩, .iface 101 p])) ∧ Below w.heap.size w w' := by
  obtain ⟨i0, hi, hz0, hz1, hz2⟩ := info_parts Go.Proofs.YtcohlcijgfdanaaDoor.u16.infoU16
  obtain ⟨j0, ji, jz0, jz1, jz2⟩ := info_parts Go.Proofs.YtcohlcijgfdanaaDoor.u16.infoU8
  have hul := units_len cs
  have hul2 : (units cs ++ bad).length = (units cs).length + bad.length := List.length_append
  have hg : g < w.heap.size := World.block_lt_of_cell? _ _ c0
  obtain ⟨ab, ao, hsl, hab⟩ := slice_two g (2 * (units cs ++ bad).length) cap hcap hm w
  have HBE := Lib.hid (isBE g (2 + 2 * (units cs ++ bad).length) (2 + cap) (by omega) (by omega) w c0 c1)
  have HS := Lib.hid hcs
  have H57 := Lib.hid h57
  have HBY := Lib.hid hb
  have HBAD := Lib.hid hbad
  have HBLT := Lib.hid hblt
  have HUL2 := Lib.hid hul2
  clear hcs h57 hb c0 c1 hm hcap hbad hblt
  generalize hM : 2 * (units cs ++ bad).length = M at *
  have hM5 : M ≤ 80000 := by omega
  have hmk : ∀ w : World, (Instr.makeSlice 71 (.int .i64 0) (.int .i64 (M : Int))).run Tryd.prog w = .ok (.slice (some ⟨w.heap.size, 0, none⟩) 0 M) (w.alloc (.cells (madeCells #[.int .u16 0] M) 74)) := fun w => by
    have := run_make (P := Tryd.prog) w 71 74 i0 (.int .u16 0) Tryd.underlying71 hi hz0 .i64 .i64 0 (M : Int) (by decide) (by omega) (by rw [hz2]; omega) (by omega)
    rw [hz1] at this
    simp only [Int.toNat_natCast, Nat.mul_one, Int.toNat_zero] at this
    exact this
  have hown0 : Hid ((w.alloc (.cells (madeCells #[.int .u16 0] M) 74)).ownsRow w.heap.size 74 1 (.slice (some ⟨w.heap.size, 0, none⟩) 0 M) 0 []) := Lib.hid (World.ownsRow_made w _ M (Nat.le_refl _) (by unfold maxLen; omega) (by rw [size_madeCells, Nat.mul_one]))
  have hB0 : Hid (Below w.heap.size w (w.alloc (.cells (madeCells #[.int .u16 0] M) 74))) := Lib.hid ((Below.refl _ _).alloc (Nat.le_refl _) _)
  have HM := Lib.hid hM
  clear hM hul hul2 hbl
  go_enter Tryd.func64, Tryd.ntmps64
  go_wp2_with (go_at_call 77; refine HBE.out.mono ?_; rintro e w' ⟨rfl, rfl⟩)
  generalize w.alloc (.cells (madeCells #[.int .u16 0] M) 74) = W0 at *
  go_loopw [4, 5] (fun v i wr => ∃ pre rest : List Nat, Hid (cs = pre ++ rest) ∧ i = .int .i64 ((2 * (units pre).length : Nat) : Int) ∧ Hid (wr.ownsRow w.heap.size 74 1 v (units pre).length (r16 (units pre))) ∧ Hid (v ≠ .slice none 0 0) ∧ Hid (Below w.heap.size w wr)) (fun _ i _ => M - (intOf i).toNat)
  case atStart => exact ⟨[], cs, Lib.hid rfl, rfl, hown0, Lib.hid (by simp), hB0⟩
  case round =>
    obtain ⟨pre, rest, hpr, rfl, HO, HN, HB⟩ := hrel
    cases rest with
    | cons c rest =>
      have hsc : Scal c := HS.out c (by rw [hpr.out]; simp)
      have hne : c ≠ 57344 := fun e => H57.out (by rw [hpr.out, ← e]; simp)
      have hle := units_lt_len pre rest c
      rw [← hpr.out] at hle
      have hle2 : 2 * (units pre).length + 2 * (unit c).length ≤ M := by have := HM.out; have := HUL2.out; omega
      have ha := hab (by have := (unit_len c).1; omega)
      have hat : ∀ (k u : Nat), (unit c)[k]? = some u → wr.cell? ⟨ab, ao + 2 * ((units pre).length + k), none⟩ = some (.int .u8 ((u / 256 : Nat) : Int)) ∧ wr.cell? ⟨ab, ao + (2 * ((units pre).length + k) + 1), none⟩ = some (.int .u8 ((u % 256 : Nat) : Int)) := fun k u h => by
        have := HBY.out ((units pre).length + k) u (by
          have h0 := units_at pre rest c k u h
          rw [← hpr.out] at h0
          rw [List.getElem?_append_left (List.getElem?_eq_some_iff.1 h0).1]
          exact h0)
        rw [ha.1, ha.2]
        exact ⟨(HB.out.cell (p := ⟨g, _, none⟩) hg).trans this.1, (HB.out.cell (p := ⟨g, _, none⟩) hg).trans this.2⟩
      have hul : Hid ((units (pre ++ [c])).length = (units pre).length + (unit c).length) := Lib.hid (by rw [units_snoc, List.length_append])
      have HSC := Lib.hid hsc
      have hsz := HB.out.size
      have hown := HO.out
      have hplen : (units pre).length ≤ 40000 := by omega
      clear hsc hle ha
      by_cases h16 : c < 65536
      · have hu1 := unit_lo c h16
        have hcell := (hat 0 c (by rw [hu1]; rfl)).1
        have hcell1 := (hat 0 c (by rw [hu1]; rfl)).2
        rw [Nat.add_zero] at hcell hcell1
        have hn1 : (unit c).length = 1 := by rw [hu1]; rfl
        rw [hn1] at hle2 hul
        have hcc : ((c : Int) ≤ 55295 ∧ (c : Int) ≤ 65535) ∨ (57344 < (c : Int) ∧ (c : Int) ≤ 65535 ∧ ¬ (c : Int) ≤ 55295) := by have := HSC.out; unfold Scal at this; omega
        have hsn : Hid (r16 (units pre) ++ [Value.int .u16 (c : Int)] = r16 (units (pre ++ [c]))) := Lib.hid (by rw [units_snoc, hu1]; exact r16_snoc _ c)
        have e : ((c / 256 : Nat) : Int) * 256 + ((c % 256 : Nat) : Int) = (c : Int) := by omega
        have q0 : (0 : Int) ≤ ((c / 256 : Nat) : Int) := by omega
        have q1 : ((c / 256 : Nat) : Int) ≤ 255 := by omega
        have q2 : (0 : Int) ≤ ((c % 256 : Nat) : Int) := by omega
        have q3 : ((c % 256 : Nat) : Int) ≤ 255 := by omega
        have h31 : (0 : Int) ≤ (c : Int) := by omega
        generalize ((c / 256 : Nat) : Int) = x at *
        generalize ((c % 256 : Nat) : Int) = y at *
        have i0' : 2 * (units pre).length < M := by omega
        have i1' : 2 * (units pre).length + 1 < M := by omega
        generalize hq : 2 * (units pre).length = q at *
        have HQ := Lib.hid hq
        have HPL := Lib.hid hplen
        clear hat h16 hu1 hne hq hplen
        generalize (c : Int) = d at *
        rcases hcc with ⟨k1, k2⟩ | ⟨k1, k2, k3⟩
        all_goals
          go_wp2_with fail
          go_quiet (fail)
          obtain ⟨W1, hW1⟩ : ∃ X, wr.drewN nq = X := ⟨_, rfl⟩
          have hown1 := (show (wr.drewN nq).ownsRow w.heap.size 74 1 _ _ _ from hown)
          rw [hW1] at hown1
          have hB1 : Below w.heap.size w W1 := by rw [← hW1]; exact ⟨HB.out.os, HB.out.tape, HB.out.output, HB.out.size, HB.out.block⟩
          have hs1 := hB1.size
          rw [hW1]
          clear hW1 hcell hcell1 hown
          go_wp2_with (at_builtin; refine wpList_append_own _ rfl _ _ 71 rfl w.heap.size 74 i0 (.int .u16 0) 1 2 Tryd.underlying71 hi hz0 hz1 hz2 rfl (by decide) _ _ _ rfl (hown1.alloc _) ⟨W1.heap.size, 0, none⟩ 1 1 [Value.int .u16 d] rfl rfl (cell_one _ _ _ _ (by simp)) (by intro u' hu'; simp at hu'; subst hu'; rfl) (by have := HPL.out; unfold maxLen; omega) (by have := HPL.out; omega) (by simp; omega) ?_; intro v2 w2 hown2 hgrow hnil; refine Hid.out ?_)
          refine Lib.hid ?_
          rw [hsn.out] at hown2
          have hb2 := (hB1.alloc (by omega) (.cells #[.int .u16 d] 74)).grown hgrow (by simp; omega) (fun k hk => (hown1.lt k hk).1)
          have HO2 := Lib.hid hown2
          have HB2 := Lib.hid hb2
          have HN2 : Hid (v2 ≠ .slice none 0 0) := Lib.hid fun e => HN.out (hnil.1 e).1
          clear hown2 hb2 hgrow hown1 hB1 hnil
          go_wp2_with fail
          go_roundw
          case rel =>
            refine ⟨pre ++ [c], rest, Lib.hid (by rw [hpr.out]; simp), ?_, by rw [hul.out]; exact HO2, HN2, HB2⟩
            show Value.int .i64 _ = Value.int .i64 _
            congr 1
            have := HQ.out
            rw [hul.out]
            omega
          case measure => simp [intOf]; omega
      · have hu1 := unit_hi c h16
        have hcm : c ≤ 1114111 := by have := HSC.out; unfold Scal at this; omega
        have hn1 : (unit c).length = 2 := by rw [hu1]; rfl
        rw [hn1] at hle2 hul
        obtain ⟨U, hU⟩ : ∃ U, U = 55296 + (c - 65536) / 1024 := ⟨_, rfl⟩
        obtain ⟨V, hV⟩ : ∃ V, V = 56320 + (c - 65536) % 1024 := ⟨_, rfl⟩
        rw [← hU, ← hV] at hu1
        have hcA := hat 0 U (by rw [hu1]; rfl)
        have hcB := hat 1 V (by rw [hu1]; rfl)
        rw [Nat.add_zero] at hcA
        rw [Nat.mul_add] at hcB
        have hsn1 : Hid (r16 (units pre) ++ [Value.int .u16 (U : Int)] = r16 (units pre ++ [U])) := Lib.hid (r16_snoc _ U)
        have hsn2 : Hid (r16 (units pre ++ [U]) ++ [Value.int .u16 (V : Int)] = r16 (units (pre ++ [c]))) := Lib.hid (by rw [units_snoc, hu1, r16_snoc, List.append_assoc]; rfl)
        have eU : ((U / 256 : Nat) : Int) * 256 + ((U % 256 : Nat) : Int) = (U : Int) := by omega
        have eV : ((V / 256 : Nat) : Int) * 256 + ((V % 256 : Nat) : Int) = (V : Int) := by omega
        have q0 : (0 : Int) ≤ ((U / 256 : Nat) : Int) := by omega
        have q1 : ((U / 256 : Nat) : Int) ≤ 255 := by omega
        have q2 : (0 : Int) ≤ ((U % 256 : Nat) : Int) := by omega
        have q3 : ((U % 256 : Nat) : Int) ≤ 255 := by omega
        have p0 : (0 : Int) ≤ ((V / 256 : Nat) : Int) := by omega
        have p1 : ((V / 256 : Nat) : Int) ≤ 255 := by omega
        have p2 : (0 : Int) ≤ ((V % 256 : Nat) : Int) := by omega
        have p3 : ((V % 256 : Nat) : Int) ≤ 255 := by omega
        have u0 : ¬ (U : Int) ≤ 55295 := by omega
        have u1 : ¬ 57344 < (U : Int) := by omega
        have u2' : ¬ 56320 ≤ (U : Int) := by omega
        have u3 : (U : Int) ≤ 65535 := by omega
        have u4' : (0 : Int) ≤ (U : Int) := by omega
        have v0 : ¬ (V : Int) < 56320 := by omega
        have v1 : ¬ 57343 < (V : Int) := by omega
        have v3 : (V : Int) ≤ 65535 := by omega
        have v4' : (0 : Int) ≤ (V : Int) := by omega
        generalize ((U / 256 : Nat) : Int) = xa at *
        generalize ((U % 256 : Nat) : Int) = ya at *
        generalize ((V / 256 : Nat) : Int) = xb at *
        generalize ((V % 256 : Nat) : Int) = yb at *
        have i0' : 2 * (units pre).length < M := by omega
        have i1' : 2 * (units pre).length + 1 < M := by omega
        have i2' : 2 * (units pre).length + 2 < M := by omega
        have i3' : 2 * (units pre).length + 3 < M := by omega
        generalize hq : 2 * (units pre).length = q at *
        have i4' : ¬ (M : Int) ≤ (q : Int) + 2 := by omega
        have HQ := Lib.hid hq
        have HPL := Lib.hid hplen
        have hA0 := hcA.1
        have hA1 := hcA.2
        have HCB := Lib.hid hcB
        clear hat h16 hu1 hne hq hplen hcm hU hV hcA hcB
        generalize (U : Int) = d at *
        generalize (V : Int) = e at *
        go_wp2_with fail
        go_quiet (fail)
        obtain ⟨W1, hW1⟩ : ∃ X, wr.drewN nq = X := ⟨_, rfl⟩
        have hown1 := (show (wr.drewN nq).ownsRow w.heap.size 74 1 _ _ _ from hown)
        rw [hW1] at hown1
        have hB1 : Below w.heap.size w W1 := by rw [← hW1]; exact ⟨HB.out.os, HB.out.tape, HB.out.output, HB.out.size, HB.out.block⟩
        have hs1 := hB1.size
        rw [hW1]
        have hB0 := HCB.out.1
        have hB1' := HCB.out.2
        have m0 : W1.cell? ⟨ab, ao + (q + 2), none⟩ = some (.int .u8 xb) := by rw [← hW1]; exact hB0
        have m1 : W1.cell? ⟨ab, ao + (q + 3), none⟩ = some (.int .u8 yb) := by rw [← hW1]; exact hB1'
        have hab' : ab < w.heap.size := by have := hab (by omega); omega
        clear hW1 hA0 hA1 hown hB0 hB1'
        go_wp2_with (at_builtin; refine wpList_append_own _ rfl _ _ 71 rfl w.heap.size 74 i0 (.int .u16 0) 1 2 Tryd.underlying71 hi hz0 hz1 hz2 rfl (by decide) _ _ _ rfl (hown1.alloc _) ⟨W1.heap.size, 0, none⟩ 1 1 [Value.int .u16 d] rfl rfl (cell_one _ _ _ _ (by simp)) (by intro u' hu'; simp at hu'; subst hu'; rfl) (by have := HPL.out; unfold maxLen; omega) (by have := HPL.out; omega) (by simp; omega) ?_; intro v2 w2 hown2 hgrow hnil; refine Hid.out ?_)
        refine Lib.hid ?_
        rw [hsn1.out] at hown2
        have hbb := (Below.refl w.heap.size W1).alloc (by omega) (.cells #[.int .u16 d] 74) |>.grown hgrow (by simp; omega) (fun k hk => (hown1.lt k hk).1)
        have m0 := (hbb.cell (p := ⟨ab, ao + (q + 2), none⟩) hab').trans m0
        have m1 := (hbb.cell (p := ⟨ab, ao + (q + 3), none⟩) hab').trans m1
        have hb2 := Lib.hid (hB1.trans hbb)
        have hs2 := hb2.out.size
        have HN2 : Hid (v2 ≠ .slice none 0 0) := Lib.hid fun e => HN.out (hnil.1 e).1
        clear hgrow hown1 hB1 hnil hbb
        go_wp2_with fail
        go_quiet (fail)
        obtain ⟨W3, hW3⟩ : ∃ X, w2.drewN nq = X := ⟨_, rfl⟩
        have hown3 := (show (w2.drewN nq).ownsRow w.heap.size 74 1 _ _ _ from hown2)
        rw [hW3] at hown3
        have hB3 : Below w.heap.size w W3 := by rw [← hW3]; exact ⟨hb2.out.os, hb2.out.tape, hb2.out.output, hb2.out.size, hb2.out.block⟩
        have hs3 := hB3.size
        rw [hW3]
        clear hW3 m0 m1 hown2
        go_wp2_with (at_builtin; refine wpList_append_own _ rfl _ _ 71 rfl w.heap.size 74 i0 (.int .u16 0) 1 2 Tryd.underlying71 hi hz0 hz1 hz2 rfl (by decide) _ _ _ rfl (hown3.alloc _) ⟨W3.heap.size, 0, none⟩ 1 1 [Value.int .u16 e] rfl rfl (cell_one _ _ _ _ (by simp)) (by intro u' hu'; simp at hu'; subst hu'; rfl) (by have := HPL.out; unfold maxLen; omega) (by have := HPL.out; omega) (by simp; omega) ?_; intro v4 w4 hown4 hgrow hnil; refine Hid.out ?_)
        refine Lib.hid ?_
        rw [hsn2.out] at hown4
        have hb4 := (hB3.alloc (by omega) (.cells #[.int .u16 e] 74)).grown hgrow (by simp; omega) (fun k hk => (hown3.lt k hk).1)
        have HO2 := Lib.hid hown4
        have HB2 := Lib.hid hb4
        have HN4 : Hid (v4 ≠ .slice none 0 0) := Lib.hid fun e => HN2.out (hnil.1 e).1
        clear hown4 hb4 hgrow hown3 hB3 hnil
        go_wp2_with fail
        go_roundw
        case rel =>
          refine ⟨pre ++ [c], rest, Lib.hid (by rw [hpr.out]; simp), ?_, by rw [hul.out]; exact HO2, HN4, HB2⟩
          show Value.int .i64 _ = Value.int .i64 _
          congr 1
          have := HQ.out
          rw [hul.out]
          omega
        case measure => simp [intOf]; omega
    | nil =>
      have hpre : cs = pre := by rw [hpr.out, List.append_nil]
      subst hpre
      obtain ⟨u, r, hbad⟩ : ∃ u r, bad = u :: r := by
        cases bad with
        | nil => exact absurd HBAD.out (by simp [Bad])
        | cons u r => exact ⟨u, r, rfl⟩
      have hB := HBAD.out
      rw [hbad] at hB
      have hM2 : M = 2 * (units cs).length + 2 * (r.length + 1) := by have h2 := HM.out; have h3 := HUL2.out; rw [hbad] at h2 h3; simp only [List.length_cons] at h3; omega
      have hub : u < 65536 := HBLT.out u (by rw [hbad]; simp)
      have ha := hab (by omega)
      have hat : ∀ (k x : Nat), bad[k]? = some x → wr.cell? ⟨ab, ao + 2 * ((units cs).length + k), none⟩ = some (.int .u8 ((x / 256 : Nat) : Int)) ∧ wr.cell? ⟨ab, ao + (2 * ((units cs).length + k) + 1), none⟩ = some (.int .u8 ((x % 256 : Nat) : Int)) := fun k x h => by
        have := HBY.out ((units cs).length + k) x (by rw [List.getElem?_append_right (by omega), Nat.add_sub_cancel_left]; exact h)
        rw [ha.1, ha.2]
        exact ⟨(HB.out.cell (p := ⟨g, _, none⟩) hg).trans this.1, (HB.out.cell (p := ⟨g, _, none⟩) hg).trans this.2⟩
      have hcA := hat 0 u (by rw [hbad]; rfl)
      rw [Nat.add_zero] at hcA
      have hcV : ∀ v t, r = v :: t → _ := fun v t e => hat 1 v (by rw [hbad, e]; rfl)
      have hvb : ∀ v t, r = v :: t → v < 65536 := fun v t e => HBLT.out v (by rw [hbad, e]; simp)
      have hsz := HB.out.size
      have hown := HO.out
      have hplen : (units cs).length ≤ 40000 := by have := hM5; omega
      have hrl : ∀ v t, r = v :: t → 1 ≤ r.length := fun v t e => by rw [e]; simp
      have HA := Lib.hid ha
      have HCV := Lib.hid hcV
      have HVB := Lib.hid hvb
      have hUD : (55296 : Int) ≤ (u : Int) ∧ (u : Int) ≤ 57343 := by
        rcases hB with h | h <;> omega
      have hUB := hUD.1
      have hUE := hUD.2
      have eU : ((u / 256 : Nat) : Int) * 256 + ((u % 256 : Nat) : Int) = (u : Int) := by omega
      have q0 : (0 : Int) ≤ ((u / 256 : Nat) : Int) := by omega
      have q1 : ((u / 256 : Nat) : Int) ≤ 255 := by omega
      have q2 : (0 : Int) ≤ ((u % 256 : Nat) : Int) := by omega
      have q3 : ((u % 256 : Nat) : Int) ≤ 255 := by omega
      have u0 : ¬ (u : Int) ≤ 55295 := by omega
      have u1 : ¬ 57344 < (u : Int) := by omega
      have u3 : (u : Int) ≤ 65535 := by omega
      have u4' : (0 : Int) ≤ (u : Int) := by omega
      have HBB : Hid ((56320 ≤ (u : Int)) ∨ (¬ 56320 ≤ (u : Int) ∧ ∀ v t, r = v :: t → (v : Int) < 56320 ∨ (¬ (v : Int) < 56320 ∧ 57343 < (v : Int)))) := Lib.hid (by
        rcases hB with h | ⟨h1, h2, h3⟩
        · exact .inl (by omega)
        · refine .inr ⟨by omega, fun v t e => ?_⟩
          rw [e] at h3
          have h3' : v < 56320 ∨ 57343 < v := h3
          omega)
      have i0' : 2 * (units cs).length < M := by omega
      have i1' : 2 * (units cs).length + 1 < M := by omega
      have HP := Lib.hid hplen
      have HR := Lib.hid hrl
      have HM2 := Lib.hid hM2
      have HBD := Lib.hid hbad
      clear hat hcV hvb hplen ha hB hub hrl hUD hM2 hbad
      have HCA := Lib.hid hcA.2
      have hcell := hcA.1
      have hcell1 := hcA.2
      clear hcA
      generalize hq : 2 * (units cs).length = q at *
      generalize ((u / 256 : Nat) : Int) = x at *
      generalize ((u % 256 : Nat) : Int) = y at *
      generalize (u : Int) = d at *
      have HQ := Lib.hid hq
      clear hq
      go_wp2_with fail
      go_quiet (fail)
      obtain ⟨W1, hW1⟩ : ∃ X, wr.drewN nq = X := ⟨_, rfl⟩
      have hown1 := (show (wr.drewN nq).ownsRow w.heap.size 74 1 _ _ _ from hown)
      rw [hW1] at hown1
      have hB1 : Below w.heap.size w W1 := by rw [← hW1]; exact ⟨HB.out.os, HB.out.tape, HB.out.output, HB.out.size, HB.out.block⟩
      have hs1 := hB1.size
      have HCV1 : Hid (∀ v t, r = v :: t → W1.cell? ⟨ab, ao + 2 * ((units cs).length + 1), none⟩ = some (.int .u8 ((v / 256 : Nat) : Int)) ∧ W1.cell? ⟨ab, ao + (2 * ((units cs).length + 1) + 1), none⟩ = some (.int .u8 ((v % 256 : Nat) : Int))) := Lib.hid fun v t e => by rw [← hW1]; exact HCV.out v t e
      rw [hW1]
      have HW1 := Lib.hid hW1
      clear hW1 hcell hcell1 hown HCV HCA
      have HB1 := Lib.hid hB1
      clear hB1
      cases r with
      | nil =>
        have hend : (M : Int) ≤ (q : Int) + 2 := by have := HM2.out; simp only [List.length_nil] at this; omega
        go_wp2_with (go_at_call 58; refine (err58 _ _).mono ?_; rintro e w' ⟨⟨p, rfl⟩, hb'⟩; replace hb' := Lib.hid hb')
        exact bodyPost_ret (v := .tuple #[.string ⟨#[]⟩, .iface 101 p]) (by simp [results, Tryd.results64, go_sem]) rfl ⟨⟨_, rfl⟩, HB1.out.trans (hb'.out.mono hs1)⟩
      | cons v t =>
        have hml : 2 * (units cs).length + 4 ≤ M := by have := HM2.out; have := HR.out v t rfl; have := HQ.out; omega
        have hml2 : q + 4 ≤ M := by have := HQ.out; omega
        have hend : ¬ (M : Int) ≤ (q : Int) + 2 := by omega
        rcases HBB.out with hu | ⟨hu, hv⟩
        · go_wp2_with (go_at_call 58; refine (err58 _ _).mono ?_; rintro e w' ⟨⟨p, rfl⟩, hb'⟩; replace hb' := Lib.hid hb')
          exact bodyPost_ret (v := .tuple #[.string ⟨#[]⟩, .iface 101 p]) (by simp [results, Tryd.results64, go_sem]) rfl ⟨⟨_, rfl⟩, HB1.out.trans (hb'.out.mono hs1)⟩
        · have hv1 := HVB.out v t rfl
          have hv2 := hv v t rfl
          have HCVv := HCV1.out v t rfl
          have eq2 : 2 * ((units cs).length + 1) = q + 2 := by have := HQ.out; omega
          rw [eq2] at HCVv
          have HCB := Lib.hid HCVv
          have eV : ((v / 256 : Nat) : Int) * 256 + ((v % 256 : Nat) : Int) = (v : Int) := by omega
          have p0 : (0 : Int) ≤ ((v / 256 : Nat) : Int) := by omega
          have p1 : ((v / 256 : Nat) : Int) ≤ 255 := by omega
          have p2 : (0 : Int) ≤ ((v % 256 : Nat) : Int) := by omega
          have p3 : ((v % 256 : Nat) : Int) ≤ 255 := by omega
          have v3 : (v : Int) ≤ 65535 := by omega
          have v4' : (0 : Int) ≤ (v : Int) := by omega
          have hab' : ab < w.heap.size := by have := HA.out.1; omega
          have i2' : q + 2 < M := by omega
          have i3' : q + 3 < M := by omega
          have m0 := HCB.out.1
          have m1 := HCB.out.2
          have HV := Lib.hid hv
          have HPL := HP
          clear hv eq2 HCVv HCB hml hv1 HCV1
          generalize ((v / 256 : Nat) : Int) = xb at *
          generalize ((v % 256 : Nat) : Int) = yb at *
          generalize (v : Int) = e at *
          have hB1 := HB1.out
          go_wp2_with (at_builtin; refine wpList_append_own _ rfl _ _ 71 rfl w.heap.size 74 i0 (.int .u16 0) 1 2 Tryd.underlying71 hi hz0 hz1 hz2 rfl (by decide) _ _ _ rfl (hown1.alloc _) ⟨W1.heap.size, 0, none⟩ 1 1 [Value.int .u16 d] rfl rfl (cell_one _ _ _ _ (by simp)) (by intro u' hu'; simp at hu'; subst hu'; rfl) (by have := HPL.out; unfold maxLen; omega) (by have := HPL.out; omega) (by simp; omega) ?_; intro v2 w2 hown2 hgrow hnil; refine Hid.out ?_)
          refine Lib.hid ?_
          have hbb := (Below.refl w.heap.size W1).alloc (by omega) (.cells #[.int .u16 d] 74) |>.grown hgrow (by simp; omega) (fun k hk => (hown1.lt k hk).1)
          have m0 := (hbb.cell (p := ⟨ab, ao + (q + 2), none⟩) hab').trans m0
          have m1 := (hbb.cell (p := ⟨ab, ao + (q + 3), none⟩) hab').trans m1
          have hb2 := Lib.hid (hB1.trans hbb)
          have hs2 := hb2.out.size
          clear hgrow hown1 hB1 hnil hbb hown2
          go_wp2_with fail
          go_quiet (fail)
          obtain ⟨W3, hW3⟩ : ∃ X, w2.drewN nq = X := ⟨_, rfl⟩
          have hB3 : Below w.heap.size w W3 := by rw [← hW3]; exact ⟨hb2.out.os, hb2.out.tape, hb2.out.output, hb2.out.size, hb2.out.block⟩
          have hs3 := hB3.size
          rw [hW3]
          have HB3 := Lib.hid hB3
          clear hW3 m0 m1 hB3
          rcases hv2 with hv2 | ⟨hv2, hv2'⟩
          all_goals
            go_wp2_with (go_at_call 58; refine (err58 _ _).mono ?_; rintro e w' ⟨⟨p, rfl⟩, hb'⟩; replace hb' := Lib.hid hb')
            exact bodyPost_ret (v := .tuple #[.string ⟨#[]⟩, .iface 101 p]) (by simp [results, Tryd.results64, go_sem]) rfl ⟨⟨_, rfl⟩, HB3.out.trans (hb'.out.mono hs3)⟩
end Go.Proofs.YtcohlcijgfdanaaDoor.wd
