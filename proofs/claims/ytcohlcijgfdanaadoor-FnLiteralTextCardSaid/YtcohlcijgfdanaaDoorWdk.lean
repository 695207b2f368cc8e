/-
  types.decodeUTF16String at the bytes of a text.
-/
import Derived.Test.YtcohlcijgfdanaaDoorWdj
import Derived.Test.YtcohlcijgfdanaaDoorShelfL
namespace Go.Proofs.YtcohlcijgfdanaaDoor.wd
open Go.RowKit

def r16 (us : List Nat) : List Value := us.map fun (u : Nat) => Value.int .u16 (u : Int)
theorem r16_snoc (us : List Nat) (u : Nat) : r16 us ++ [Value.int .u16 (u : Int)] = r16 (us ++ [u]) := by simp [r16]
def encs (cs : List Nat) : List UInt8 := cs.flatMap fun (c : Nat) => Lib.encodeRune (c : Int)
theorem encs_snoc (cs : List Nat) (c : Nat) : encs cs ++ Lib.encodeRune (c : Int) = encs (cs ++ [c]) := by simp [encs]
theorem encs_len (cs : List Nat) : (encs cs).length ≤ 4 * cs.length := by
  induction cs with
  | nil => simp [encs]
  | cons c cs ih =>
    have h1 := (encodeRune_len (c : Int)).2
    have h2 : (encs (c :: cs)).length = (Lib.encodeRune (c : Int)).length + (encs cs).length := by simp [encs]
    rw [h2, List.length_cons]
    omega

theorem cell_one (W : World) (x : Value) (t : TypeId) (k : Nat) (hk : k = W.heap.size) : ∀ j u, [x][j]? = some u → (W.alloc (.cells #[x] t)).cell? ((⟨k, 0, none⟩ : Addr).add j) = some u := by
  subst hk
  intro j u hj
  match j, hj with
  | 0, hj => simp at hj; subst hj; simp [Addr.add]
  | (j + 1), hj => simp at hj

theorem isSome_setCells' (b : Nat) : ∀ (vs : List Value) (o : Nat) (w : World) (x : Addr), (w.cell? x).isSome = true → ((w.setCells b o vs).cell? x).isSome = true
  | [], _, _, _, h => h
  | v :: r, o, w, x, h => by
    rw [World.setCells]
    refine isSome_setCells' b r (o + 1) _ x ?_
    by_cases e : (⟨b, o, none⟩ : Addr) = x
    · subst e
      obtain ⟨u, hu⟩ := Option.isSome_iff_exists.1 h
      have := World.cell?_setCell_same w ⟨b, o, none⟩ v hu
      simp [go_sem, hu]
    · rw [World.cell?_setCell_other _ _ _ _ (fun h => e h)]
      exact h

set_option maxHeartbeats 8000000 in
set_option maxRecDepth 100000 in
theorem decode64 (cs : List Nat) (hcs : ∀ c ∈ cs, Scal c) (h57 : ¬ 57344 ∈ cs) (hlen : cs.length ≤ 5000) (g cap : Nat) (hcap : 2 * (units cs).length ≤ cap) (hm : cap ≤ maxLen) (w : World) (c0 : w.cell? ⟨g, 0, none⟩ = some (.int .u8 254)) (c1 : w.cell? ⟨g, 1, none⟩ = some (.int .u8 255))
    (hb : ∀ (k u : Nat), (units cs)[k]? = some u → w.cell? ⟨g, 2 + 2 * k, none⟩ = some (.int .u8 ((u / 256 : Nat) : Int)) ∧ w.cell? ⟨g, 2 + (2 * k + 1), none⟩ = some (.int .u8 ((u % 256 : Nat) : Int))) :
    Calls Tryd.prog 64 #[.slice (some ⟨g, 0, none⟩) (2 + 2 * (units cs).length) (2 + cap)] w fun e w' => e = .returned (.tuple #[.string ⟨(encs cs).toArray⟩, .nilIface]) ∧ Below w.heap.size w w' := by
  obtain ⟨i0, hi, hz0, hz1, hz2⟩ := info_parts Go.Proofs.YtcohlcijgfdanaaDoor.u16.infoU16
  obtain ⟨j0, ji, jz0, jz1, jz2⟩ := info_parts Go.Proofs.YtcohlcijgfdanaaDoor.u16.infoU8
  have hul := units_len cs
  have hg : g < w.heap.size := World.block_lt_of_cell? _ _ c0
  obtain ⟨ab, ao, hsl, hab⟩ := slice_two g (2 * (units cs).length) cap hcap hm w
  have HBE := Lib.hid (isBE g (2 + 2 * (units cs).length) (2 + cap) (by omega) (by omega) w c0 c1)
  have HS := Lib.hid hcs
  have H57 := Lib.hid h57
  have HBY := Lib.hid hb
  clear hcs h57 hb c0 c1 hm hcap
  generalize hM : 2 * (units cs).length = M at *
  have hM5 : M ≤ 40000 := by omega
  have hmk : ∀ w : World, (Instr.makeSlice 71 (.int .i64 0) (.int .i64 (M : Int))).run Tryd.prog w = .ok (.slice (some ⟨w.heap.size, 0, none⟩) 0 M) (w.alloc (.cells (madeCells #[.int .u16 0] M) 74)) := fun w => by
    have := run_make (P := Tryd.prog) w 71 74 i0 (.int .u16 0) Tryd.underlying71 hi hz0 .i64 .i64 0 (M : Int) (by decide) (by omega) (by rw [hz2]; omega) (by omega)
    rw [hz1] at this
    simp only [Int.toNat_natCast, Nat.mul_one, Int.toNat_zero] at this
    exact this
  have hown0 : Hid ((w.alloc (.cells (madeCells #[.int .u16 0] M) 74)).ownsRow w.heap.size 74 1 (.slice (some ⟨w.heap.size, 0, none⟩) 0 M) 0 []) := Lib.hid (World.ownsRow_made w _ M (Nat.le_refl _) (by unfold maxLen; omega) (by rw [size_madeCells, Nat.mul_one]))
  have hB0 : Hid (Below w.heap.size w (w.alloc (.cells (madeCells #[.int .u16 0] M) 74))) := Lib.hid ((Below.refl _ _).alloc (Nat.le_refl _) _)
  have HM := Lib.hid hM
  clear hM hul
  go_enter Tryd.func64, Tryd.ntmps64
  go_wp2_with (go_at_call 77; refine HBE.out.mono ?_; rintro e w' ⟨rfl, rfl⟩)
  generalize w.alloc (.cells (madeCells #[.int .u16 0] M) 74) = W0 at *
  go_loopw [4, 5] (fun v i wr => ∃ pre rest : List Nat, Hid (cs = pre ++ rest) ∧ i = .int .i64 ((2 * (units pre).length : Nat) : Int) ∧ Hid (wr.ownsRow w.heap.size 74 1 v (units pre).length (r16 (units pre))) ∧ Hid (v ≠ .slice none 0 0) ∧ Hid (Below w.heap.size w wr)) (fun _ i _ => M - (intOf i).toNat)
  case atStart => exact ⟨[], cs, Lib.hid rfl, rfl, hown0, Lib.hid (by simp), hB0⟩
  case round =>
    obtain ⟨pre, rest, hpr, rfl, HO, HN, HB⟩ := hrel
    cases rest with
    | cons c rest =>
      have hsc : Scal c := HS.out c (by rw [hpr.out]; simp)
      have hne : c ≠ 57344 := fun e => H57.out (by rw [hpr.out, ← e]; simp)
      have hle := units_lt_len pre rest c
      rw [← hpr.out] at hle
      have hle2 : 2 * (units pre).length + 2 * (unit c).length ≤ M := by have := HM.out; omega
      have ha := hab (by have := (unit_len c).1; omega)
      have hat : ∀ (k u : Nat), (unit c)[k]? = some u → wr.cell? ⟨ab, ao + 2 * ((units pre).length + k), none⟩ = some (.int .u8 ((u / 256 : Nat) : Int)) ∧ wr.cell? ⟨ab, ao + (2 * ((units pre).length + k) + 1), none⟩ = some (.int .u8 ((u % 256 : Nat) : Int)) := fun k u h => by
        have := HBY.out _ _ (by rw [hpr.out]; exact units_at pre rest c k u h)
        rw [ha.1, ha.2]
        exact ⟨(HB.out.cell (p := ⟨g, _, none⟩) hg).trans this.1, (HB.out.cell (p := ⟨g, _, none⟩) hg).trans this.2⟩
      have hul : Hid ((units (pre ++ [c])).length = (units pre).length + (unit c).length) := Lib.hid (by rw [units_snoc, List.length_append])
      have HSC := Lib.hid hsc
      have hsz := HB.out.size
      have hown := HO.out
      have hplen : (units pre).length ≤ 20000 := by omega
      clear hsc hle ha
      by_cases h16 : c < 65536
      · have hu1 := unit_lo c h16
        have hcell := (hat 0 c (by rw [hu1]; rfl)).1
        have hcell1 := (hat 0 c (by rw [hu1]; rfl)).2
        rw [Nat.add_zero] at hcell hcell1
        have hn1 : (unit c).length = 1 := by rw [hu1]; rfl
        rw [hn1] at hle2 hul
        have hcc : ((c : Int) ≤ 55295 ∧ (c : Int) ≤ 65535) ∨ (57344 < (c : Int) ∧ (c : Int) ≤ 65535 ∧ ¬ (c : Int) ≤ 55295) := by have := HSC.out; unfold Scal at this; omega
        have hsn : Hid (r16 (units pre) ++ [Value.int .u16 (c : Int)] = r16 (units (pre ++ [c]))) := Lib.hid (by rw [units_snoc, hu1]; exact r16_snoc _ c)
        have e : ((c / 256 : Nat) : Int) * 256 + ((c % 256 : Nat) : Int) = (c : Int) := by omega
        have q0 : (0 : Int) ≤ ((c / 256 : Nat) : Int) := by omega
        have q1 : ((c / 256 : Nat) : Int) ≤ 255 := by omega
        have q2 : (0 : Int) ≤ ((c % 256 : Nat) : Int) := by omega
        have q3 : ((c % 256 : Nat) : Int) ≤ 255 := by omega
        have h31 : (0 : Int) ≤ (c : Int) := by omega
        generalize ((c / 256 : Nat) : Int) = x at *
        generalize ((c % 256 : Nat) : Int) = y at *
        have i0' : 2 * (units pre).length < M := by omega
        have i1' : 2 * (units pre).length + 1 < M := by omega
        generalize hq : 2 * (units pre).length = q at *
        have HQ := Lib.hid hq
        have HPL := Lib.hid hplen
        clear hat h16 hu1 hne hq hplen
        generalize (c : Int) = d at *
        rcases hcc with ⟨k1, k2⟩ | ⟨k1, k2, k3⟩
        all_goals
          go_wp2_with fail
          go_quiet (fail)
          obtain ⟨W1, hW1⟩ : ∃ X, wr.drewN nq = X := ⟨_, rfl⟩
          have hown1 := (show (wr.drewN nq).ownsRow w.heap.size 74 1 _ _ _ from hown)
          rw [hW1] at hown1
          have hB1 : Below w.heap.size w W1 := by rw [← hW1]; exact ⟨HB.out.os, HB.out.tape, HB.out.output, HB.out.size, HB.out.block⟩
          have hs1 := hB1.size
          rw [hW1]
          clear hW1 hcell hcell1 hown
          go_wp2_with (at_builtin; refine wpList_append_own _ rfl _ _ 71 rfl w.heap.size 74 i0 (.int .u16 0) 1 2 Tryd.underlying71 hi hz0 hz1 hz2 rfl (by decide) _ _ _ rfl (hown1.alloc _) ⟨W1.heap.size, 0, none⟩ 1 1 [Value.int .u16 d] rfl rfl (cell_one _ _ _ _ (by simp)) (by intro u' hu'; simp at hu'; subst hu'; rfl) (by have := HPL.out; unfold maxLen; omega) (by have := HPL.out; omega) (by simp; omega) ?_; intro v2 w2 hown2 hgrow hnil; refine Hid.out ?_)
          refine Lib.hid ?_
          rw [hsn.out] at hown2
          have hb2 := (hB1.alloc (by omega) (.cells #[.int .u16 d] 74)).grown hgrow (by simp; omega) (fun k hk => (hown1.lt k hk).1)
          have HO2 := Lib.hid hown2
          have HB2 := Lib.hid hb2
          have HN2 : Hid (v2 ≠ .slice none 0 0) := Lib.hid fun e => HN.out (hnil.1 e).1
          clear hown2 hb2 hgrow hown1 hB1 hnil
          go_wp2_with fail
          go_roundw
          case rel =>
            refine ⟨pre ++ [c], rest, Lib.hid (by rw [hpr.out]; simp), ?_, by rw [hul.out]; exact HO2, HN2, HB2⟩
            show Value.int .i64 _ = Value.int .i64 _
            congr 1
            have := HQ.out
            rw [hul.out]
            omega
          case measure => simp [intOf]; omega
      · have hu1 := unit_hi c h16
        have hcm : c ≤ 1114111 := by have := HSC.out; unfold Scal at this; omega
        have hn1 : (unit c).length = 2 := by rw [hu1]; rfl
        rw [hn1] at hle2 hul
        obtain ⟨U, hU⟩ : ∃ U, U = 55296 + (c - 65536) / 1024 := ⟨_, rfl⟩
        obtain ⟨V, hV⟩ : ∃ V, V = 56320 + (c - 65536) % 1024 := ⟨_, rfl⟩
        rw [← hU, ← hV] at hu1
        have hcA := hat 0 U (by rw [hu1]; rfl)
        have hcB := hat 1 V (by rw [hu1]; rfl)
        rw [Nat.add_zero] at hcA
        rw [Nat.mul_add] at hcB
        have hsn1 : Hid (r16 (units pre) ++ [Value.int .u16 (U : Int)] = r16 (units pre ++ [U])) := Lib.hid (r16_snoc _ U)
        have hsn2 : Hid (r16 (units pre ++ [U]) ++ [Value.int .u16 (V : Int)] = r16 (units (pre ++ [c]))) := Lib.hid (by rw [units_snoc, hu1, r16_snoc, List.append_assoc]; rfl)
        have eU : ((U / 256 : Nat) : Int) * 256 + ((U % 256 : Nat) : Int) = (U : Int) := by omega
        have eV : ((V / 256 : Nat) : Int) * 256 + ((V % 256 : Nat) : Int) = (V : Int) := by omega
        have q0 : (0 : Int) ≤ ((U / 256 : Nat) : Int) := by omega
        have q1 : ((U / 256 : Nat) : Int) ≤ 255 := by omega
        have q2 : (0 : Int) ≤ ((U % 256 : Nat) : Int) := by omega
        have q3 : ((U % 256 : Nat) : Int) ≤ 255 := by omega
        have p0 : (0 : Int) ≤ ((V / 256 : Nat) : Int) := by omega
        have p1 : ((V / 256 : Nat) : Int) ≤ 255 := by omega
        have p2 : (0 : Int) ≤ ((V % 256 : Nat) : Int) := by omega
        have p3 : ((V % 256 : Nat) : Int) ≤ 255 := by omega
        have u0 : ¬ (U : Int) ≤ 55295 := by omega
        have u1 : ¬ 57344 < (U : Int) := by omega
        have u2' : ¬ 56320 ≤ (U : Int) := by omega
        have u3 : (U : Int) ≤ 65535 := by omega
        have u4' : (0 : Int) ≤ (U : Int) := by omega
        have v0 : ¬ (V : Int) < 56320 := by omega
        have v1 : ¬ 57343 < (V : Int) := by omega
        have v3 : (V : Int) ≤ 65535 := by omega
        have v4' : (0 : Int) ≤ (V : Int) := by omega
        generalize ((U / 256 : Nat) : Int) = xa at *
        generalize ((U % 256 : Nat) : Int) = ya at *
        generalize ((V / 256 : Nat) : Int) = xb at *
        generalize ((V % 256 : Nat) : Int) = yb at *
        have i0' : 2 * (units pre).length < M := by omega
        have i1' : 2 * (units pre).length + 1 < M := by omega
        have i2' : 2 * (units pre).length + 2 < M := by omega
        have i3' : 2 * (units pre).length + 3 < M := by omega
        generalize hq : 2 * (units pre).length = q at *
        have i4' : ¬ (M : Int) ≤ (q : Int) + 2 := by omega
        have HQ := Lib.hid hq
        have HPL := Lib.hid hplen
        have hA0 := hcA.1
        have hA1 := hcA.2
        have HCB := Lib.hid hcB
        clear hat h16 hu1 hne hq hplen hcm hU hV hcA hcB
        generalize (U : Int) = d at *
        generalize (V : Int) = e at *
        go_wp2_with fail
        go_quiet (fail)
        obtain ⟨W1, hW1⟩ : ∃ X, wr.drewN nq = X := ⟨_, rfl⟩
        have hown1 := (show (wr.drewN nq).ownsRow w.heap.size 74 1 _ _ _ from hown)
        rw [hW1] at hown1
        have hB1 : Below w.heap.size w W1 := by rw [← hW1]; exact ⟨HB.out.os, HB.out.tape, HB.out.output, HB.out.size, HB.out.block⟩
        have hs1 := hB1.size
        rw [hW1]
        have hB0 := HCB.out.1
        have hB1' := HCB.out.2
        have m0 : W1.cell? ⟨ab, ao + (q + 2), none⟩ = some (.int .u8 xb) := by rw [← hW1]; exact hB0
        have m1 : W1.cell? ⟨ab, ao + (q + 3), none⟩ = some (.int .u8 yb) := by rw [← hW1]; exact hB1'
        have hab' : ab < w.heap.size := by have := hab (by omega); omega
        clear hW1 hA0 hA1 hown hB0 hB1'
        go_wp2_with (at_builtin; refine wpList_append_own _ rfl _ _ 71 rfl w.heap.size 74 i0 (.int .u16 0) 1 2 Tryd.underlying71 hi hz0 hz1 hz2 rfl (by decide) _ _ _ rfl (hown1.alloc _) ⟨W1.heap.size, 0, none⟩ 1 1 [Value.int .u16 d] rfl rfl (cell_one _ _ _ _ (by simp)) (by intro u' hu'; simp at hu'; subst hu'; rfl) (by have := HPL.out; unfold maxLen; omega) (by have := HPL.out; omega) (by simp; omega) ?_; intro v2 w2 hown2 hgrow hnil; refine Hid.out ?_)
        refine Lib.hid ?_
        rw [hsn1.out] at hown2
        have hbb := (Below.refl w.heap.size W1).alloc (by omega) (.cells #[.int .u16 d] 74) |>.grown hgrow (by simp; omega) (fun k hk => (hown1.lt k hk).1)
        have m0 := (hbb.cell (p := ⟨ab, ao + (q + 2), none⟩) hab').trans m0
        have m1 := (hbb.cell (p := ⟨ab, ao + (q + 3), none⟩) hab').trans m1
        have hb2 := Lib.hid (hB1.trans hbb)
        have hs2 := hb2.out.size
        have HN2 : Hid (v2 ≠ .slice none 0 0) := Lib.hid fun e => HN.out (hnil.1 e).1
        clear hgrow hown1 hB1 hnil hbb
        go_wp2_with fail
        go_quiet (fail)
        obtain ⟨W3, hW3⟩ : ∃ X, w2.drewN nq = X := ⟨_, rfl⟩
        have hown3 := (show (w2.drewN nq).ownsRow w.heap.size 74 1 _ _ _ from hown2)
        rw [hW3] at hown3
        have hB3 : Below w.heap.size w W3 := by rw [← hW3]; exact ⟨hb2.out.os, hb2.out.tape, hb2.out.output, hb2.out.size, hb2.out.block⟩
        have hs3 := hB3.size
        rw [hW3]
        clear hW3 m0 m1 hown2
        go_wp2_with (at_builtin; refine wpList_append_own _ rfl _ _ 71 rfl w.heap.size 74 i0 (.int .u16 0) 1 2 Tryd.underlying71 hi hz0 hz1 hz2 rfl (by decide) _ _ _ rfl (hown3.alloc _) ⟨W3.heap.size, 0, none⟩ 1 1 [Value.int .u16 e] rfl rfl (cell_one _ _ _ _ (by simp)) (by intro u' hu'; simp at hu'; subst hu'; rfl) (by have := HPL.out; unfold maxLen; omega) (by have := HPL.out; omega) (by simp; omega) ?_; intro v4 w4 hown4 hgrow hnil; refine Hid.out ?_)
        refine Lib.hid ?_
        rw [hsn2.out] at hown4
        have hb4 := (hB3.alloc (by omega) (.cells #[.int .u16 e] 74)).grown hgrow (by simp; omega) (fun k hk => (hown3.lt k hk).1)
        have HO2 := Lib.hid hown4
        have HB2 := Lib.hid hb4
        have HN4 : Hid (v4 ≠ .slice none 0 0) := Lib.hid fun e => HN2.out (hnil.1 e).1
        clear hown4 hb4 hgrow hown3 hB3 hnil
        go_wp2_with fail
        go_roundw
        case rel =>
          refine ⟨pre ++ [c], rest, Lib.hid (by rw [hpr.out]; simp), ?_, by rw [hul.out]; exact HO2, HN4, HB2⟩
          show Value.int .i64 _ = Value.int .i64 _
          congr 1
          have := HQ.out
          rw [hul.out]
          omega
        case measure => simp [intOf]; omega
    | nil =>
      obtain rfl : cs = pre := by rw [hpr.out]; simp
      obtain ⟨wo, rfl⟩ : ∃ wo : World, wo = wr := ⟨_, rfl⟩
      have hown := HO.out
      have hsz := HB.out.size
      rcases hown.2 with ⟨hv, _⟩ | ⟨g4, cap4, cur4, rfl, hg4, -, -, -, -, -⟩
      · exact absurd hv HN.out
      have hus : ∀ (i u : Nat), (units cs)[i]? = some u → wo.cell? ⟨g4, i, none⟩ = some (.int .u16 (u : Int)) := fun i u h => by
        have := hown.cells (g := g4) rfl i (.int .u16 (u : Int)) (by unfold r16; rw [List.getElem?_map, h]; rfl)
        rw [Addr.add_lit, Nat.zero_add] at this
        exact this
      have hg4' : g4 < wo.heap.size := (hown.lt g4 rfl).2
      obtain ⟨W5, hW5⟩ : ∃ X, (wo.alloc (.cells #[] 5)).alloc (.cells (madeCells #[.int .u8 0] 4) 5) = X := ⟨_, rfl⟩
      have hb5 : Below wo.heap.size wo W5 := by rw [← hW5]; exact ((Below.refl _ _).alloc (Nat.le_refl _) _).alloc (by simp) _
      have hrow5 : W5.rowIs (wo.heap.size + 1) 5 4 (fun _ => .int .u8 0) := by
        rw [← hW5]
        have := World.rowIs_made (wo.alloc (.cells #[] 5)) (.int .u8 0) 4 5
        simpa using this
      have hc88 := Lib.hid (decode88 cs HS.out (by omega) g4 cap4 W5 (by have := hb5.size; omega) (fun i u h => (hb5.cell (p := ⟨g4, i, none⟩) hg4').trans (hus i u h)))
      have hmk2 : ∀ w : World, (Instr.makeSlice 29 (.int .i64 4) (.int .i64 4)).run Tryd.prog w = .ok (.slice (some ⟨w.heap.size, 0, none⟩) 4 4) (w.alloc (.cells (madeCells #[.int .u8 0] 4) 5)) := fun w => by
        have := run_make (P := Tryd.prog) w 29 5 j0 (.int .u8 0) Tryd.underlying29 ji jz0 .i64 .i64 4 4 (by decide) (by decide) (by rw [jz2]; decide) (by decide)
        rw [jz1] at this
        exact this
      have HB5 := Lib.hid (HB.out.trans (hb5.mono hsz))
      have HW5 := Lib.hid hW5
      have hbb5 := hrow5.lt
      have HROW5 := Lib.hid hrow5
      have hM := HM.out
      have hlt : ¬ (M : Int) < (M : Int) := by omega
      rw [hM]
      clear hus hown hb5 hrow5 hW5 hM
      generalize hNN : (units cs).length = NN at *
      go_wp2_with (go_at_call 88; rw [HW5.out]; refine hc88.out.mono ?_; rintro e w6 ⟨vr, rfl, hor, hb6⟩; refine Hid.out ?_)
      refine Lib.hid ?_
      have hbb6 : wo.heap.size + 1 < w6.heap.size := Nat.lt_of_lt_of_le hbb5 hb6.size
      have HTH : Hid (∀ j, j < 4 → (w6.cell? ⟨wo.heap.size + 1, 0 + j, none⟩).isSome = true ∧ w6.frozen? ⟨wo.heap.size + 1, 0 + j, none⟩ = false) := Lib.hid fun j hj => by
        rw [hb6.cell (p := ⟨wo.heap.size + 1, 0 + j, none⟩) hbb5, hb6.frozen (p := ⟨wo.heap.size + 1, 0 + j, none⟩) hbb5]
        exact ⟨by rw [HROW5.out.cell (by omega)]; rfl, HROW5.out.frozen _⟩
      obtain ⟨br, capr, hvr, hcr⟩ : ∃ br capr, vr = .slice br cs.length capr ∧ ∀ (j c : Nat), cs[j]? = some c → ∃ gr, br = some ⟨gr, 0, none⟩ ∧ wo.heap.size + 1 < gr ∧ gr < w6.heap.size ∧ w6.cell? ⟨gr, j, none⟩ = some (.int .i32 (c : Int)) := by
        rcases hor.2 with ⟨h1, h2⟩ | ⟨gr, capr, curr, rfl, hgr, -, -, -, -, -⟩
        · refine ⟨none, 0, by rw [h1, h2], fun j c h => ?_⟩
          have := (List.getElem?_eq_some_iff.1 h).1
          omega
        · refine ⟨some ⟨gr, 0, none⟩, capr, rfl, fun j c h => ⟨gr, rfl, by omega, (hor.lt gr rfl).2, ?_⟩⟩
          have := hor.cells (g := gr) rfl j (.int .i32 (c : Int)) (by unfold r32; rw [List.getElem?_map, h]; rfl)
          rw [Addr.add_lit, Nat.zero_add] at this
          exact this
      subst hvr
      have HCR := Lib.hid hcr
      have hwo : w.heap.size ≤ wo.heap.size := hsz
      have hdb6 : wo.heap.size < w6.heap.size := by omega
      have HB6 := Lib.hid (HB5.out.trans (hb6.mono (by have := HB5.out.size; omega)))
      have hdb0 : Hid (Own w6 w6.heap.size wo.heap.size (.slice (some ⟨wo.heap.size, 0, none⟩) 0 0) (encs [])) := Lib.hid (Or.inl ⟨rfl, rfl⟩)
      have hwb : w.heap.size ≤ wo.heap.size + 1 := by omega
      clear hor hb6 hcr HW5 hc88 HROW5 hmk hmk2 hsl hbb5 HB5 hNN
      generalize wo.heap.size + 1 = bb at *
      generalize wo.heap.size = db at *
      go_wp2_with fail
      go_loopw [7, 103] (fun v k wr => ∃ pre rest : List Nat, Hid (cs = pre ++ rest) ∧ k = .int .i64 (pre.length : Int) ∧ Hid (Own wr w6.heap.size db v (encs pre)) ∧ Hid (v ≠ .slice none 0 0) ∧ Hid (∀ j, j < 4 → (wr.cell? ⟨bb, 0 + j, none⟩).isSome = true ∧ wr.frozen? ⟨bb, 0 + j, none⟩ = false) ∧
        Hid (∀ gr, br = some ⟨gr, 0, none⟩ → ∀ (j c : Nat), cs[j]? = some c → wr.cell? ⟨gr, j, none⟩ = some (.int .i32 (c : Int))) ∧ Hid (w6.heap.size ≤ wr.heap.size) ∧ Hid (Below w.heap.size w wr)) (fun _ k _ => cs.length - (intOf k).toNat)
      case atStart =>
        refine ⟨[], cs, Lib.hid rfl, rfl, hdb0, Lib.hid (by simp), HTH, Lib.hid fun gr hgr j c h => ?_, Lib.hid (Nat.le_refl _), HB6⟩
        obtain ⟨gr', h1, _, _, h2⟩ := HCR.out j c h
        rw [hgr] at h1
        obtain rfl : gr = gr' := by simpa using h1
        exact h2
      case round =>
        obtain ⟨pre, rest, hpr, rfl, HO, HN2, HTH2, HG, HSZ, HB2⟩ := hrel
        cases rest with
        | cons c rest =>
          have hat : cs[pre.length]? = some c := by rw [hpr.out]; simp
          obtain ⟨gr, hbr, hgr1, hgr2, -⟩ := HCR.out _ _ hat
          subst hbr
          have hcell := HG.out gr rfl _ _ hat
          have hpl : pre.length < cs.length := (List.getElem?_eq_some_iff.1 hat).1
          have hsc : Scal c := HS.out c (by rw [hpr.out]; simp)
          have hX := encodeRune_len (c : Int)
          have hlo : (-2147483648 : Int) ≤ (c : Int) := by omega
          have hhi : (c : Int) ≤ 2147483647 := by unfold Scal at hsc; omega
          have hE := Tryd.utf8_EncodeRune bb 0 4 4 (c : Int) hlo hhi wr (by rw [runeCells_u8s, u8s_len]; exact hX.2) (fun j hj => (HTH2.out j (by rw [runeCells_u8s, u8s_len] at hj; omega)).1) (fun j hj => (HTH2.out j (by rw [runeCells_u8s, u8s_len] at hj; omega)).2)
          rw [runeCells_u8s, u8s_len] at hE
          have hen := encs_snoc pre c
          have hpe := encs_len pre
          obtain ⟨W7, hW7⟩ : ∃ X, wr.setCells bb 0 (u8s (Lib.encodeRune (c : Int))) = X := ⟨_, rfl⟩
          rw [hW7] at hE
          have hsz7 : W7.heap.size = wr.heap.size := by rw [← hW7]; exact size_setCells' bb _ 0 wr
          have hB7 : Below w.heap.size w W7 := by rw [← hW7]; exact below_setCells bb hwb _ 0 wr HB2.out
          have hO7 : Own W7 w6.heap.size db u7 (encs pre) := by
            rw [← hW7]
            rcases HO.out with h | h
            · exact Or.inl h
            · exact Or.inr (own_setCells hbb6 _ 0 wr h)
          have hT7 : ∀ j, j < 4 → (W7.cell? ⟨bb, 0 + j, none⟩).isSome = true ∧ W7.frozen? ⟨bb, 0 + j, none⟩ = false := fun j hj => by
            rw [← hW7, World.frozen?_setCells]
            exact ⟨isSome_setCells' bb _ 0 wr _ (HTH2.out j hj).1, (HTH2.out j hj).2⟩
          have hG7 : ∀ (j c : Nat), cs[j]? = some c → W7.cell? ⟨gr, j, none⟩ = some (.int .i32 (c : Int)) := fun j c h => by
            rw [← hW7, World.cell?_setCells_out bb _ 0 wr _ (fun e => by simp at e; omega)]
            exact HG.out gr rfl j c h
          have hX7 : ∀ j u, (u8s (Lib.encodeRune (c : Int)))[j]? = some u → W7.cell? ((⟨bb, 0, none⟩ : Addr).add j) = some u := fun j u h => by
            rw [Addr.add_lit, ← hW7]
            have hj := (List.getElem?_eq_some_iff.1 h).1
            rw [World.cell?_setCells_in bb _ 0 wr (fun i hi => (HTH2.out i (by rw [u8s_len] at hi; omega)).1) j hj, ← h, List.getElem?_eq_getElem hj]
          obtain ⟨v8, w8, hr8, hO8, hN8, hb8⟩ := hO7.append HN2.out bb 4 (Lib.encodeRune (c : Int)) hX.1 hX7 (by have := HSZ.out; omega) (by omega)
          rw [hen] at hO8
          have HE := Lib.hid hE
          have HR8 := Lib.hid hr8
          have HO8 := Lib.hid hO8
          have HN8 := Lib.hid hN8
          have HB8 : Hid (Below w.heap.size w w8) := Lib.hid (hB7.trans (hb8.mono (by omega)))
          have HS8 : Hid (w6.heap.size ≤ w8.heap.size) := Lib.hid (by have := hb8.size; have := HSZ.out; omega)
          have HT8 : Hid (∀ j, j < 4 → (w8.cell? ⟨bb, 0 + j, none⟩).isSome = true ∧ w8.frozen? ⟨bb, 0 + j, none⟩ = false) := Lib.hid fun j hj => by
            rw [hb8.cell (p := ⟨bb, 0 + j, none⟩) hbb6, hb8.frozen (p := ⟨bb, 0 + j, none⟩) hbb6]
            exact hT7 j hj
          have HG8 : Hid (∀ gr', some (⟨gr, 0, none⟩ : Addr) = some ⟨gr', 0, none⟩ → ∀ (j c : Nat), cs[j]? = some c → w8.cell? ⟨gr', j, none⟩ = some (.int .i32 (c : Int))) := Lib.hid fun gr' h j c hj => by
            obtain rfl : gr = gr' := by simpa using h
            rw [hb8.cell (p := ⟨gr, j, none⟩) hgr2]
            exact hG7 j c hj
          have hl4 : ((Lib.encodeRune (c : Int)).length : Int) ≤ 4 := by omega
          have hl0 : (0 : Int) ≤ ((Lib.encodeRune (c : Int)).length : Int) := by omega
          clear hE hr8 hO8 hN8 hb8 hO7 hT7 hG7 hX7 hB7 hW7 hat hsc hen hpe hX
          generalize (Lib.encodeRune (c : Int)).length = l at *
          generalize (c : Int) = d at *
          go_wp2_with (first
            | (go_at_call 89; refine HE.out.mono ?_; rintro e w' ⟨rfl, hw⟩; obtain rfl := hw.symm)
            | (at_builtin; refine Go.Proofs.YtcohlcijgfdanaaDoor.u16.wpList_append_run rfl _ _ 29 rfl _ _ _ rfl rfl HR8.out ?_; refine Hid.out ?_))
          refine Lib.hid ?_
          go_wp2_with fail
          go_roundw
          case rel =>
            refine ⟨pre ++ [c], rest, Lib.hid (by rw [hpr.out]; simp), by simp, HO8, HN8, HT8, HG8, HS8, HB8⟩
          case measure => simp [intOf]; omega
        | nil =>
          obtain rfl : cs = pre := by rw [hpr.out]; simp
          have hlt2 : ¬ (cs.length : Int) < (cs.length : Int) := by omega
          obtain ⟨g9, cap9, rfl, hcells⟩ := HO.out.form HN2.out
          have hcv : (convert 29 9 (.slice (some ⟨g9, 0, none⟩) (encs cs).length cap9)).run Tryd.prog wr = .ok (.string ⟨(encs cs).toArray⟩) wr := run_convert_bytes_back (P := Tryd.prog) wr 29 9 5 ⟨g9, 0, none⟩ cap9 (encs cs) Tryd.underlying29 Tryd.underlying5 Tryd.underlying9 hcells
          clear hcells
          generalize hout : encs cs = out at *
          have HOUT := Lib.hid hout
          clear hout
          go_wp2_with fail
          have hout := HOUT.out
          subst hout
          go_ret2
          exact ⟨rfl, HB2.out⟩
end Go.Proofs.YtcohlcijgfdanaaDoor.wd
