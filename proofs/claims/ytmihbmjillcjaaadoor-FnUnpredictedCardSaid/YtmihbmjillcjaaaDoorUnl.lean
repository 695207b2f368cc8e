/-
  laws.FnUnpredicted.
-/
import Derived.Test.YtmihbmjillcjaaaDoorCfo
namespace Go.Proofs.YtmihbmjillcjaaaDoor.up
set_option linter.unusedVariables false
set_option linter.unusedSimpArgs false
open Go.RowKit

set_option maxHeartbeats 4000000 in
set_option maxRecDepth 100000 in
theorem law3 (v : Value) (N : Nat) (z : Nat → Int) (p colors bits columns : Int) (w : World) (hz : Bytes z) (hD : DataV w v N z) (hE : Ends w) : Calls Tryd.prog 3 #[v, .int .i64 p, .int .i64 colors, .int .i64 bits, .int .i64 columns] w fun e w' => e = .returned (.bool true) ∧ Below w.heap.size w w' := by
  obtain ⟨a, C, rfl⟩ : ∃ a C, v = .slice a N C := by
    rcases hD with ⟨rfl, rfl⟩ | ⟨a, C, rfl, _⟩
    · exact ⟨_, _, rfl⟩
    · exact ⟨_, _, rfl⟩
  have HD := Lib.hid hD
  have HE := Lib.hid hE
  have HZ := Lib.hid hz
  clear hD hE hz
  by_cases hbig : 2147483647 < N
  · have h1 : (2147483647 : Int) < (N : Int) := by omega
    go_enter Tryd.func3, Tryd.ntmps3
    go_wp2_with fail
    go_ret
    exact ⟨rfl, Below.refl _ _⟩
  have hb1 : ¬ (2147483647 : Int) < (N : Int) := by omega
  go_enter Tryd.func3, Tryd.ntmps3
  obtain ⟨s0, hs0⟩ : ∃ s0, w.heap.size = s0 := ⟨_, rfl⟩
  obtain ⟨W1, hW1⟩ : ∃ W, w.alloc (Obj.cells #[Value.int IntKind.i64 p, Value.int IntKind.i64 colors, Value.int IntKind.i64 bits, Value.int IntKind.i64 columns, Value.int IntKind.i64 0] 24) = W := ⟨_, rfl⟩
  obtain ⟨W2, hW2⟩ : ∃ W, W1.alloc (Obj.cells #[Value.int IntKind.u8 2, Value.int IntKind.u8 1, Value.int IntKind.u8 2] 5) = W := ⟨_, rfl⟩
  have k2 : Kept [] w W2 := by rw [← hW2, ← hW1]; exact ((Kept.refl _ _).alloc _).alloc _
  have hs1 : W1.heap.size = s0 + 1 := by rw [← hW1, ← hs0]; simp
  have hs2 : W2.heap.size = s0 + 2 := by rw [← hW2]; simp [hs1]
  have p0 : W2.cell? ⟨s0, 0, none⟩ = some (.int .i64 p) := by rw [← hW2]; exact ((Kept.refl [] W1).alloc _).cell (by rw [← hW1, ← hs0]; simp [go_sem]) (by simp)
  have p1 : W2.cell? ⟨s0, 1, none⟩ = some (.int .i64 colors) := by rw [← hW2]; exact ((Kept.refl [] W1).alloc _).cell (by rw [← hW1, ← hs0]; simp [go_sem]) (by simp)
  have p2 : W2.cell? ⟨s0, 2, none⟩ = some (.int .i64 bits) := by rw [← hW2]; exact ((Kept.refl [] W1).alloc _).cell (by rw [← hW1, ← hs0]; simp [go_sem]) (by simp)
  have p3 : W2.cell? ⟨s0, 3, none⟩ = some (.int .i64 columns) := by rw [← hW2]; exact ((Kept.refl [] W1).alloc _).cell (by rw [← hW1, ← hs0]; simp [go_sem]) (by simp)
  have p4 : W2.cell? ⟨s0, 4, none⟩ = some (.int .i64 0) := by rw [← hW2]; exact ((Kept.refl [] W1).alloc _).cell (by rw [← hW1, ← hs0]; simp [go_sem]) (by simp)
  have hD3 : DataV W2 (.slice (some ⟨s0 + 1, 0, none⟩) 3 3) 3 z3 := by
    refine .inr ⟨_, 3, rfl, Nat.le_refl _, by unfold maxLen; omega, by show s0 + 1 < _; omega, fun i hi => ?_⟩
    rw [addr_add, ← hW2, ← hs1]
    rcases (show i = 0 ∨ i = 1 ∨ i = 2 by omega) with rfl | rfl | rfl <;> simp [go_sem, z3]
  have E2 := HE.out.kept k2 (by simp)
  obtain ⟨ea, eu, q1, q2, q3, q4⟩ := E2
  have h4 : Calls Tryd.prog 4 #[.slice (some ⟨s0 + 1, 0, none⟩) 3 3, .int .i64 12, .int .i64 1, .int .i64 8, .int .i64 2] W2 fun e w' => ∃ x, e = .returned (.tuple #[x, .bool true]) ∧ Hid (Got W2 w' (1 * 2) (outF z3 1 2 1 1) x ∧ Below W2.heap.size W2 w') :=
    unp4 12 1 8 2 2 1 1 z3 3 1 env3 _ ea eu W2 hD3 q1 q2 q3 q4
  have H4 := Lib.hid h4
  have HE2 := Lib.hid (HE.out.kept k2 (by simp))
  have K2 := Lib.hid k2
  have HP := Lib.hid (And.intro p0 (And.intro p1 (And.intro p2 (And.intro p3 p4))))
  have HS := Lib.hid (And.intro hs0 hs2)
  clear h4 q1 q2 q3 q4 hD3 k2 p0 p1 p2 p3 p4 hs2 hs1 HS
  subst hW2
  subst hW1
  subst hs0
  go_wp2_with (go_at_call 4; refine H4.out.mono ?_; rintro e w3 ⟨x, rfl, hx⟩; refine Hid.out ?_)
  refine Lib.hid ?_
  have hg := hx.out.1
  have k3 : Kept [] _ w3 := Kept.of_below hx.out.2 []
  obtain ⟨s3, hs3⟩ : ∃ s3, w3.heap.size = s3 := ⟨_, rfl⟩
  obtain ⟨W4, hW4⟩ : ∃ W, w3.alloc (Obj.cells #[Value.int IntKind.u8 1, Value.int IntKind.u8 2] 5) = W := ⟨_, rfl⟩
  have k34 : Kept [] w3 W4 := by rw [← hW4]; exact (Kept.refl _ _).alloc _
  have k4 : Kept [] _ W4 := k3.trans k34
  have hR2 : Reads W4 (.slice (some ⟨s3, 0, none⟩) 2 2) 2 z2 := by
    refine .inr ⟨_, _, _, rfl, by omega, fun i hi => ?_⟩
    rw [← hW4, ← hs3]
    rcases (show i = 0 ∨ i = 1 by omega) with rfl | rfl <;> simp [go_sem, z2]
  have H5 := Lib.hid (equal5 x (.slice (some ⟨s3, 0, none⟩) 2 2) 2 _ z2 z3_out W4 (hg.reads.kept k34 (by simp)) hR2)
  have x0 := k4.cell HP.out.1 (by simp)
  have x1 := k4.cell HP.out.2.1 (by simp)
  have x2 := k4.cell HP.out.2.2.1 (by simp)
  have x3 := k4.cell HP.out.2.2.2.1 (by simp)
  have x4 := k4.cell HP.out.2.2.2.2 (by simp)
  have KW4 := Lib.hid (K2.out.trans k4)
  have hbl : Hid (Below w.heap.size w W4) := Lib.hid (KW4.out.below (Nat.le_refl _) (by simp))
  have hE4 := Lib.hid (HE2.out.kept k4 (by simp))
  clear hx hg k3 k34 k4 hR2
  by_cases h6 : 65536 < N
  · have h6i : (65536 : Int) < (N : Int) := by omega
    go_wp2_with (go_at_call 5; refine H5.out.mono ?_; rintro e w5 ⟨rfl, rfl⟩)
    go_ret
    exact ⟨rfl, hbl.out⟩
  have h6i : ¬ (65536 : Int) < (N : Int) := by omega
  have h6d : decide ((65536 : Int) < (N : Int)) = false := by simpa using h6i
  by_cases hF : Fits p colors bits columns
  · have H6 := Lib.hid fun W => fit6 p colors bits columns 0 W
    have HF := Lib.hid hF
    clear hF
    by_cases hp1 : p = 1
    · have e1 : (p == 1) = true := by simp [hp1]
      clear hp1
      go_wp2_with (first | (go_at_call 5; refine H5.out.mono ?_; rintro e w5 ⟨rfl, rfl⟩) | (go_at_call 6; refine (H6.out _).mono ?_; rintro e w6 ⟨he6, hb6⟩; rw [fit_yes HF.out] at he6; subst he6))
      go_ret
      exact ⟨rfl, hbl.out.trans (hb6.mono hbl.out.size)⟩
    have e1 : (p == 1) = false := by simp [hp1]
    by_cases hp2 : p = 2 ∧ bits ≠ 8
    · have e2 : (p == 2) = true := by simp [hp2.1]
      have e3 : (bits != 8) = true := by simp [hp2.2]
      have e4 : ¬ bits = 8 := hp2.2
      clear hp1 hp2
      go_wp2_with (first | (go_at_call 5; refine H5.out.mono ?_; rintro e w5 ⟨rfl, rfl⟩) | (go_at_call 6; refine (H6.out _).mono ?_; rintro e w6 ⟨he6, hb6⟩; rw [fit_yes HF.out] at he6; subst he6))
      go_ret
      exact ⟨rfl, hbl.out.trans (hb6.mono hbl.out.size)⟩
    obtain ⟨c, d, size, bpp, h, hcc, hdd, CF, hbits, hpm, hsz, hbp, h7⟩ := cfg_of p colors bits columns HF.out hp1 (fun e => by by_cases e8 : bits = 8; exact e8; exact absurd ⟨e, e8⟩ hp2)
    subst hcc
    subst hdd
    have h68 : p = 2 → bits = 8 := fun e => by by_cases e8 : bits = 8; exact e8; exact absurd ⟨e, e8⟩ hp2
    have HX := Lib.hid (And.intro CF (And.intro hbits (And.intro hpm (And.intro hsz hbp))))
    have H7 := Lib.hid h7
    have HN := Lib.hid (show N ≤ 65536 by omega)
    clear CF hbits hpm hsz hbp h7 hp2 hp1
    by_cases hq : p = 2
    · have hb8 := h68 hq
      subst hb8
      subst hq
      clear h68
      go_wp2_with (first | (go_at_call 5; refine H5.out.mono ?_; rintro e w5 ⟨rfl, rfl⟩) | (go_at_call 6; refine (H6.out _).mono ?_; rintro e w6 ⟨he6, hb6⟩; rw [fit_yes HF.out] at he6; subst he6; refine Hid.out ?_))
      refine Lib.hid ?_
      have k6 : Kept [] _ w6 := Kept.of_below hb6 []
      have y0 := k6.cell x0 (by simp)
      have y1 := k6.cell x1 (by simp)
      have y2 := k6.cell x2 (by simp)
      have y3 := k6.cell x3 (by simp)
      have y4 := k6.cell x4 (by simp)
      have HD6 := Lib.hid (HD.out.kept (KW4.out.trans k6) (by simp))
      have HE6 := Lib.hid (hE4.out.kept k6 (by simp))
      have hbl6 : Hid (Below w.heap.size w w6) := Lib.hid (hbl.out.trans (hb6.mono hbl.out.size))
      have h7' := Lib.hid (H7.out z HZ.out N _ w6 HD6.out (by have := HN.out; omega))
      clear k6 hb6 x0 x1 x2 x3 x4
      go_wp2_with (go_at_call 7; refine h7'.out.mono ?_; rintro e w7 ⟨x7, s, rfl, hx7⟩; refine Hid.out ?_)
      refine Lib.hid ?_
      have hbl7 : Hid (Below w.heap.size w w7) := Lib.hid (hbl6.out.trans (hx7.out.2.mono hbl6.out.size))
      by_cases hs : s = 0
      · obtain ⟨hm, htg, hdv⟩ := hx7.out.1 hs
        subst hs
        obtain ⟨CF, hbits, hpm, hsz, hbp⟩ := HX.out
        obtain ⟨K, hK⟩ : ∃ K, N / (size + h) = K := ⟨_, rfl⟩
        rw [hK] at htg hdv
        have hNK : N = K * (size + h) := by rw [← hK, Nat.mul_comm]; have := Nat.div_add_mod N (size + h); omega
        have k7 : Kept [] w6 w7 := Kept.of_below hx7.out.2 []
        obtain ⟨ea, eu, q1, q2, q3, q4⟩ := HE6.out.kept k7 (by simp)
        have H8 := Lib.hid (unp4 _ c _ d size bpp h z N K ⟨CF, hpm, hbits, hsz, hbp, HZ.out, htg, hNK, by have := HN.out; omega⟩ _ ea eu w7 (HD6.out.kept k7 (by simp)) q1 q2 q3 q4)
        have HV := Lib.hid hdv
        clear hm htg hdv CF hbits hpm hsz hbp hK hNK k7 q1 q2 q3 q4 y0 y1 y2 y3 y4
        go_wp2_with (go_at_call 4; refine H8.out.mono ?_; rintro e w8 ⟨x8, rfl, hx8⟩; refine Hid.out ?_)
        refine Lib.hid ?_
        have H9 := Lib.hid (equal5 x8 x7 (K * size) _ _ (fun _ _ => rfl) w8 hx8.out.1.reads (HV.out.reads.kept (Kept.of_below hx8.out.2 []) (by simp)))
        go_wp2_with (go_at_call 5; refine H9.out.mono ?_; rintro e w9 ⟨rfl, rfl⟩)
        go_ret
        exact ⟨rfl, hbl7.out.trans (hx8.out.2.mono hbl7.out.size)⟩
      · go_wp2_with fail
        go_ret
        exact ⟨rfl, hbl7.out⟩
    · have e2 : (p == 2) = false := by simp [hq]
      clear h68
      go_wp2_with (first | (go_at_call 5; refine H5.out.mono ?_; rintro e w5 ⟨rfl, rfl⟩) | (go_at_call 6; refine (H6.out _).mono ?_; rintro e w6 ⟨he6, hb6⟩; rw [fit_yes HF.out] at he6; subst he6; refine Hid.out ?_))
      refine Lib.hid ?_
      have k6 : Kept [] _ w6 := Kept.of_below hb6 []
      have y0 := k6.cell x0 (by simp)
      have y1 := k6.cell x1 (by simp)
      have y2 := k6.cell x2 (by simp)
      have y3 := k6.cell x3 (by simp)
      have y4 := k6.cell x4 (by simp)
      have HD6 := Lib.hid (HD.out.kept (KW4.out.trans k6) (by simp))
      have HE6 := Lib.hid (hE4.out.kept k6 (by simp))
      have hbl6 : Hid (Below w.heap.size w w6) := Lib.hid (hbl.out.trans (hb6.mono hbl.out.size))
      have h7' := Lib.hid (H7.out z HZ.out N _ w6 HD6.out (by have := HN.out; omega))
      clear k6 hb6 x0 x1 x2 x3 x4
      go_wp2_with (go_at_call 7; refine h7'.out.mono ?_; rintro e w7 ⟨x7, s, rfl, hx7⟩; refine Hid.out ?_)
      refine Lib.hid ?_
      have hbl7 : Hid (Below w.heap.size w w7) := Lib.hid (hbl6.out.trans (hx7.out.2.mono hbl6.out.size))
      by_cases hs : s = 0
      · obtain ⟨hm, htg, hdv⟩ := hx7.out.1 hs
        subst hs
        obtain ⟨CF, hbits, hpm, hsz, hbp⟩ := HX.out
        obtain ⟨K, hK⟩ : ∃ K, N / (size + h) = K := ⟨_, rfl⟩
        rw [hK] at htg hdv
        have hNK : N = K * (size + h) := by rw [← hK, Nat.mul_comm]; have := Nat.div_add_mod N (size + h); omega
        have k7 : Kept [] w6 w7 := Kept.of_below hx7.out.2 []
        obtain ⟨ea, eu, q1, q2, q3, q4⟩ := HE6.out.kept k7 (by simp)
        have H8 := Lib.hid (unp4 _ c _ d size bpp h z N K ⟨CF, hpm, hbits, hsz, hbp, HZ.out, htg, hNK, by have := HN.out; omega⟩ _ ea eu w7 (HD6.out.kept k7 (by simp)) q1 q2 q3 q4)
        have HV := Lib.hid hdv
        clear hm htg hdv CF hbits hpm hsz hbp hK hNK k7 q1 q2 q3 q4 y0 y1 y2 y3 y4
        go_wp2_with (go_at_call 4; refine H8.out.mono ?_; rintro e w8 ⟨x8, rfl, hx8⟩; refine Hid.out ?_)
        refine Lib.hid ?_
        have H9 := Lib.hid (equal5 x8 x7 (K * size) _ _ (fun _ _ => rfl) w8 hx8.out.1.reads (HV.out.reads.kept (Kept.of_below hx8.out.2 []) (by simp)))
        go_wp2_with (go_at_call 5; refine H9.out.mono ?_; rintro e w9 ⟨rfl, rfl⟩)
        go_ret
        exact ⟨rfl, hbl7.out.trans (hx8.out.2.mono hbl7.out.size)⟩
      · go_wp2_with fail
        go_ret
        exact ⟨rfl, hbl7.out⟩
  · have H6 := Lib.hid fun W => fit6 p colors bits columns 0 W
    have HF := Lib.hid hF
    clear hF
    go_wp2_with (first | (go_at_call 5; refine H5.out.mono ?_; rintro e w5 ⟨rfl, rfl⟩) | (go_at_call 6; refine (H6.out _).mono ?_; rintro e w6 ⟨he6, hb6⟩; rw [fit_no HF.out] at he6; subst he6))
    go_ret
    exact ⟨rfl, hbl.out.trans (hb6.mono hbl.out.size)⟩
end Go.Proofs.YtmihbmjillcjaaaDoor.up

namespace Go.Proofs.YtmihbmjillcjaaaDoor
open Go.RowKit
theorem gEof : Tryd.prog.globalNamed "io.EOF" = some 0 := by kernel_rfl
theorem gUneof : Tryd.prog.globalNamed "io.ErrUnexpectedEOF" = some 2 := by kernel_rfl
theorem starE : "*" ++ "errors.errorString" = "*errors.errorString" := by decide
theorem errTypesE (u : TypeId) (h : Tryd.prog.typeName? 3 u = some "*errors.errorString") : u = 86 :=
  typeName_ptr_named (nm := "errors.errorString") (by rw [starE]; kernel_rfl) (by kernel_rfl) (by decide) u (by rw [starE]; exact h)
def fnUnpredictedTab := up.Ends
theorem fnUnpredicted_tab {W : World} (h : laidMetH Tryd.prog Rows.fnUnpredictedRow.laid W) : fnUnpredictedTab W := by
  have h : laidMet Tryd.prog Rows.fnUnpredictedRow.laid W := h
  obtain ⟨ea, q1, q3⟩ := up.laid_ptr (tp := 86) (te := 88) (ts := 9) h.tail.tail gEof (by kernel_rfl) Tryd.underlying37 errTypesE Tryd.underlying86 Tryd.underlying88 (by kernel_rfl) (by kernel_rfl) Tryd.underlying9 (by kernel_rfl) (by kernel_rfl)
  obtain ⟨eu, q2, q4⟩ := up.laid_ptr (tp := 86) (te := 88) (ts := 9) h.tail.tail.tail gUneof (by kernel_rfl) Tryd.underlying37 errTypesE Tryd.underlying86 Tryd.underlying88 (by kernel_rfl) (by kernel_rfl) Tryd.underlying9 (by kernel_rfl) (by kernel_rfl)
  exact ⟨ea, eu, q1, q2, q3, q4⟩
theorem fnUnpredicted_walk (v : Value) (n : Nat) (z : Nat → Int) (p colors bits columns : Int) (w : World) (h : fnUnpredictedTab w) (hz : up.Bytes z) (hD : up.DataV w v n z) (_ : (Lit.int .i64 p).wf = true) (_ : (Lit.int .i64 colors).wf = true) (_ : (Lit.int .i64 bits).wf = true) (_ : (Lit.int .i64 columns).wf = true) :
    Calls Tryd.prog 3 #[v, .int .i64 p, .int .i64 colors, .int .i64 bits, .int .i64 columns] w fun e w' => e = .returned (.bool true) ∧ Below w.heap.size w w' := up.law3 v n z p colors bits columns w hz hD h
end Go.Proofs.YtmihbmjillcjaaaDoor
