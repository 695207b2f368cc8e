/-
  FnColors: the law's walk.
-/
import Derived.Test.YteghpgmjenlpaaaDoorClm
import Derived.Stop.LaidErr
namespace Go.Proofs.YteghpgmjenlpaaaDoor.col
open Go.RowKit
theorem _root_.Go.RowKit.Below.drawn {B : Nat} {a w : World} (h : Below B a w) {n : Nat} : Below B a (w.drewN n) := ⟨h.os, h.tape, h.output, h.size, h.block⟩


theorem and24 (n : Int) (h0 : 0 ≤ n) (h1 : n < 4294967296) : bits .and .u32 n 16777215 = ((n.toNat % 16777216 : Nat) : Int) := by
  rw [u32_and _ _ h0 h1 (by decide) (by decide)]
  rw [show (16777215 : Int).toNat = 2 ^ 24 - 1 from rfl, Nat.and_two_pow_sub_one_eq_mod]
theorem and15 (n : Int) (h0 : 0 ≤ n) (h1 : n < 4294967296) : bits .and .u32 n 15 = ((n.toNat % 16 : Nat) : Int) := by
  rw [u32_and _ _ h0 h1 (by decide) (by decide)]
  rw [show (15 : Int).toNat = 2 ^ 4 - 1 from rfl, Nat.and_two_pow_sub_one_eq_mod]

theorem digit (d : Nat) (h : d < 16) : (⟨#[48, 49, 50, 51, 52, 53, 54, 55, 56, 57, 65, 66, 67, 68, 69, 70]⟩ : ByteArray).extract d (d + 1) = ⟨#[dg d]⟩ := by
  have all : ∀ d : Fin 16, ((⟨#[48, 49, 50, 51, 52, 53, 54, 55, 56, 57, 65, 66, 67, 68, 69, 70]⟩ : ByteArray).extract d.val (d.val + 1)).data.toList = [dg d.val] := by decide +kernel
  have := all ⟨d, h⟩
  apply ByteArray.ext
  apply Array.toList_inj.1
  exact this

theorem six_at (r g b k d : Nat) (h : (six r g b)[k]? = some (dg d)) : (⟨((35 :: six r g b).take (k + 1)).toArray⟩ : ByteArray) ++ ⟨#[dg d]⟩ = ⟨((35 :: six r g b).take (k + 1 + 1)).toArray⟩ := by
  apply ByteArray.ext
  apply Array.toList_inj.1
  simp only [ByteArray.data_append, Array.toList_append]
  rw [List.take_add_one (i := k + 1)]
  simp [h]

theorem law3 (n : Int) (h0 : 0 ≤ n) (h1 : n ≤ 4294967295) (w : World) (ev : Value) (hE : w.cell? ⟨10, 0, none⟩ = some ev) :
    Calls Tryd.prog 3 #[.int .u32 n] w fun e w' => e = .returned (.bool true) ∧ Below w.heap.size w w' := by
  obtain ⟨r, g, b, hr, hg, hb, hn⟩ : ∃ r g b : Nat, r < 256 ∧ g < 256 ∧ b < 256 ∧ bits .and .u32 n 16777215 = ((r * 65536 + g * 256 + b : Nat) : Int) := by
    refine ⟨n.toNat % 16777216 / 65536, n.toNat % 16777216 / 256 % 256, n.toNat % 256, by omega, by omega, by omega, ?_⟩
    rw [and24 n h0 (by omega)]
    omega
  have c1 := Lib.hid fun w => number4 r g b hr hg hb w
  have c2 := Lib.hid fun (w : World) (hE : w.cell? ⟨10, 0, none⟩ = some ev) => of5 r g b hr hg hb w ev hE
  have c3 := Lib.hid fun w => close6 r hr w
  have c4 := Lib.hid fun w => close6 g hg w
  have c5 := Lib.hid fun w => close6 b hb w
  have o1 := By.same r hr
  have o2 := By.same g hg
  have o3 := By.same b hb
  have hV0 : (0 : Int) ≤ ((r * 65536 + g * 256 + b : Nat) : Int) := by omega
  have hV1 : ((r * 65536 + g * 256 + b : Nat) : Int) < 16777216 := by omega
  have s0 : bits .and .u32 (((r * 65536 + g * 256 + b : Nat) : Int) / 1048576) 15 = ((r / 16 : Nat) : Int) := by rw [and15 _ (by omega) (by omega)]; omega
  have s1 : bits .and .u32 (((r * 65536 + g * 256 + b : Nat) : Int) / 65536) 15 = ((r % 16 : Nat) : Int) := by rw [and15 _ (by omega) (by omega)]; omega
  have s2 : bits .and .u32 (((r * 65536 + g * 256 + b : Nat) : Int) / 4096) 15 = ((g / 16 : Nat) : Int) := by rw [and15 _ (by omega) (by omega)]; omega
  have s3 : bits .and .u32 (((r * 65536 + g * 256 + b : Nat) : Int) / 256) 15 = ((g % 16 : Nat) : Int) := by rw [and15 _ (by omega) (by omega)]; omega
  have s4 : bits .and .u32 (((r * 65536 + g * 256 + b : Nat) : Int) / 16) 15 = ((b / 16 : Nat) : Int) := by rw [and15 _ (by omega) (by omega)]; omega
  have s5 : bits .and .u32 ((r * 65536 + g * 256 + b : Nat) : Int) 15 = ((b % 16 : Nat) : Int) := by rw [and15 _ (by omega) (by omega)]; omega
  have t1 : ((r * 65536 + g * 256 + b : Nat) : Int) / 65536 = (r : Int) := by omega
  have t2 : bits .and .u32 (((r * 65536 + g * 256 + b : Nat) : Int) / 256) 255 = (g : Int) := by rw [and255 _ (by omega) (by omega)]; omega
  have t3 : bits .and .u32 ((r * 65536 + g * 256 + b : Nat) : Int) 255 = (b : Int) := by rw [and255 _ (by omega) (by omega)]; omega
  generalize ((r * 65536 + g * 256 + b : Nat) : Int) = V at *
  have S0 := Lib.hid s0
  have S1 := Lib.hid s1
  have S2 := Lib.hid s2
  have S3 := Lib.hid s3
  have S4 := Lib.hid s4
  have S5 := Lib.hid s5
  have T1 := Lib.hid t1
  have T2 := Lib.hid t2
  have T3 := Lib.hid t3
  clear s0 s1 s2 s3 s4 s5 t1 t2 t3
  have lE : 10 < w.heap.size := World.block_lt_of_cell? _ _ hE
  have HE := Lib.hid hE
  clear hE
  go_enter Tryd.func3, Tryd.ntmps3
  go_wp2_with fail
  go_loopw [3, 4] (fun t i wr => ∃ k : Nat, k ≤ 6 ∧ i = .int .i64 ((20 : Int) - 4 * k) ∧ t = .string ⟨((35 :: six r g b).take (k + 1)).toArray⟩ ∧ Hid (Below w.heap.size w wr)) (fun _ i _ => (intOf i + 4).toNat)
  case atStart => exact ⟨0, by omega, rfl, rfl, Below.refl _ _⟩
  case round =>
    obtain ⟨k, hk, rfl, rfl, HBW⟩ := hrel
    have hk' : k = 0 ∨ k = 1 ∨ k = 2 ∨ k = 3 ∨ k = 4 ∨ k = 5 ∨ k = 6 := by omega
    clear hk
    rcases hk' with rfl | rfl | rfl | rfl | rfl | rfl | rfl
    · have hd : r / 16 < 16 := by omega
      have hx := digit (r / 16) hd
      have hl := six_at r g b 0 (r / 16) rfl
      have s0 := S0.out
      generalize r / 16 = d at s0 hx hd hl
      have HL := Lib.hid hl
      clear hl
      go_wp2
      go_quiet (fail)
      go_wp2
      go_roundw
      case rel => exact ⟨1, by omega, rfl, congrArg Value.string HL.out, HBW.out.drawn⟩
      case measure => decide
    · have hd : r % 16 < 16 := by omega
      have hx := digit (r % 16) hd
      have hl := six_at r g b 1 (r % 16) rfl
      have s0 := S1.out
      generalize r % 16 = d at s0 hx hd hl
      have HL := Lib.hid hl
      clear hl
      go_wp2
      go_quiet (fail)
      go_wp2
      go_roundw
      case rel => exact ⟨2, by omega, rfl, congrArg Value.string HL.out, HBW.out.drawn⟩
      case measure => decide
    · have hd : g / 16 < 16 := by omega
      have hx := digit (g / 16) hd
      have hl := six_at r g b 2 (g / 16) rfl
      have s0 := S2.out
      generalize g / 16 = d at s0 hx hd hl
      have HL := Lib.hid hl
      clear hl
      go_wp2
      go_quiet (fail)
      go_wp2
      go_roundw
      case rel => exact ⟨3, by omega, rfl, congrArg Value.string HL.out, HBW.out.drawn⟩
      case measure => decide
    · have hd : g % 16 < 16 := by omega
      have hx := digit (g % 16) hd
      have hl := six_at r g b 3 (g % 16) rfl
      have s0 := S3.out
      generalize g % 16 = d at s0 hx hd hl
      have HL := Lib.hid hl
      clear hl
      go_wp2
      go_quiet (fail)
      go_wp2
      go_roundw
      case rel => exact ⟨4, by omega, rfl, congrArg Value.string HL.out, HBW.out.drawn⟩
      case measure => decide
    · have hd : b / 16 < 16 := by omega
      have hx := digit (b / 16) hd
      have hl := six_at r g b 4 (b / 16) rfl
      have s0 := S4.out
      generalize b / 16 = d at s0 hx hd hl
      have HL := Lib.hid hl
      clear hl
      go_wp2
      go_quiet (fail)
      go_wp2
      go_roundw
      case rel => exact ⟨5, by omega, rfl, congrArg Value.string HL.out, HBW.out.drawn⟩
      case measure => decide
    · have hd : b % 16 < 16 := by omega
      have hx := digit (b % 16) hd
      have hl := six_at r g b 5 (b % 16) rfl
      have s0 := S5.out
      generalize b % 16 = d at s0 hx hd hl
      have HL := Lib.hid hl
      clear hl
      go_wp2
      go_quiet (fail)
      go_wp2
      go_roundw
      case rel => exact ⟨6, by omega, rfl, congrArg Value.string HL.out, HBW.out.drawn⟩
      case measure => decide
    · have t1 := T1.out
      have t2 := T2.out
      have t3 := T3.out
      have ht : (⟨((35 :: six r g b).take (6 + 1)).toArray⟩ : ByteArray) = text r g b := rfl
      rw [ht]
      go_wp2_with (first
        | (go_at_call 4; refine (c1.out _).mono ?_; rintro e w1 ⟨rfl, hb1⟩)
        | (go_at_call 5; refine (c2.out _ ((HBW.out.trans (hb1.mono HBW.out.size)).cell (p := ⟨10, 0, none⟩) lE |>.trans HE.out)).mono ?_; rintro e w2 ⟨rfl, hb2⟩)
        | (go_at_call 6; (with_reducible refine (c3.out _).mono ?_); rintro e w3 ⟨rfl, rfl⟩)
        | (go_at_call 6; (with_reducible refine (c4.out _).mono ?_); rintro e w3 ⟨rfl, rfl⟩)
        | (go_at_call 6; (with_reducible refine (c5.out _).mono ?_); rintro e w3 ⟨rfl, rfl⟩))
      go_ret
      exact ⟨rfl, HBW.out.trans ((hb1.trans (hb2.mono hb1.size)).mono HBW.out.size)⟩
end Go.Proofs.YteghpgmjenlpaaaDoor.col
namespace Go.Proofs.YteghpgmjenlpaaaDoor
open Go.RowKit
theorem gLen : Tryd.prog.globalNamed "encoding/hex.ErrLength" = some 10 := by kernel_rfl
theorem starE : "*" ++ "errors.errorString" = "*errors.errorString" := by decide
theorem errTypesE (u : TypeId) (h : Tryd.prog.typeName? 3 u = some "*errors.errorString") : u = 50 :=
  typeName_ptr_named (nm := "errors.errorString") (by rw [starE]; kernel_rfl) (by kernel_rfl) (by decide) u (by rw [starE]; exact h)
def fnColorsTab (W : World) : Prop := ∃ ev, W.cell? ⟨10, 0, none⟩ = some ev
theorem fnColors_tab {W : World} (h : laidMetH Tryd.prog Rows.fnColorsRow.laid W) : fnColorsTab W := by
  have h : laidMet Tryd.prog Rows.fnColorsRow.laid W := h
  have h := h.tail.tail.tail.tail.tail.tail.tail.tail.tail.tail.tail
  obtain ⟨a, s, hv, _⟩ := laid_sentinel (tp := 50) (te := 52) (ts := 9) h gLen (by kernel_rfl) Tryd.underlying36 errTypesE Tryd.underlying50 Tryd.underlying52 (by kernel_rfl) (by kernel_rfl) Tryd.underlying9 (by kernel_rfl) (by kernel_rfl)
  exact ⟨_, by simpa using World.var?_cell gLen hv 0⟩
theorem fnColors_walk (n : Int) (w : World) (h : fnColorsTab w) (hn : (Lit.int .u32 n).wf = true) :
    Calls Tryd.prog 3 #[.int .u32 n] w fun e w' => e = .returned (.bool true) ∧ Below w.heap.size w w' := by
  obtain ⟨ev, hE⟩ := h
  have hb : 0 ≤ n ∧ n ≤ 4294967295 := by simpa [Lit.wf, IntKind.min, IntKind.max, IntKind.signed, IntKind.bits] using hn
  exact col.law3 n hb.1 hb.2 w ev hE
end Go.Proofs.YteghpgmjenlpaaaDoor
