/-
  FnLiteralText: types.pdfDocEncodingRune, decodePDFDocEncoding.
-/
import Derived.Test.YtcohlcijgfdanaaDoorTrm
import Derived.Test.YtcohlcijgfdanaaDoorRows
import Derived.Maps.OwnSet
import Derived.Deep.OwnRows
import Derived.Lib.LaidU8T
import Derived.Laws.Cover4
namespace Go.Proofs.YtcohlcijgfdanaaDoor.lt
open Go.RowKit

def pdv (b : Nat) : Int := if 24 ≤ b ∧ b ≤ 31 then lowT.getD (b - 24) 0 else if 128 ≤ b ∧ b ≤ 158 then highT.getD (b - 128) 0 else if b = 160 then 8364 else 0
def pdh (b : Nat) : Bool := decide ((24 ≤ b ∧ b ≤ 31) ∨ (128 ≤ b ∧ b ≤ 158) ∨ b = 160)
def pdr (b : Nat) : Int := if pdh b then pdv b else if b = 9 ∨ b = 10 ∨ b = 13 ∨ (32 ≤ b ∧ b ≤ 126) ∨ (161 ≤ b ∧ b ≠ 173) then b else 65533

theorem pdr_dsg (b : Nat) (hb : b < 256) (h : 0 ≤ dsg b) : pdr b = dsg b := by
  have key : ∀ x : Fin 256, 0 ≤ dsg x.val → pdr x.val = dsg x.val := by decide +kernel
  exact key ⟨b, hb⟩ h

def DD : DataW Unit := Rows.laid_given_example_pub_foolscap_pub_pdfcpu_pkg_pdfcpu_types_pdfDocEncoding
theorem DD_at : (List.range 256).map (fun b : Nat => DD.atKey (.int .u8 (b : Int)) (.lit (.int .i32 0))) = (List.range 256).map (fun b : Nat => DataW.lit (.int .i32 (pdv b))) := by kernel_rfl
theorem DD_has : (List.range 256).map (fun b : Nat => Maps.has DD (.int .u8 (b : Int))) = (List.range 256).map pdh := by kernel_rfl
theorem at_range {α : Type} (f g : Nat → α) (n : Nat) (h : (List.range n).map f = (List.range n).map g) (b : Nat) (hb : b < n) : f b = g b := by
  have e := congrArg (·[b]?) h
  simpa [hb] using e

/-- The map of signs lies in its variable. -/
def PdfTab (W : World) : Prop := ∃ bm n, W.cell? ⟨5, 0, none⟩ = some (.map (some bm)) ∧ W.ownsMap Tryd.prog 5 (plainElem Tryd.prog 21) bm n DD

theorem PdfTab.below {a W : World} (h : PdfTab a) (hb : Below a.heap.size a W) : PdfTab W := by
  obtain ⟨bm, n, hc, ho⟩ := h
  have h5 := World.block_lt_of_cell? _ _ hc
  have hl := ho.lt
  obtain ⟨es, clock, he, F, h1, h2⟩ := ho
  exact ⟨bm, n, (hb.cell (p := ⟨5, 0, none⟩) h5).trans hc, es, clock, (hb.block bm hl).trans he, F, h1, h2⟩

theorem look (W : World) (bm n : Nat) (h : W.ownsMap Tryd.prog 5 (plainElem Tryd.prog 21) bm n DD) (b : Nat) (hb : b < 256) : (Instr.lookup 132 (.map (some bm)) (.int .u8 (b : Int)) true).run Tryd.prog W = .ok (.tuple #[.int .i32 (pdv b), .bool (pdh b)]) W := by
  have hw : (Lit.int .u8 (b : Int)).wf = true := by
    have key : ∀ x : Fin 256, (Lit.int .u8 (x.val : Int)).wf = true := by decide +kernel
    exact key ⟨b, hb⟩
  obtain ⟨v, ps, hrun, hv⟩ := h.look_ok (e := 21) (z := .int .i32 0) (Maps.int_keyed Tryd.underlying5) Tryd.underlying132 (by simp [go_sem]) (plainElem_int Tryd.underlying21 (by decide)) (Maps.keyOf_int_mk Tryd.underlying5 hw)
  obtain ⟨c, rfl, hc, -⟩ := plainElem_int_inv Tryd.underlying21 hv
  have h1 : DD.atKey (.int .u8 (b : Int)) (.lit (.int .i32 0)) = .lit (.int .i32 (pdv b)) := at_range _ _ 256 DD_at b hb
  have h2 : Maps.has DD (.int .u8 (b : Int)) = pdh b := at_range _ _ 256 DD_has b hb
  rw [h1] at hc
  have h3 := congrArg Prod.fst hc
  simp only [DataW.lit.injEq, Lit.int.injEq, true_and] at h3
  rw [hrun, h2, h3]

set_option maxRecDepth 100000 in
theorem rune100 (b : Nat) (hb : b < 256) (w : World) (hP : PdfTab w) : Calls Tryd.prog 100 #[.int .u8 (b : Int)] w fun e w' => e = .returned (.int .i32 (pdr b)) ∧ w = w' := by
  obtain ⟨bm, n, hc, ho⟩ := hP
  have hl := look w bm n ho b hb
  clear ho
  have fin : ∀ r : Int, pdr b = r → (Calls Tryd.prog 100 #[.int .u8 (b : Int)] w fun e w' => e = .returned (.int .i32 r) ∧ w = w') → Calls Tryd.prog 100 #[.int .u8 (b : Int)] w fun e w' => e = .returned (.int .i32 (pdr b)) ∧ w = w' := fun r h1 h2 => by rw [h1]; exact h2
  cases hh : pdh b
  · rw [hh] at hl
    have hn : ¬ ((24 ≤ b ∧ b ≤ 31) ∨ (128 ≤ b ∧ b ≤ 158) ∨ b = 160) := by simpa [pdh] using hh
    by_cases h9 : b = 9
    · refine fin 9 (by rw [h9]; decide) ?_
      have e : (b : Int) = 9 := by omega
      rw [e] at hl ⊢
      generalize pdv b = r at *
      clear fin hn hh e
      go_enter Tryd.func100, Tryd.ntmps100
      go_wp2
      go_ret
      exact ⟨rfl, rfl⟩
    by_cases h10 : b = 10
    · refine fin 10 (by rw [h10]; decide) ?_
      have e : (b : Int) = 10 := by omega
      rw [e] at hl ⊢
      generalize pdv b = r at *
      clear fin hn hh e
      go_enter Tryd.func100, Tryd.ntmps100
      go_wp2
      go_ret
      exact ⟨rfl, rfl⟩
    by_cases h13 : b = 13
    · refine fin 13 (by rw [h13]; decide) ?_
      have e : (b : Int) = 13 := by omega
      rw [e] at hl ⊢
      generalize pdv b = r at *
      clear fin hn hh e
      go_enter Tryd.func100, Tryd.ntmps100
      go_wp2
      go_ret
      exact ⟨rfl, rfl⟩
    have e9 : ((b : Int) == 9) = false := by simpa using (show ¬ (b : Int) = 9 by omega)
    have e10 : ((b : Int) == 10) = false := by simpa using (show ¬ (b : Int) = 10 by omega)
    have e13 : ((b : Int) == 13) = false := by simpa using (show ¬ (b : Int) = 13 by omega)
    have k255 : (b : Int) ≤ 255 := by omega
    have k0 : (0 : Int) ≤ (b : Int) := by omega
    by_cases h32 : 32 ≤ b ∧ b ≤ 126
    · refine fin b (by unfold pdr; rw [hh, if_neg (by simp), if_pos (by omega)]) ?_
      have k1 : (32 : Int) ≤ (b : Int) := by omega
      have k2 : (b : Int) ≤ 126 := by omega
      clear fin h9 h10 h13 h32 hn hb hh
      generalize (b : Int) = d at *
      go_enter Tryd.func100, Tryd.ntmps100
      go_wp2
      go_ret
      exact ⟨rfl, rfl⟩
    by_cases h161 : 161 ≤ b ∧ b ≠ 173
    · refine fin b (by unfold pdr; rw [hh, if_neg (by simp), if_pos (by omega)]) ?_
      have k1 : (32 : Int) ≤ (b : Int) := by omega
      have k2 : ¬ (b : Int) ≤ 126 := by omega
      have k3 : (161 : Int) ≤ (b : Int) := by omega
      have k4 : ¬ (b : Int) = 173 := by omega
      have k5 : ((b : Int) == 173) = false := by simpa using k4
      clear fin h9 h10 h13 h32 h161 hn hb hh
      generalize (b : Int) = d at *
      go_enter Tryd.func100, Tryd.ntmps100
      go_wp2
      go_ret
      exact ⟨rfl, rfl⟩
    refine fin 65533 (by unfold pdr; rw [hh, if_neg (by simp), if_neg (by omega)]) ?_
    by_cases h173 : b = 173
    · have e : (b : Int) = 173 := by omega
      rw [e] at hl ⊢
      generalize pdv b = r at *
      clear fin e9 e10 e13 hn hh e k255 k0
      go_enter Tryd.func100, Tryd.ntmps100
      go_wp2
      go_ret
      exact ⟨rfl, rfl⟩
    have k3 : ¬ (161 : Int) ≤ (b : Int) := by omega
    have kk : (¬ (32 : Int) ≤ (b : Int)) ∨ ((32 : Int) ≤ (b : Int) ∧ ¬ (b : Int) ≤ 126) := by omega
    clear fin h9 h10 h13 h32 h161 h173 hn hb hh
    generalize (b : Int) = d at *
    rcases kk with k1 | ⟨k1, k2⟩
    all_goals
      go_enter Tryd.func100, Tryd.ntmps100
      go_wp2
      go_ret
      exact ⟨rfl, rfl⟩
  · rw [hh] at hl
    refine fin (pdv b) (by unfold pdr; rw [hh, if_pos rfl]) ?_
    clear fin hb hh
    generalize pdv b = r at *
    generalize (b : Int) = d at *
    go_enter Tryd.func100, Tryd.ntmps100
    go_wp2
    go_ret
    exact ⟨rfl, rfl⟩
end Go.Proofs.YtcohlcijgfdanaaDoor.lt
