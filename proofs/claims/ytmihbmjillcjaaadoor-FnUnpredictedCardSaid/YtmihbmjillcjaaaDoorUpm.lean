/-
  The parameters' map; filter.parameters, filter.validatePredictor, filter.decodeLimit.
-/
import Derived.Test.YtmihbmjillcjaaaDoorUpa
import Derived.Outline
import Derived.Maps.Own
import Derived.Maps.OwnOps
import Derived.Maps.OwnSet
import Derived.Maps.Keyed
import Derived.StringKeys
namespace Go.Proofs.YtmihbmjillcjaaaDoor.up
set_option linter.unusedVariables false
set_option linter.unusedSimpArgs false
open Go.RowKit
open Go.Maps Go.WideMaps

def kPred : ByteArray := ⟨#[80, 114, 101, 100, 105, 99, 116, 111, 114]⟩
def kCol : ByteArray := ⟨#[67, 111, 108, 111, 114, 115]⟩
def kBits : ByteArray := ⟨#[66, 105, 116, 115, 80, 101, 114, 67, 111, 109, 112, 111, 110, 101, 110, 116]⟩
def kCols : ByteArray := ⟨#[67, 111, 108, 117, 109, 110, 115]⟩

theorem law9 : Keyed Tryd.prog 9 := string_keyed Tryd.underlying9
theorem zero3 (w : World) : (zeroValue 3).run Tryd.prog w = .ok (.int .i64 0) w := by kernel_rfl

/-- What the map of the parameters reads as. -/
def parmsD (p c b n : Int) : DataW Unit := ((((DataW.map []).put (.string kPred.data.toList) (.lit (.int .i64 p))).put (.string kCol.data.toList) (.lit (.int .i64 c))).put (.string kBits.data.toList) (.lit (.int .i64 b))).put (.string kCols.data.toList) (.lit (.int .i64 n))

theorem at_pred (p c b n : Int) : (parmsD p c b n).atKey (.string kPred.data.toList) (.lit (.int .i64 0)) = .lit (.int .i64 p) ∧ Maps.has (parmsD p c b n) (.string kPred.data.toList) = true := ⟨rfl, rfl⟩
theorem at_col (p c b n : Int) : (parmsD p c b n).atKey (.string kCol.data.toList) (.lit (.int .i64 0)) = .lit (.int .i64 c) ∧ Maps.has (parmsD p c b n) (.string kCol.data.toList) = true := ⟨rfl, rfl⟩
theorem at_bits (p c b n : Int) : (parmsD p c b n).atKey (.string kBits.data.toList) (.lit (.int .i64 0)) = .lit (.int .i64 b) ∧ Maps.has (parmsD p c b n) (.string kBits.data.toList) = true := ⟨rfl, rfl⟩
theorem at_cols (p c b n : Int) : (parmsD p c b n).atKey (.string kCols.data.toList) (.lit (.int .i64 0)) = .lit (.int .i64 n) ∧ Maps.has (parmsD p c b n) (.string kCols.data.toList) = true := ⟨rfl, rfl⟩

/-- Block mb is the parameters' map. -/
def Parms (w : World) (mb : Nat) (p c b n : Int) : Prop := ∃ k, w.ownsMap (H := Unit) Tryd.prog 9 (plainElem Tryd.prog 3) mb k (parmsD p c b n)
theorem Parms.kept {w w' : World} {mb : Nat} {p c b n : Int} (h : Parms w mb p c b n) (e : w'.heap[mb]? = w.heap[mb]?) : Parms w' mb p c b n := by
  obtain ⟨k, es, clock, hb, r⟩ := h
  exact ⟨k, es, clock, e.trans hb, r⟩
theorem Parms.lt {w : World} {mb : Nat} {p c b n : Int} (h : Parms w mb p c b n) : mb < w.heap.size := h.choose_spec.lt

theorem look_one {w : World} {mb : Nat} {p c b n : Int} (h : Parms w mb p c b n) (s : ByteArray) (hs : s.size ≤ maxLen) (x : Int) (hx : (parmsD p c b n).atKey (.string s.data.toList) (.lit (.int .i64 0)) = .lit (.int .i64 x) ∧ Maps.has (parmsD p c b n) (.string s.data.toList) = true) :
    (Instr.lookup 32 (.map (some mb)) (.string s) true).run Tryd.prog w = .ok (.tuple #[.int .i64 x, .bool true]) w := by
  obtain ⟨k, hown⟩ := h
  obtain ⟨v, ps, hrun, hv⟩ := hown.look_ok law9 Tryd.underlying32 (zero3 w) (plainElem_int Tryd.underlying3 (by decide)) (keyOf_string_mk Tryd.underlying9 hs)
  rw [hx.1] at hv
  rw [hx.2] at hrun
  obtain ⟨a, rfl, ha, _⟩ := plainElem_int_inv Tryd.underlying3 hv
  simp only [Prod.mk.injEq, DataW.lit.injEq, Lit.int.injEq, true_and] at ha
  rw [ha.1]
  exact hrun

theorem look_pred {w : World} {mb : Nat} {p c b n : Int} (h : Parms w mb p c b n) : (Instr.lookup 32 (.map (some mb)) (.string kPred) true).run Tryd.prog w = .ok (.tuple #[.int .i64 p, .bool true]) w := look_one h kPred (by decide) p (at_pred p c b n)
theorem look_col {w : World} {mb : Nat} {p c b n : Int} (h : Parms w mb p c b n) : (Instr.lookup 32 (.map (some mb)) (.string kCol) true).run Tryd.prog w = .ok (.tuple #[.int .i64 c, .bool true]) w := look_one h kCol (by decide) c (at_col p c b n)
theorem look_bits {w : World} {mb : Nat} {p c b n : Int} (h : Parms w mb p c b n) : (Instr.lookup 32 (.map (some mb)) (.string kBits) true).run Tryd.prog w = .ok (.tuple #[.int .i64 b, .bool true]) w := look_one h kBits (by decide) b (at_bits p c b n)
theorem look_cols {w : World} {mb : Nat} {p c b n : Int} (h : Parms w mb p c b n) : (Instr.lookup 32 (.map (some mb)) (.string kCols) true).run Tryd.prog w = .ok (.tuple #[.int .i64 n, .bool true]) w := look_one h kCols (by decide) n (at_cols p c b n)

theorem cells_list (w : World) (zs : List Int) (B : Nat) (hB : B = w.heap.size) : ∀ (i : Nat) (z : Int), zs[i]? = some z → (w.alloc (.cells (zs.map (Value.int .i64)).toArray 3)).cell? ⟨B, i, none⟩ = some (.int .i64 z) := by
  intro i z h
  subst hB
  unfold World.cell?
  rw [heap_alloc_new]
  simp [h]

set_option maxRecDepth 100000 in
set_option maxHeartbeats 1000000 in
theorem valid23 (p : Int) (hp : p ∈ [(2 : Int), 10, 11, 12, 13, 14, 15]) (w : World) : Calls Tryd.prog 23 #[.int .i64 p] w fun e w' => e = .returned .nilIface ∧ Below w.heap.size w w' := by
  have hm := Lib.hid (member31 p _ hp (by decide) w.heap.size _ (cells_list w _ _ rfl))
  clear hp
  go_enter Tryd.func23, Tryd.ntmps23
  go_wp2_with (go_at_call 31; refine hm.out.mono ?_; rintro e w1 ⟨rfl, rfl⟩)
  go_ret
  exact ⟨rfl, (Below.refl _ _).alloc (Nat.le_refl _) _⟩

theorem limit26 (m : Value) (w : World) : Calls Tryd.prog 26 #[.agg #[m, .int .i64 1048576], .int .i64 (-1)] w fun e w' => e = .returned (.int .i64 1048576) ∧ Below w.heap.size w w' := by
  go_enter Tryd.func26, Tryd.ntmps26
  go_wp2_with fail
  go_ret
  exact ⟨rfl, (Below.refl _ _).alloc (Nat.le_refl _) _⟩

set_option maxRecDepth 100000 in
set_option maxHeartbeats 1000000 in
theorem parms24 (p c b n : Int) (hc : 1 ≤ c) (hb : b ∈ [(1 : Int), 2, 4, 8, 16]) (hn : 1 ≤ n) (mb : Nat) (L : Int) (w : World) (h : Parms w mb p c b n) : Calls Tryd.prog 24 #[.agg #[.map (some mb), .int .i64 L]] w fun e w' => e = .returned (.tuple #[.int .i64 c, .int .i64 b, .int .i64 n, .nilIface]) ∧ Below w.heap.size w w' := by
  have hlt := h.lt
  have h1 := h.kept (w' := w.alloc (.cells #[.map (some mb), .int .i64 L] 51)) (heap_alloc_old w _ hlt)
  have hm : Hid (Calls Tryd.prog 31 #[.int .i64 b, .slice (some ⟨w.heap.size + 1, 0, none⟩) 5 5] ((w.alloc (.cells #[.map (some mb), .int .i64 L] 51)).alloc (.cells #[.int .i64 1, .int .i64 2, .int .i64 4, .int .i64 8, .int .i64 16] 3)) fun e w' => e = .returned (.bool true) ∧ ((w.alloc (.cells #[.map (some mb), .int .i64 L] 51)).alloc (.cells #[.int .i64 1, .int .i64 2, .int .i64 4, .int .i64 8, .int .i64 16] 3)) = w') :=
    Lib.hid (member31 b [1, 2, 4, 8, 16] hb (by decide) _ _ (cells_list (w.alloc (.cells #[.map (some mb), .int .i64 L] 51)) [1, 2, 4, 8, 16] _ (by simp)))
  have k1 := look_col h1
  have k2 := look_bits h1
  have k4 := look_cols (h1.kept (w' := (w.alloc (.cells #[.map (some mb), .int .i64 L] 51)).alloc (.cells #[.int .i64 1, .int .i64 2, .int .i64 4, .int .i64 8, .int .i64 16] 3)) (heap_alloc_old _ _ (by simp; omega)))
  clear h h1 hb
  unfold kCol at k1
  unfold kBits at k2
  unfold kCols at k4
  go_enter Tryd.func24, Tryd.ntmps24
  go_wp2_with (go_at_call 31; refine hm.out.mono ?_; rintro e w1 ⟨rfl, rfl⟩)
  exact bodyPost_ret (v := .tuple #[.int .i64 c, .int .i64 b, .int .i64 n, .nilIface]) (by simp [results, Tryd.results24, go_sem]) rfl ⟨rfl, ((Below.refl _ _).alloc (Nat.le_refl _) _).alloc (by simp) _⟩
end Go.Proofs.YtmihbmjillcjaaaDoor.up
