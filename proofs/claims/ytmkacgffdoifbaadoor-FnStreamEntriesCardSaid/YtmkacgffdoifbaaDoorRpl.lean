/-
  The rows of a cross reference stream as plain bytes.
-/
import Derived.Test.YtmkacgffdoifbaaDoorBuf
namespace Go.Proofs.YtmkacgffdoifbaaDoor.se
open Go.RowKit Go.MapKept Go.ChangeMaps
set_option linter.unusedVariables false
set_option linter.unusedSimpArgs false

def kindOf (e : Ent) : Nat := if e.free then 0 else if e.comp then 2 else 1
def aOf (e : Ent) : Int := if e.comp then e.str else e.off
def bOf (e : Ent) : Int := if e.comp then e.idx else e.gen
/-- An entry that has a row. -/
structure Fits (e : Ent) (w0 w1 w2 : Nat) : Prop where
  one : ¬ (e.free = true ∧ e.comp = true)
  typ : w0 = 0 → kindOf e = 1
  pack : e.comp = true → w2 ≠ 0
  a0 : 0 ≤ aOf e
  a1 : aOf e < (256 : Int) ^ w1
  b0 : 0 ≤ bOf e
  b1 : bOf e < (256 : Int) ^ w2
def rowB (w0 w1 w2 : Nat) (e : Ent) : List Nat := fb (kindOf e) w0 ++ (fb (aOf e).toNat w1 ++ fb (bOf e).toNat w2)
theorem rowB_length (w0 w1 w2 : Nat) (e : Ent) : (rowB w0 w1 w2 e).length = w0 + w1 + w2 := by simp [rowB, fb_length]; omega
def dataB (w0 w1 w2 : Nat) (f : Nat → Ent) (n : Nat) : List Nat := (List.range n).flatMap fun i => rowB w0 w1 w2 (f i)
theorem dataB_succ (w0 w1 w2 : Nat) (f : Nat → Ent) (n : Nat) : dataB w0 w1 w2 f (n + 1) = dataB w0 w1 w2 f n ++ rowB w0 w1 w2 (f n) := by simp [dataB, List.range_succ]
theorem dataB_length (w0 w1 w2 : Nat) (f : Nat → Ent) (n : Nat) : (dataB w0 w1 w2 f n).length = n * (w0 + w1 + w2) := by
  induction n with
  | zero => simp [dataB]
  | succ n ih => rw [dataB_succ, List.length_append, ih, rowB_length, Nat.succ_mul]

theorem cast256 (k : Nat) : ((256 ^ k : Nat) : Int) = (256 : Int) ^ k := Int.natCast_pow 256 k
end Go.Proofs.YtmkacgffdoifbaaDoor.se
