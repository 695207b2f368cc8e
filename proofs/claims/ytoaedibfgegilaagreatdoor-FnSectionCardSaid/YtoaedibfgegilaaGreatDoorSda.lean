/-
  Entries of a cross reference as plain data; lists of numbers; SameEntry, in, SameSet, number, Exists.
-/
import Derived.Test.YtoaedibfgegilaaGreatDoorRows
import Derived.Test.YtoaedibfgegilaaGreatDoorMpp
import Derived.WalkSpells
import Derived.BigCall
import Derived.BigGuard
import Derived.Deep.QuietTactic
import Derived.BigQuiet
import Derived.Deep.LoopGhost
import Derived.LoopN
import Derived.Outline
import Derived.Lib.AppendZeros
import Derived.Deep.RegionLaw
namespace Go.Proofs.YtoaedibfgegilaaGreatDoor.st
open Go.RowKit Go.MapKept Go.ChangeMaps
set_option linter.unusedVariables false
set_option linter.unusedSimpArgs false

/-- An entry. -/
structure Ent where
  num : Int
  free : Bool
  comp : Bool
  off : Int
  gen : Int
  hoff : Bool
  hgen : Bool
  str : Int
  idx : Int
instance : Inhabited Ent := ⟨⟨0, false, false, 0, 0, false, false, 0, 0⟩⟩
def entC (e : Ent) : Array Value := #[.int .i64 e.num, .bool e.free, .bool e.comp, .int .i64 e.off, .int .i64 e.gen, .bool e.hoff, .bool e.hgen, .int .i64 e.str, .int .i64 e.idx]

/-- A slice that reads as the first n of z, numbers. -/
def IntsV (w : World) (v : Value) (n : Nat) (z : Nat → Int) : Prop := (n = 0 ∧ ∃ a C, v = .slice a 0 C) ∨ ∃ b o C, v = .slice (some ⟨b, o, none⟩) n C ∧ n ≤ C ∧ C ≤ maxLen ∧ ∀ i, i < n → w.cell? ⟨b, o + i, none⟩ = some (.int .i64 (z i))
theorem IntsV.kept {w w' : World} {v : Value} {n : Nat} {z : Nat → Int} (h : IntsV w v n z) (k : Kept [] w w') : IntsV w' v n z := by
  rcases h with h | ⟨b, o, C, h1, h2, h3, h4⟩
  · exact .inl h
  · exact .inr ⟨b, o, C, h1, h2, h3, fun i hi => k.cell (h4 i hi) (by simp)⟩
theorem IntsV.slice {w : World} {v : Value} {n : Nat} {z : Nat → Int} (h : IntsV w v n z) : ∃ a C, v = .slice a n C := by
  rcases h with ⟨rfl, a, C, h⟩ | ⟨b, o, C, h, _⟩
  · exact ⟨a, C, h⟩
  · exact ⟨_, _, h⟩
/-- What a slice of numbers tells of its cells. -/
theorem IntsV.cells {w : World} {a : Option Addr} {n C : Nat} {z : Nat → Int} (h : IntsV w (.slice a n C) n z) (hn : 0 < n) : ∃ b o, a = some ⟨b, o, none⟩ ∧ ∀ i, i < n → w.cell? ⟨b, o + i, none⟩ = some (.int .i64 (z i)) := by
  rcases h with ⟨rfl, _⟩ | ⟨b, o, C', h, h2, h3, h4⟩
  · omega
  · obtain ⟨rfl, _, _⟩ : a = some ⟨b, o, none⟩ ∧ n = n ∧ C = C' := by simpa using h
    exact ⟨b, o, rfl, h4⟩

/-- A slice that reads as the first n of f, entries. -/
def EntsV (w : World) (v : Value) (n : Nat) (f : Nat → Ent) : Prop := (n = 0 ∧ ∃ a C, v = .slice a 0 C) ∨ ∃ b o C, v = .slice (some ⟨b, o, none⟩) n C ∧ n ≤ C ∧ C ≤ maxLen ∧ ∀ i, i < n → ∀ j u, (entC (f i))[j]? = some u → w.cell? ⟨b, o + i * 9 + j, none⟩ = some u
theorem EntsV.kept {w w' : World} {v : Value} {n : Nat} {f : Nat → Ent} (h : EntsV w v n f) (k : Kept [] w w') : EntsV w' v n f := by
  rcases h with h | ⟨b, o, C, h1, h2, h3, h4⟩
  · exact .inl h
  · exact .inr ⟨b, o, C, h1, h2, h3, fun i hi j u hj => k.cell (h4 i hi j u hj) (by simp)⟩
theorem EntsV.slice {w : World} {v : Value} {n : Nat} {f : Nat → Ent} (h : EntsV w v n f) : ∃ a C, v = .slice a n C := by
  rcases h with ⟨rfl, a, C, h⟩ | ⟨b, o, C, h, _⟩
  · exact ⟨a, C, h⟩
  · exact ⟨_, _, h⟩
theorem EntsV.cells {w : World} {a : Option Addr} {n C : Nat} {f : Nat → Ent} (h : EntsV w (.slice a n C) n f) (hn : 0 < n) : ∃ b o, a = some ⟨b, o, none⟩ ∧ ∀ i, i < n → ∀ j u, (entC (f i))[j]? = some u → w.cell? ⟨b, o + i * 9 + j, none⟩ = some u := by
  rcases h with ⟨rfl, _⟩ | ⟨b, o, C', h, h2, h3, h4⟩
  · omega
  · obtain ⟨rfl, _, _⟩ : a = some ⟨b, o, none⟩ ∧ n = n ∧ C = C' := by simpa using h
    exact ⟨b, o, rfl, h4⟩

/-- The entry as it is read back. -/
def norm (e : Ent) : Ent := if e.comp then ⟨e.num, false, true, 0, 0, false, false, e.str, e.idx⟩ else ⟨e.num, e.free, false, e.off, e.gen, true, true, 0, 0⟩

set_option maxRecDepth 100000 in
theorem same7c (num off gen str idx : Int) (h1 h2 : Bool) (w : World) : Calls Tryz.prog 7 #[.agg (entC ⟨num, false, true, 0, 0, false, false, str, idx⟩), .agg (entC ⟨num, false, true, off, gen, h1, h2, str, idx⟩)] w fun e w' => e = .returned (.bool true) ∧ Below w.heap.size w w' := by
  unfold entC
  go_enter Tryz.func7, Tryz.ntmps7
  go_wp2_with fail
  go_ret
  exact ⟨rfl, ((Below.refl _ _).alloc (Nat.le_refl _) _).alloc (by simp) _⟩
set_option maxRecDepth 100000 in
theorem same7n (num off gen str idx : Int) (fr h1 h2 : Bool) (w : World) : Calls Tryz.prog 7 #[.agg (entC ⟨num, fr, false, off, gen, true, true, 0, 0⟩), .agg (entC ⟨num, fr, false, off, gen, h1, h2, str, idx⟩)] w fun e w' => e = .returned (.bool true) ∧ Below w.heap.size w w' := by
  unfold entC
  cases fr
  all_goals
    go_enter Tryz.func7, Tryz.ntmps7
    go_wp2_with fail
    go_ret
    exact ⟨rfl, ((Below.refl _ _).alloc (Nat.le_refl _) _).alloc (by simp) _⟩
theorem same7 (e : Ent) (h : ¬ (e.free = true ∧ e.comp = true)) (w : World) : Calls Tryz.prog 7 #[.agg (entC (norm e)), .agg (entC e)] w fun e w' => e = .returned (.bool true) ∧ Below w.heap.size w w' := by
  obtain ⟨num, fr, cm, off, gen, h1, h2, str, idx⟩ := e
  cases cm
  · exact same7n num off gen str idx fr h1 h2 w
  · cases fr
    · exact same7c num off gen str idx h1 h2 w
    · exact absurd ⟨rfl, rfl⟩ h

set_option maxRecDepth 100000 in
/-- in: a number that is there. -/
theorem in8 (v : Value) (n : Nat) (z : Nat → Int) (x : Int) (w : World) (hD : IntsV w v n z) (hm : ∃ i, i < n ∧ z i = x) (hn : n ≤ 1000000) : Calls Tryz.prog 8 #[v, .int .i64 x] w fun e w' => e = .returned (.bool true) ∧ w' = w := by
  obtain ⟨a, C, rfl⟩ := hD.slice
  obtain ⟨m, hmn, hmx⟩ := hm
  obtain ⟨b, o, rfl, hc⟩ := hD.cells (by omega)
  have HC := Lib.hid hc
  have HM := Lib.hid hmx
  clear hD hc hmx
  go_enter Tryz.func8, Tryz.ntmps8
  go_wp2_with fail
  go_loopw [9] (fun i wr => ∃ k : Nat, i = .int .i64 (k : Int) ∧ k ≤ m ∧ wr = w) (fun i _ => n - (intOf i).toNat)
  case atStart => exact ⟨0, rfl, by omega, rfl⟩
  case round =>
    obtain ⟨k, rfl, hk, rfl⟩ := hrel
    have c0 := HC.out k (by omega)
    by_cases hx : z k = x
    · have e1 : (x == x) = true := by simp
      rw [hx] at c0
      go_wp2_with fail
      go_ret
      exact ⟨rfl, rfl⟩
    · have e1 : (z k == x) = false := by simpa using hx
      have hkm : k ≠ m := fun e => hx (by rw [e]; exact HM.out)
      go_wp2_with fail
      go_roundw
      case rel => exact ⟨k + 1, by go_num, by omega, trivial⟩
      case measure => simp [intOf]; omega

theorem num23_no (w : World) : Calls Tryz.prog 23 #[.pointer none] w fun e w' => e = .returned (.tuple #[.int .i64 0, .bool false]) ∧ w' = w := by
  go_enter Tryz.func23, Tryz.ntmps23
  go_wp2_with fail
  go_ret2
  exact ⟨rfl, rfl⟩
theorem num23 (b : Nat) (x : Int) (w : World) (h : w.cell? ⟨b, 0, none⟩ = some (.int .i64 x)) : Calls Tryz.prog 23 #[.pointer (some ⟨b, 0, none⟩)] w fun e w' => e = .returned (.tuple #[.int .i64 x, .bool true]) ∧ w' = w := by
  go_enter Tryz.func23, Tryz.ntmps23
  go_wp2_with fail
  go_ret2
  exact ⟨rfl, rfl⟩
theorem num24_no (w : World) : Calls Tryz.prog 24 #[.pointer none] w fun e w' => e = .returned (.tuple #[.int .i64 0, .bool false]) ∧ w' = w := by
  go_enter Tryz.func24, Tryz.ntmps24
  go_wp2_with fail
  go_ret2
  exact ⟨rfl, rfl⟩
theorem num24 (b : Nat) (x : Int) (w : World) (h : w.cell? ⟨b, 0, none⟩ = some (.int .i64 x)) : Calls Tryz.prog 24 #[.pointer (some ⟨b, 0, none⟩)] w fun e w' => e = .returned (.tuple #[.int .i64 x, .bool true]) ∧ w' = w := by
  go_enter Tryz.func24, Tryz.ntmps24
  go_wp2_with fail
  go_ret2
  exact ⟨rfl, rfl⟩
end Go.Proofs.YtoaedibfgegilaaGreatDoor.st
