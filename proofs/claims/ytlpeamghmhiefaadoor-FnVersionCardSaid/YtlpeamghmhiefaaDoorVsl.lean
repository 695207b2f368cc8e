/-
  FnVersion: the law's walk for every two numbers.
-/
import Derived.Test.YtlpeamghmhiefaaDoorVsk
namespace Go.Proofs.YtlpeamghmhiefaaDoor
open Go.RowKit

theorem cat_list (l m : List UInt8) : (((⟨l.toArray⟩ : ByteArray) ++ ⟨#[46]⟩) ++ ⟨m.toArray⟩).toList = l ++ [46] ++ m := by
  rw [ByteArray.toList_eq]
  simp

theorem dig_size (n : Nat) : (⟨(dig n).toArray⟩ : ByteArray).size ≤ 2 := by
  rw [Lib.size_eq]
  unfold dig
  split <;> simp

/-- The steps where the name is none of the nine: the numbers as the walk meets them. -/
theorem unknownName (a b : Nat) (ha : a < 100) (hb : b < 100) (hk : known a b = false) (l m : List UInt8) (hl : dig a = l) (hm : dig b = m) (w : World) :
    Calls Tryd.prog 8 #[.string (((⟨l.toArray⟩ : ByteArray) ++ ⟨#[46]⟩) ++ ⟨m.toArray⟩), .bool false] w fun e w' => e = .returned (.tuple #[.int .i64 0, .string ⟨#[]⟩, .bool false]) ∧ Below w.heap.size w w' :=
  verNone a b ha hb hk _ (by rw [cat_list, ← hl, ← hm]; rfl) w

set_option maxRecDepth 100000 in
set_option maxHeartbeats 4000000 in
theorem lawOne (b : Nat) (hb : b < 100) (h7 : 7 < b) (w : World) :
    Calls Tryd.prog 3 #[.int .i64 1, .int .i64 b] w fun e w' => e = .returned (.bool true) ∧ Below w.heap.size w w' := by
  have c1 : Hid (∀ w, Calls Tryd.prog 7 #[.int .i64 1] w fun e w' => e = .returned (.string ⟨#[49]⟩) ∧ w' = w) := Lib.hid fun w => textK 1 (by decide) [49] rfl w
  have c2 := Lib.hid fun w => text b hb w
  have hk : known 1 b = false := by simp [known]; omega
  have c3 := Lib.hid fun w => unknownName 1 b (by decide) hb hk [49] (dig b) rfl rfl w
  have a2 : ¬ (99 : Int) < (b : Int) := by omega
  have a3 : ¬ (b : Int) ≤ 7 := by omega
  have a4 : ¬ (b : Int) < 0 := by omega
  clear hk
  have hz := dig_size b
  generalize (⟨(dig b).toArray⟩ : ByteArray) = m at c2 c3 hz
  go_enter Tryd.func3, Tryd.ntmps3
  go_wp2_with (first
    | (go_at_call 7; (with_reducible refine (c1.out _).mono ?_); rintro e w' ⟨rfl, rfl⟩)
    | (go_at_call 7; (with_reducible refine (c2.out _).mono ?_); rintro e w' ⟨rfl, rfl⟩)
    | (go_at_call 8; refine (c3.out _).mono ?_; rintro e w' ⟨rfl, hb1⟩))
  all_goals
    go_ret
    exact ⟨rfl, hb1⟩

set_option maxRecDepth 100000 in
set_option maxHeartbeats 4000000 in
theorem lawTwo (b : Nat) (hb : b < 100) (h7 : 0 < b) (w : World) :
    Calls Tryd.prog 3 #[.int .i64 2, .int .i64 b] w fun e w' => e = .returned (.bool true) ∧ Below w.heap.size w w' := by
  have c1 : Hid (∀ w, Calls Tryd.prog 7 #[.int .i64 2] w fun e w' => e = .returned (.string ⟨#[50]⟩) ∧ w' = w) := Lib.hid fun w => textK 2 (by decide) [50] rfl w
  have c2 := Lib.hid fun w => text b hb w
  have hk : known 2 b = false := by simp [known]; omega
  have c3 := Lib.hid fun w => unknownName 2 b (by decide) hb hk [50] (dig b) rfl rfl w
  have a2 : ¬ (99 : Int) < (b : Int) := by omega
  have a3 : ((b : Int) == 0) = false := by rw [beq_eq_false_iff_ne]; omega
  have a4 : ¬ (b : Int) < 0 := by omega
  clear hk
  have hz := dig_size b
  generalize (⟨(dig b).toArray⟩ : ByteArray) = m at c2 c3 hz
  go_enter Tryd.func3, Tryd.ntmps3
  go_wp2_with (first
    | (go_at_call 7; (with_reducible refine (c1.out _).mono ?_); rintro e w' ⟨rfl, rfl⟩)
    | (go_at_call 7; (with_reducible refine (c2.out _).mono ?_); rintro e w' ⟨rfl, rfl⟩)
    | (go_at_call 8; refine (c3.out _).mono ?_; rintro e w' ⟨rfl, hb1⟩))
  all_goals
    go_ret
    exact ⟨rfl, hb1⟩

set_option maxRecDepth 100000 in
set_option maxHeartbeats 4000000 in
theorem lawOther (a b : Nat) (ha : a < 100) (hb : b < 100) (h1 : a ≠ 1) (h2 : a ≠ 2) (w : World) :
    Calls Tryd.prog 3 #[.int .i64 a, .int .i64 b] w fun e w' => e = .returned (.bool true) ∧ Below w.heap.size w w' := by
  have c1 := Lib.hid fun w => text a ha w
  have c2 := Lib.hid fun w => text b hb w
  have hk : known a b = false := by simp [known, h1, h2]
  have c3 := Lib.hid fun w => unknownName a b ha hb hk (dig a) (dig b) rfl rfl w
  have a1 : ¬ (99 : Int) < (a : Int) := by omega
  have a5 : ¬ (a : Int) < 0 := by omega
  have a2 : ¬ (99 : Int) < (b : Int) := by omega
  have a3 : ((a : Int) == 1) = false := by rw [beq_eq_false_iff_ne]; omega
  have a6 : ((a : Int) == 2) = false := by rw [beq_eq_false_iff_ne]; omega
  have a4 : ¬ (b : Int) < 0 := by omega
  clear hk
  have hz := dig_size b
  generalize (⟨(dig b).toArray⟩ : ByteArray) = m at c2 c3 hz
  have hy := dig_size a
  generalize (⟨(dig a).toArray⟩ : ByteArray) = l at c1 c3 hy
  go_enter Tryd.func3, Tryd.ntmps3
  go_wp2_with (first
    | (go_at_call 7; (with_reducible refine (c1.out _).mono ?_); rintro e w' ⟨rfl, rfl⟩)
    | (go_at_call 7; (with_reducible refine (c2.out _).mono ?_); rintro e w' ⟨rfl, rfl⟩)
    | (go_at_call 8; refine (c3.out _).mono ?_; rintro e w' ⟨rfl, hb1⟩))
  all_goals
    go_ret
    exact ⟨rfl, hb1⟩

set_option maxHeartbeats 1000000 in
theorem lawOut (a b : Int) (h : a < 0 ∨ 99 < a ∨ b < 0 ∨ 99 < b) (w : World) :
    Calls Tryd.prog 3 #[.int .i64 a, .int .i64 b] w fun e w' => e = .returned (.bool true) ∧ Below w.heap.size w w' := by
  by_cases h1 : a < 0
  · go_enter Tryd.func3, Tryd.ntmps3
    go_wp2_with fail
    go_ret
    exact ⟨rfl, Below.refl _ _⟩
  by_cases h2 : 99 < a
  · go_enter Tryd.func3, Tryd.ntmps3
    go_wp2_with fail
    go_ret
    exact ⟨rfl, Below.refl _ _⟩
  by_cases h3 : b < 0
  · go_enter Tryd.func3, Tryd.ntmps3
    go_wp2_with fail
    go_ret
    exact ⟨rfl, Below.refl _ _⟩
  have h4 : 99 < b := by omega
  clear h
  go_enter Tryd.func3, Tryd.ntmps3
  go_wp2_with fail
  go_ret
  exact ⟨rfl, Below.refl _ _⟩

def fnVersionTab (_ : World) : Prop := True
theorem fnVersion_tab {W : World} (_ : laidMetH Tryd.prog Rows.fnVersionRow.laid W) : fnVersionTab W := trivial

theorem fnVersion_walk (a b : Int) (w : World) (_ : fnVersionTab w) (_ : (Lit.int .i64 a).wf = true) (_ : (Lit.int .i64 b).wf = true) :
    Calls Tryd.prog 3 #[.int .i64 a, .int .i64 b] w fun e w' => e = .returned (.bool true) ∧ Below w.heap.size w w' := by
  by_cases h : a < 0 ∨ 99 < a ∨ b < 0 ∨ 99 < b
  · exact lawOut a b h w
  obtain ⟨m, rfl⟩ : ∃ m : Nat, a = m := ⟨a.toNat, by omega⟩
  obtain ⟨n, rfl⟩ : ∃ n : Nat, b = n := ⟨b.toNat, by omega⟩
  have hm : m < 100 := by omega
  have hn : n < 100 := by omega
  by_cases h1 : m = 1
  · subst h1
    by_cases h7 : 7 < n
    · exact lawOne n hn h7 w
    · rcases (show n = 0 ∨ n = 1 ∨ n = 2 ∨ n = 3 ∨ n = 4 ∨ n = 5 ∨ n = 6 ∨ n = 7 by omega) with rfl | rfl | rfl | rfl | rfl | rfl | rfl | rfl
      · exact law0 w
      · exact law1 w
      · exact law2 w
      · exact law3 w
      · exact law4 w
      · exact law5 w
      · exact law6 w
      · exact law7 w
  · by_cases h2 : m = 2
    · subst h2
      by_cases h0 : 0 < n
      · exact lawTwo n hn h0 w
      · obtain rfl : n = 0 := by omega
        exact law8 w
    · exact lawOther m n hm hn h1 h2 w
end Go.Proofs.YtlpeamghmhiefaaDoor
