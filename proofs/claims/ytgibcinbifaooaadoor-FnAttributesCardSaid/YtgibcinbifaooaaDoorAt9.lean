/-
  FnAttributes: the law's walk.
-/
import Derived.Test.YtgibcinbifaooaaDoorAt8
import Derived.Lib.LaidU8T
import Derived.Lib.AppendIntMem
import Derived.Stop.LaidErr
namespace Go.Proofs.YtgibcinbifaooaaDoor.att
open Go.RowKit

theorem mk_mk (a b : List UInt8) : mkS a ++ mkS b = mkS (a ++ b) := by
  apply ByteArray.ext
  apply Array.toList_inj.1
  simp [mkS]
theorem mk_cat (a : List UInt8) (s : ByteArray) : mkS a ++ s = mkS (a ++ s.data.toList) := by
  rw [← mk_mk, mkS_of]
theorem cat_mk (s : ByteArray) (a : List UInt8) : s ++ mkS a = mkS (s.data.toList ++ a) := by
  rw [← mk_mk, mkS_of]

theorem gPow : Tryd.prog.globalNamed "internal/strconv.uint64pow10" = some 3 := by kernel_rfl
theorem text7 (n : Nat) (hn : n ≤ 2147483647) (w : World) (hT : Lib.TabIs Tryd.prog w "internal/strconv.uint64pow10" .u64 Lib.pow10Tab) :
    Calls Tryd.prog 7 #[.int .i64 (n : Int)] w fun e w' => e = .returned (.string (mkS (Lib.decDigits n))) ∧ Below w.heap.size w w' := by
  have hc := Lib.hid (Tryd.strconv_Itoa (n : Int) (by omega) (by omega) w hT)
  rw [Lib.itoa_nonneg] at hc
  have HD : Hid ((⟨(Lib.decDigits n).toArray⟩ : ByteArray) = mkS (Lib.decDigits n)) := Lib.hid rfl
  generalize (⟨(Lib.decDigits n).toArray⟩ : ByteArray) = D at *
  go_enter Tryd.func7, Tryd.ntmps7
  go_wp2_with (go_at_call 12; refine hc.out.mono ?_; rintro e w1 ⟨rfl, k, os, rfl⟩)
  go_ret
  exact ⟨by rw [← HD.out]; rfl, Lib.below_grow _ _ (Nat.le_refl _) _ _⟩


set_option maxHeartbeats 8000000 in
set_option maxRecDepth 100000 in
theorem law3 (s0 : ByteArray) (n : Int) (s2 : ByteArray) (g : Int) (s4 s5 : ByteArray) (w : World) (hT : Lib.TabIs Tryd.prog w "internal/strconv.uint64pow10" .u64 Lib.pow10Tab) :
    Calls Tryd.prog 3 #[.string s0, .int .i64 n, .string s2, .int .i64 g, .string s4, .string s5] w fun e w' => e = .returned (.bool true) ∧ Below w.heap.size w w' := by
  by_cases h0 : (2147483647 : Int) < (s0.size : Int)
  · clear hT
    go_enter Tryd.func3, Tryd.ntmps3
    go_wp2_with fail
    go_ret
    exact ⟨rfl, Below.refl _ _⟩
  by_cases h1 : (2147483647 : Int) < (s2.size : Int)
  · clear hT
    go_enter Tryd.func3, Tryd.ntmps3
    go_wp2_with fail
    go_ret
    exact ⟨rfl, Below.refl _ _⟩
  by_cases h2 : (2147483647 : Int) < (s4.size : Int)
  · clear hT
    go_enter Tryd.func3, Tryd.ntmps3
    go_wp2_with fail
    go_ret
    exact ⟨rfl, Below.refl _ _⟩
  by_cases h3 : (2147483647 : Int) < (s5.size : Int)
  · clear hT
    go_enter Tryd.func3, Tryd.ntmps3
    go_wp2_with fail
    go_ret
    exact ⟨rfl, Below.refl _ _⟩
  by_cases h4 : n < 0
  · clear hT
    go_enter Tryd.func3, Tryd.ntmps3
    go_wp2_with fail
    go_ret
    exact ⟨rfl, Below.refl _ _⟩
  by_cases h5 : 2147483647 < n
  · clear hT
    go_enter Tryd.func3, Tryd.ntmps3
    go_wp2_with fail
    go_ret
    exact ⟨rfl, Below.refl _ _⟩
  by_cases h6 : g < 0
  · clear hT
    go_enter Tryd.func3, Tryd.ntmps3
    go_wp2_with fail
    go_ret
    exact ⟨rfl, Below.refl _ _⟩
  by_cases h7 : 65535 < g
  · clear hT
    go_enter Tryd.func3, Tryd.ntmps3
    go_wp2_with fail
    go_ret
    exact ⟨rfl, Below.refl _ _⟩
  by_cases h8 : (1024 : Int) < (s5.size : Int)
  · clear hT
    go_enter Tryd.func3, Tryd.ntmps3
    go_wp2_with fail
    go_ret
    exact ⟨rfl, Below.refl _ _⟩
  have c4 := Lib.hid fun w => blanks4 s0 (by omega) w
  have c5 := Lib.hid fun w => spaces5 s2 (by omega) w
  have c6 := Lib.hid fun w => spaces5 s4 (by omega) w
  cases b4 : blanksB s0.data.toList
  · rw [b4] at c4
    clear hT c5 c6
    go_enter Tryd.func3, Tryd.ntmps3
    go_wp2_with (first
      | (go_at_call 4; refine (c4.out _).mono ?_; rintro e w1 ⟨rfl, rfl⟩))
    go_ret
    exact ⟨rfl, Below.refl _ _⟩
  cases b5 : spacesB s2.data.toList
  · rw [b4] at c4
    rw [b5] at c5
    clear hT c6
    go_enter Tryd.func3, Tryd.ntmps3
    go_wp2_with (first
      | (go_at_call 4; refine (c4.out _).mono ?_; rintro e w1 ⟨rfl, rfl⟩)
      | (go_at_call 5; (with_reducible refine (c5.out _).mono ?_); rintro e w1 ⟨rfl, rfl⟩))
    go_ret
    exact ⟨rfl, Below.refl _ _⟩
  cases b6 : spacesB s4.data.toList
  · rw [b4] at c4
    rw [b5] at c5
    rw [b6] at c6
    clear hT
    go_enter Tryd.func3, Tryd.ntmps3
    go_wp2_with (first
      | (go_at_call 4; refine (c4.out _).mono ?_; rintro e w1 ⟨rfl, rfl⟩)
      | (go_at_call 5; (with_reducible refine (c5.out _).mono ?_); rintro e w1 ⟨rfl, rfl⟩)
      | (go_at_call 5; (with_reducible refine (c6.out _).mono ?_); rintro e w1 ⟨rfl, rfl⟩))
    go_ret
    exact ⟨rfl, Below.refl _ _⟩
  rw [b4] at c4
  rw [b5] at c5
  rw [b6] at c6
  obtain ⟨N, rfl⟩ : ∃ N : Nat, n = N := ⟨n.toNat, by omega⟩
  obtain ⟨G, rfl⟩ : ∃ G : Nat, g = G := ⟨g.toNat, by omega⟩
  have z0 : s0.data.toList.length = s0.size := by rw [Lib.size_eq]
  have z2 : s2.data.toList.length = s2.size := by rw [Lib.size_eq]
  have z4 : s4.data.toList.length = s4.size := by rw [Lib.size_eq]
  have z5 : s5.data.toList.length = s5.size := by rw [Lib.size_eq]
  unfold blanksB at b4
  unfold spacesB at b5 b6
  simp only [Bool.and_eq_true, decide_eq_true_eq, ne_eq] at b4 b5 b6
  have lN := dd_len 9 N (by omega)
  have lG := dd_len 9 G (by omega)
  have H : Head s0.data.toList (Lib.decDigits N) s2.data.toList (Lib.decDigits G) s4.data.toList (N : Int) (G : Int) :=
    { cbef := b4.1, dn := fun c hc => dd_digit N c hc, nn := dd_ne N, ln := by omega, an := atoi_dd N, cbtw := b5.1, nb := b5.2.1, dg := fun c hc => dd_digit G c hc, ng := dd_ne G, lg := by omega, ag := atoi_dd G, caft := b6.1, na := b6.2.1, len := by have := b4.2; have := b5.2.2; have := b6.2.2; omega }
  have hat := attr6 (mkS (s0.data.toList ++ Lib.decDigits N ++ s2.data.toList ++ Lib.decDigits G ++ s4.data.toList ++ [111, 98, 106] ++ s5.data.toList)) (mkS s5.data.toList) (N : Int) (G : Int)
  have C6 := Lib.hid fun w => hat w fun L w c0 f0 => parse11 _ _ _ _ _ _ _ _ H (by omega) L w c0 f0
  rw [mkS_of] at C6
  have hTr := fun w => trimmed8 s5.data.toList (by omega) w
  rw [mkS_of] at hTr
  have C8 := Lib.hid hTr
  have e1 : s0 ++ mkS (Lib.decDigits N) = mkS (s0.data.toList ++ Lib.decDigits N) := cat_mk _ _
  have e2 : mkS (s0.data.toList ++ Lib.decDigits N) ++ s2 = mkS (s0.data.toList ++ Lib.decDigits N ++ s2.data.toList) := mk_cat _ _
  have e3 : mkS (s0.data.toList ++ Lib.decDigits N ++ s2.data.toList) ++ mkS (Lib.decDigits G) = mkS (s0.data.toList ++ Lib.decDigits N ++ s2.data.toList ++ Lib.decDigits G) := mk_mk _ _
  have e4 : mkS (s0.data.toList ++ Lib.decDigits N ++ s2.data.toList ++ Lib.decDigits G) ++ s4 = mkS (s0.data.toList ++ Lib.decDigits N ++ s2.data.toList ++ Lib.decDigits G ++ s4.data.toList) := mk_cat _ _
  have e5 : mkS (s0.data.toList ++ Lib.decDigits N ++ s2.data.toList ++ Lib.decDigits G ++ s4.data.toList) ++ ⟨#[111, 98, 106]⟩ = mkS (s0.data.toList ++ Lib.decDigits N ++ s2.data.toList ++ Lib.decDigits G ++ s4.data.toList ++ [111, 98, 106]) := mk_mk _ [111, 98, 106]
  have e6 : mkS (s0.data.toList ++ Lib.decDigits N ++ s2.data.toList ++ Lib.decDigits G ++ s4.data.toList ++ [111, 98, 106]) ++ s5 = mkS (s0.data.toList ++ Lib.decDigits N ++ s2.data.toList ++ Lib.decDigits G ++ s4.data.toList ++ [111, 98, 106] ++ s5.data.toList) := mk_cat _ _
  have y1 : (mkS (s0.data.toList ++ Lib.decDigits N)).size ≤ 5000 := by rw [mkS_size]; simp; omega
  have y2 : (mkS (s0.data.toList ++ Lib.decDigits N ++ s2.data.toList)).size ≤ 5000 := by rw [mkS_size]; simp; omega
  have y3 : (mkS (s0.data.toList ++ Lib.decDigits N ++ s2.data.toList ++ Lib.decDigits G)).size ≤ 5000 := by rw [mkS_size]; simp; omega
  have y4 : (mkS (s0.data.toList ++ Lib.decDigits N ++ s2.data.toList ++ Lib.decDigits G ++ s4.data.toList)).size ≤ 5000 := by rw [mkS_size]; simp; omega
  have y5 : (mkS (s0.data.toList ++ Lib.decDigits N ++ s2.data.toList ++ Lib.decDigits G ++ s4.data.toList ++ [111, 98, 106])).size ≤ 5000 := by rw [mkS_size]; simp; omega
  have yN : (mkS (Lib.decDigits N)).size ≤ 5000 := by rw [mkS_size]; omega
  have yG : (mkS (Lib.decDigits G)).size ≤ 5000 := by rw [mkS_size]; omega
  have y0 : s0.size ≤ 5000 := by omega
  have y22 : s2.size ≤ 5000 := by omega
  have y44 : s4.size ≤ 5000 := by omega
  have y55 : s5.size ≤ 5000 := by omega
  have HT := Lib.hid hT
  have HN : Hid (N ≤ 2147483647) := Lib.hid (by omega)
  have HG : Hid (G ≤ 2147483647) := Lib.hid (by omega)
  have C7 : Hid (∀ w', Below w.heap.size w w' → Calls Tryd.prog 7 #[.int .i64 (N : Int)] w' fun e w2 => e = .returned (.string (mkS (Lib.decDigits N))) ∧ Below w'.heap.size w' w2) := Lib.hid fun w' hb => text7 N HN.out w' (Go.Joins.tab_stays gPow HT.out hb (Nat.le_refl _))
  have C7b : Hid (∀ w', Below w.heap.size w w' → Calls Tryd.prog 7 #[.int .i64 (G : Int)] w' fun e w2 => e = .returned (.string (mkS (Lib.decDigits G))) ∧ Below w'.heap.size w' w2) := Lib.hid fun w' hb => text7 G HG.out w' (Go.Joins.tab_stays gPow HT.out hb (Nat.le_refl _))
  clear hT hat hTr H b4 b5 b6 z0 z2 z4 z5 lN lG
  generalize mkS (s0.data.toList ++ Lib.decDigits N ++ s2.data.toList ++ Lib.decDigits G ++ s4.data.toList ++ [111, 98, 106] ++ s5.data.toList) = X6 at *
  generalize mkS (s0.data.toList ++ Lib.decDigits N ++ s2.data.toList ++ Lib.decDigits G ++ s4.data.toList ++ [111, 98, 106]) = X5 at *
  generalize mkS (s0.data.toList ++ Lib.decDigits N ++ s2.data.toList ++ Lib.decDigits G ++ s4.data.toList) = X4 at *
  generalize mkS (s0.data.toList ++ Lib.decDigits N ++ s2.data.toList ++ Lib.decDigits G) = X3 at *
  generalize mkS (s0.data.toList ++ Lib.decDigits N ++ s2.data.toList) = X2 at *
  generalize mkS (s0.data.toList ++ Lib.decDigits N) = X1 at *
  generalize mkS (Lib.decDigits N) = DN at *
  generalize mkS (Lib.decDigits G) = DG at *
  generalize mkS (List.dropWhile bl s5.data.toList) = TR at *
  go_enter Tryd.func3, Tryd.ntmps3
  go_wp2_with (first
    | (go_at_call 4; refine (c4.out _).mono ?_; rintro e w1 ⟨rfl, rfl⟩)
    | (go_at_call 5; (with_reducible refine (c5.out _).mono ?_); rintro e w1 ⟨rfl, rfl⟩)
    | (go_at_call 5; (with_reducible refine (c6.out _).mono ?_); rintro e w1 ⟨rfl, rfl⟩)
    | (go_at_call 7; (with_reducible refine (C7.out _ (Below.refl _ _)).mono ?_); rintro e w1 ⟨rfl, k1⟩)
    | (go_at_call 7; (with_reducible refine (C7b.out _ k1).mono ?_); rintro e w2 ⟨rfl, k2⟩)
    | (go_at_call 6; refine (C6.out _).mono ?_; rintro e w3 ⟨rfl, k3⟩)
    | (go_at_call 8; refine (C8.out _).mono ?_; rintro e w4 ⟨rfl, rfl⟩))
  go_ret
  have n2 := Nat.le_trans k1.size k2.size
  exact ⟨rfl, (k1.trans (k2.mono k1.size)).trans (k3.mono n2)⟩
end Go.Proofs.YtgibcinbifaooaaDoor.att

namespace Go.Proofs.YtgibcinbifaooaaDoor
open Go.RowKit
def fnAttributesTab (w : World) : Prop := Lib.TabIs Tryd.prog w "internal/strconv.uint64pow10" .u64 Lib.pow10Tab
theorem fnAttributes_tab {W : World} (h : laidMetH Tryd.prog Rows.fnAttributesRow.laid W) : fnAttributesTab W := by
  have h : laidMet Tryd.prog Rows.fnAttributesRow.laid W := h
  have h := h.tail.tail
  have e : (Rows.laid_internal_strconv_uint64pow10 : DataW Unit) = Lib.tabData .u64 Lib.pow10Tab := by kernel_rfl
  rw [e] at h
  exact Lib.tabIs_of_head (g := 3) (t := 90) (n := 20) att.gPow (by kernel_rfl) (by kernel_rfl) Tryd.underlying75 (by kernel_rfl) (by kernel_rfl) h
theorem fnAttributes_walk (s0 : ByteArray) (n : Int) (s2 : ByteArray) (g : Int) (s4 s5 : ByteArray) (w : World) (h : fnAttributesTab w) (_ : s0.size ≤ maxLen) (_ : (Lit.int .i64 n).wf = true) (_ : s2.size ≤ maxLen) (_ : (Lit.int .i64 g).wf = true) (_ : s4.size ≤ maxLen) (_ : s5.size ≤ maxLen) :
    Calls Tryd.prog 3 #[.string s0, .int .i64 n, .string s2, .int .i64 g, .string s4, .string s5] w fun e w' => e = .returned (.bool true) ∧ Below w.heap.size w w' := att.law3 s0 n s2 g s4 s5 w h
end Go.Proofs.YtgibcinbifaooaaDoor