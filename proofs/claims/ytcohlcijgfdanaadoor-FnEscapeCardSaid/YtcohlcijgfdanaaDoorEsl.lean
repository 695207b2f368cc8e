/-
  FnEscape: the law's walk.
-/
import Derived.Test.YtcohlcijgfdanaaDoorUne
namespace Go.Proofs.YtcohlcijgfdanaaDoor.esc
open Go.RowKit

theorem below_drewN {B : Nat} {w w' : World} (h : Below B w w') (n : Nat) : Below B w (w'.drewN n) := ⟨h.os, h.tape, h.output, h.size, h.block⟩

theorem textOf (g : Nat) (s : ByteArray) (w : World) (h : w.cell? ⟨g, 0, none⟩ = some (.string s)) : Calls Tryd.prog 42 #[.pointer (some ⟨g, 0, none⟩), .nilIface] w fun e w' => e = .returned (.tuple #[.string s, .bool true]) ∧ w = w' := by
  go_enter Tryd.func42, Tryd.ntmps42
  go_wp2
  go_ret2
  exact ⟨rfl, rfl⟩

theorem implEscape (s : ByteArray) (hs : s.size ≤ 4096) (w : World) :
    Calls Tryd.prog 22 #[.string s] w fun e w' => e = .returned (.tuple #[.string ⟨(escL s.data.toList).toArray⟩, .bool true]) ∧ Below w.heap.size w w' := by
  have hc := Lib.hid (escape s hs w)
  generalize escL s.data.toList = l at hc ⊢
  go_enter Tryd.func22, Tryd.ntmps22
  go_wp2_with (first
    | (go_at_call 43; refine hc.out.mono ?_; rintro e w1 ⟨⟨g, rfl, hg⟩, hb⟩)
    | (go_at_call 42; refine (textOf g _ _ hg).mono ?_; rintro e w2 ⟨rfl, rfl⟩))
  go_ret2
  exact ⟨rfl, hb⟩

set_option maxHeartbeats 4000000 in
theorem literalBytes (s : ByteArray) (bs : List UInt8) (hs : s.data.toList = escL bs) (hb0 : bs.length ≤ 4096) (w : World) :
    Calls Tryd.prog 23 #[.string s] w fun e w' => e = .returned (.tuple #[.string ⟨bs.toArray⟩, .bool true]) ∧ Below w.heap.size w w' := by
  obtain ⟨T, hT⟩ : ∃ T : ByteArray, ((⟨#[40]⟩ : ByteArray) ++ s) ++ ⟨#[41]⟩ = T := ⟨_, rfl⟩
  have hTl : T.data.toList = 40 :: (escL bs ++ [41]) := by rw [← hT, ← hs]; simp
  have h12 := (escL_length bs).2
  have hsz : s.size ≤ 8192 := by rw [Lib.size_eq, hs]; omega
  obtain ⟨W, hW⟩ : ∃ W, w.alloc (.cells #[.string T, .int .i64 0, .int .i64 0, .int .i64 0, .bool false, .bool false] 49) = W := ⟨_, rfl⟩
  have hS : RS w.heap.size T 0 W := by
    rw [← hW]
    exact ⟨by simp [go_sem], by simp [go_sem], by simp [go_sem], by simp [go_sem]⟩
  have hB : Below w.heap.size w W := by rw [← hW]; exact (Below.refl _ _).alloc (Nat.le_refl _) _
  have hc := Lib.hid (literal w.heap.size T bs hTl hb0 W hS)
  have HB := Lib.hid hB
  have HW := Lib.hid hW
  clear hTl hs hS hB hW h12
  go_enter Tryd.func23, Tryd.ntmps23
  go_wp2_with (go_at_call 44; rw [HW.out]; refine hc.out.mono ?_; rintro e w1 ⟨rfl, hS1, hb1⟩; refine Hid.out ?_)
  refine Lib.hid ?_
  obtain ⟨c0, c1, c2, _⟩ := hS1
  have hb2 := HB.out.trans hb1
  have HB2 := Lib.hid hb2
  clear hb1 hb2 hc
  go_wp2_with fail
  go_quiet (fail)
  go_wp2_with fail
  go_ret2
  exact ⟨rfl, below_drewN HB2.out _⟩

set_option maxHeartbeats 4000000 in
theorem implUnescape (t : ByteArray) (bs : List UInt8) (ht : t.data.toList = escL bs) (hb0 : bs.length ≤ 4096) (w : World) :
    Calls Tryd.prog 24 #[.string t] w fun e w' => (∃ v, e = .returned (.tuple #[v, .bool true]) ∧ w'.ownsRow w.heap.size 5 1 v bs.length (Lib.byteCells bs)) ∧ Below w.heap.size w w' := by
  have hc := Lib.hid (unescape t bs ht hb0 w)
  clear ht hb0
  go_enter Tryd.func24, Tryd.ntmps24
  go_wp2_with (go_at_call 45; refine hc.out.mono ?_; rintro e w1 ⟨⟨v, rfl, hown⟩, hb⟩)
  go_quiet (fail)
  go_wp2_with fail
  go_ret2
  exact ⟨⟨v, rfl, hown⟩, below_drewN hb _⟩

theorem conv (v : Value) (l : List UInt8) (B : Nat) (W : World) (ho : W.ownsRow B 5 1 v l.length (Lib.byteCells l)) : (convert 29 9 v).run Tryd.prog W = .ok (.string ⟨l.toArray⟩) W := by
  rcases ho.2 with ⟨rfl, h0⟩ | ⟨g', cap, cur, rfl, -, -, -, -, -, -⟩
  · obtain rfl : l = [] := List.eq_nil_of_length_eq_zero h0
    rw [run_convert_bytes_string (P := Tryd.prog) W 29 9 5 none 0 0 Tryd.underlying29 Tryd.underlying5 Tryd.underlying9]
    rfl
  · exact run_convert_bytes_back (P := Tryd.prog) W 29 9 5 ⟨g', 0, none⟩ cap l Tryd.underlying29 Tryd.underlying5 Tryd.underlying9 (fun j hj => ho.cells (g := g') rfl j _ (by simp [Lib.byteCells, hj]))

set_option maxHeartbeats 8000000 in
theorem main (s : ByteArray) (hs : s.size ≤ 4096) (w : World) :
    Calls Tryd.prog 7 #[.string s] w fun e w' => e = .returned (.bool true) ∧ Below w.heap.size w w' := by
  obtain ⟨t, ht⟩ : ∃ t : ByteArray, t = ⟨(escL s.data.toList).toArray⟩ := ⟨_, rfl⟩
  have htd : t.data.toList = escL s.data.toList := by rw [ht]
  have hsl : s.data.toList.length ≤ 4096 := by rw [← Lib.size_eq]; exact hs
  have hC1 := Lib.hid fun w => implEscape s hs w
  have hM : (⟨s.data.toList.toArray⟩ : ByteArray) = s := Lib.mk_data s
  have hC2 := Lib.hid fun w => literalBytes t _ htd hsl w
  have hC3 := Lib.hid fun w => implUnescape t _ htd hsl w
  rw [← ht] at hC1
  rw [hM] at hC2
  have hs1 : ¬ (2147483647 : Int) < (s.size : Int) := by omega
  have hs2 : ¬ (4096 : Int) < (s.size : Int) := by omega
  clear ht htd hsl hM
  go_enter Tryd.func7, Tryd.ntmps7
  go_wp2_with (first
    | (go_at_call 22; refine (hC1.out _).mono ?_; rintro e w1 ⟨rfl, hb1⟩)
    | (go_at_call 23; refine (hC2.out _).mono ?_; rintro e w2 ⟨rfl, hb2⟩)
    | (go_at_call 24; refine (hC3.out _).mono ?_; rintro e w3 ⟨⟨v, rfl, hown⟩, hb3⟩; refine Hid.out ?_))
  refine Lib.hid ?_
  have hcv := conv v _ _ w3 hown
  rw [Lib.mk_data] at hcv
  have hbw := (hb1.trans (hb2.mono hb1.size)).trans (hb3.mono (Nat.le_trans hb1.size hb2.size))
  clear hown hb1 hb2 hb3
  go_wp2_with fail
  go_ret
  exact ⟨rfl, hbw⟩

set_option maxHeartbeats 4000000 in
theorem escape_walk (s : ByteArray) (w : World) :
    Calls Tryd.prog 7 #[.string s] w fun e w' => e = .returned (.bool true) ∧ Below w.heap.size w w' := by
  by_cases hs : s.size ≤ 4096
  · exact main s hs w
  · have hs2 : (4096 : Int) < (s.size : Int) := by omega
    by_cases hs1 : (2147483647 : Int) < (s.size : Int)
    · go_enter Tryd.func7, Tryd.ntmps7
      go_wp2_with fail
      go_ret
      exact ⟨rfl, Below.refl _ _⟩
    · go_enter Tryd.func7, Tryd.ntmps7
      go_wp2_with fail
      go_ret
      exact ⟨rfl, Below.refl _ _⟩
end Go.Proofs.YtcohlcijgfdanaaDoor.esc

namespace Go.Proofs.YtcohlcijgfdanaaDoor
open Go.RowKit
def fnEscapeTab (_ : World) : Prop := True
theorem fnEscape_tab {W : World} (_ : laidMetH Tryd.prog Rows.fnEscapeRow.laid W) : fnEscapeTab W := trivial
theorem fnEscape_walk (s : ByteArray) (w : World) (_ : fnEscapeTab w) (_ : s.size ≤ maxLen) :
    Calls Tryd.prog 7 #[.string s] w fun e w' => e = .returned (.bool true) ∧ Below w.heap.size w w' := esc.escape_walk s w
end Go.Proofs.YtcohlcijgfdanaaDoor
