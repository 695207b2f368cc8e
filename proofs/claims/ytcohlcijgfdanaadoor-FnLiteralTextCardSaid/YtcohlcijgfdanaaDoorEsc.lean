/-
  FnEscape: Escape's contract.
-/
import Derived.Test.YtcohlcijgfdanaaDoorRows
import Derived.Test.YtcohlcijgfdanaaDoorEsp
import Derived.Test.YtcohlcijgfdanaaDoorShelfL
import Derived.WalkKit
import Derived.BigCall
import Derived.BigGuard
import Derived.Below
import Derived.Lib.Hide
import Derived.Lib.Strings
import Derived.Laws.Strings2
import Derived.Laws.Strings3
namespace Go.Proofs.YtcohlcijgfdanaaDoor.esc
open Go.RowKit

theorem get_of (t : ByteArray) (l : List UInt8) (ht : t.data.toList = l) (k : Nat) (h : k < t.size) (c : UInt8) (hc : l[k]? = some c) : t[k] = c := by
  rw [← ht] at hc
  have : t.data.toList[k]? = some (t[k]) := by
    rw [List.getElem?_eq_getElem (by rw [← Lib.size_eq]; exact h)]
    simp
    rfl
  rw [this] at hc
  exact Option.some.inj hc
theorem byteCells_snoc (l : List UInt8) (c : UInt8) : Lib.byteCells (l ++ [c]) = Lib.byteCells l ++ [.int .u8 (c.toNat : Int)] := by simp [Lib.byteCells]

/-- One byte more. -/
theorem bufB (B b : Nat) (l : List UInt8) (c : UInt8) (w : World) (h : Lib.IsBuffer 81 5 B b (Lib.byteCells l) w) (hBw : B ≤ w.heap.size) (hlen : l.length ≤ 100000000) :
    Calls Tryd.prog 67 #[.pointer (some ⟨b, 0, none⟩), .int .u8 c.toNat] w fun e w' => e = .returned .nilIface ∧ Lib.IsBuffer 81 5 B b (Lib.byteCells (l ++ [c])) w' ∧ Below B w w' := by
  rw [byteCells_snoc]
  refine (Tryd.Buffer_WriteByte_k B b _ _ w h hBw (Lib.byteCells_one _) (by rw [Lib.byteCells_length]; omega)).mono ?_
  rintro e w' ⟨rfl, h1, h2, _⟩
  exact ⟨rfl, h1, h2⟩

set_option maxHeartbeats 16000000 in
set_option maxRecDepth 100000 in
theorem escape (s : ByteArray) (hs : s.size ≤ 4096) (w : World) :
    Calls Tryd.prog 43 #[.string s] w fun e w' => (∃ g, e = .returned (.tuple #[.pointer (some ⟨g, 0, none⟩), .nilIface]) ∧ w'.cell? ⟨g, 0, none⟩ = some (.string ⟨(escL s.data.toList).toArray⟩)) ∧ Below w.heap.size w w' := by
  have h0 : Lib.IsBuffer 81 5 w.heap.size w.heap.size (Lib.byteCells []) (w.alloc (.cells #[.slice none 0 0, .int .i64 0, .int .i8 0] 81)) := Lib.fresh_isBuffer 81 5 w
  have b0 : Below w.heap.size w (w.alloc (.cells #[.slice none 0 0, .int .i64 0, .int .i8 0] 81)) := (Below.refl _ w).alloc (Nat.le_refl _) _
  obtain ⟨bs, hL⟩ : ∃ bs, s.data.toList = bs := ⟨_, rfl⟩
  have hLn : bs.length = s.size := by rw [← hL, Lib.size_eq]
  have hget := Lib.hid fun k h c => get_of s bs hL k h c
  rw [hL]
  clear hL
  go_enter Tryd.func43, Tryd.ntmps43
  go_wp2
  go_loopw [5, 6] (fun i _ wr => ∃ (k : Nat), i = .int .i64 k ∧ k ≤ s.size ∧ Lib.IsBuffer 81 5 w.heap.size w.heap.size (Lib.byteCells (escL (bs.take k))) wr ∧ Below w.heap.size w wr)
    (fun i _ _ => s.size - (intOf i).toNat)
  case atStart => exact ⟨0, rfl, by omega, h0, b0⟩
  case round =>
    obtain ⟨k, rfl, hk, hI, hnx⟩ := hrel
    have hsz := hnx.size
    clear h0 b0
    have hel : (escL (bs.take k)).length ≤ 8192 := by
      have := (escL_length (bs.take k)).2
      have h2 : (bs.take k).length ≤ bs.length := by simp; omega
      omega
    by_cases hkn : k < s.size
    · have htake : bs.take (k + 1) = bs.take k ++ [bs[k]'(by omega)] := by rw [List.take_succ_eq_append_getElem (by omega)]
      have hg := hget.out k hkn (bs[k]'(by omega)) (List.getElem?_eq_getElem (by omega))
      generalize bs[k]'(by omega) = c at hg htake
      have hc256 : c.toNat < 256 := c.toNat_lt
      clear hget
      cases hn : sp c.toNat
      · obtain ⟨h1, n1, n2, n3, n4, n5, n6, n7, n8⟩ := of_plain c hn
        have HE : Hid (escL (bs.take (k + 1)) = escL (bs.take k) ++ [c]) := Lib.hid (by rw [htake, escL_append, escL_cons, h1, escL_nil]; simp)
        clear htake hn h1
        go_wp2_with (go_at_call 67; refine (bufB w.heap.size w.heap.size _ c wr hI hsz (by omega)).mono ?_; rintro e w1 ⟨rfl, hI1, hb1⟩)
        go_roundw
        case rel =>
          have R : ∃ (k' : Nat), Value.int .i64 ((k : Int) + 1) = .int .i64 (k' : Nat) ∧ k' ≤ s.size ∧ Lib.IsBuffer 81 5 w.heap.size w.heap.size (Lib.byteCells (escL (bs.take k'))) w1 ∧ Below w.heap.size w w1 :=
            ⟨k + 1, rfl, by omega, by rw [HE.out]; exact hI1, hnx.trans hb1⟩
          first
          | exact R
          | ((repeat apply Exists.intro); exact ⟨R, rfl⟩)
        case measure => simp [intOf]; omega
      · obtain ⟨h1, hp⟩ := of_sp c hn
        have HE : Hid (escL (bs.take (k + 1)) = escL (bs.take k) ++ [92] ++ [escC c]) := Lib.hid (by rw [htake, escL_append, escL_cons, h1, escL_nil]; simp)
        have W2 : Hid (∀ (w2 : World) (x : Int), x = ((escC c).toNat : Int) → Lib.IsBuffer 81 5 w.heap.size w.heap.size (Lib.byteCells (escL (bs.take k) ++ [92])) w2 → w.heap.size ≤ w2.heap.size → Calls Tryd.prog 67 #[.pointer (some ⟨w.heap.size, 0, none⟩), .int .u8 x] w2 fun e w' => e = .returned .nilIface ∧ Lib.IsBuffer 81 5 w.heap.size w.heap.size (Lib.byteCells (escL (bs.take k) ++ [92] ++ [escC c])) w' ∧ Below w.heap.size w2 w') :=
          Lib.hid fun w2 x hx hI2 hs2 => by rw [hx]; exact bufB w.heap.size w.heap.size _ (escC c) w2 hI2 hs2 (by simp; omega)
        clear htake hn h1
        rcases hp with ⟨hc, hx⟩ | ⟨hc, hx⟩ | ⟨hc, hx⟩ | ⟨hc, hx⟩ | ⟨hc, hx⟩ | ⟨hc, hx⟩ | ⟨hc, hx⟩ | ⟨hc, hx⟩
        all_goals
          have HX := Lib.hid hx
          clear hx
          go_wp2_with (go_at_call 67; refine (bufB w.heap.size w.heap.size _ 92 wr hI hsz (by omega)).mono ?_; rintro e w1 ⟨rfl, hI1, hb1⟩; refine Hid.out ?_)
          refine Lib.hid ?_
          have hs1 : w.heap.size ≤ w1.heap.size := Nat.le_trans hsz hb1.size
          go_wp2_with (go_at_call 67; refine (W2.out w1 _ (by rw [HX.out]; rfl) hI1 hs1).mono ?_; rintro e w2 ⟨rfl, hI2, hb2⟩)
          go_roundw
          case rel =>
            have R : ∃ (k' : Nat), Value.int .i64 ((k : Int) + 1) = .int .i64 (k' : Nat) ∧ k' ≤ s.size ∧ Lib.IsBuffer 81 5 w.heap.size w.heap.size (Lib.byteCells (escL (bs.take k'))) w2 ∧ Below w.heap.size w w2 :=
              ⟨k + 1, rfl, by omega, by rw [HE.out]; exact hI2, (hnx.trans hb1).trans hb2⟩
            first
            | exact R
            | ((repeat apply Exists.intro); exact ⟨R, rfl⟩)
          case measure => simp [intOf]; omega
    · have hkk : k = s.size := by omega
      subst hkk
      have htake : bs.take s.size = bs := List.take_of_length_le (by omega)
      rw [htake] at hI
      clear htake hget
      go_wp2_with (go_at_call 68; refine (Tryd.Buffer_String w.heap.size w.heap.size _ wr hI).mono ?_; rintro e w1 ⟨rfl, n, rfl⟩; refine Hid.out ?_)
      refine Lib.hid ?_
      obtain ⟨W, hW⟩ : ∃ W, wr.drewN n = W := ⟨_, rfl⟩
      have hnxW : Below w.heap.size w W := by rw [← hW]; exact ⟨hnx.os, hnx.tape, hnx.output, hnx.size, hnx.block⟩
      have hsW := hnxW.size
      rw [hW]
      clear hW hI hnx
      go_wp2
      go_ret2
      exact ⟨⟨_, rfl, by simp [go_sem]⟩, hnxW.alloc hsW _⟩
end Go.Proofs.YtcohlcijgfdanaaDoor.esc
