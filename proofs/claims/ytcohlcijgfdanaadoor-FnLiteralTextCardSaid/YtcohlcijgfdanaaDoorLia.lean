/-
  FnLiteralText: what the reader of literal strings makes behind a reverse solidus.
-/
import Derived.Test.YtcohlcijgfdanaaDoorUnd
import Derived.Test.YtcohlcijgfdanaaDoorLit
namespace Go.Proofs.YtcohlcijgfdanaaDoor.lt
open Go.RowKit
open Go.Proofs.YtcohlcijgfdanaaDoor.esc (RS grown_set)

theorem octM_snoc : ∀ (l : List UInt8) (acc n : Nat) (c : UInt8), octM acc l = some n → od c = true → octM acc (l ++ [c]) = some (n * 8 + (c.toNat - 48))
  | [], acc, n, c, h, hc => by
    have hv : 48 ≤ c.toNat ∧ c.toNat ≤ 55 := by unfold od at hc; simpa using hc
    simp only [octM, Option.some.injEq] at h
    subst h
    simp [octM, hv]
  | x :: l, acc, n, c, h, hc => by
    simp only [octM, List.cons_append] at h ⊢
    split at h
    · rename_i hx
      rw [if_pos hx]
      exact octM_snoc l _ n c h hc
    · cases h
theorem octM_lt3 (l : List UInt8) (n : Nat) (h : octM 0 l = some n) (hl : l.length ≤ 3) : n < 512 := by
  have := octM_lt l 0 0 n (by decide) h
  have h3 : (8 : Nat) ^ (0 + l.length) ≤ 8 ^ 3 := Nat.pow_le_pow_right (by decide) (by omega)
  have : (8 : Nat) ^ 3 = 512 := by decide
  omega
theorem octB_of (l : List UInt8) (n : Nat) (h : octM 0 l = some n) (h0 : l ≠ []) (hl : l.length ≤ 3) : ((octB l).toNat : Int) = ((n % 256 : Nat) : Int) := by
  rw [octB_nat]
  have h1 : 0 < l.length := List.length_pos_iff.2 h0
  unfold ob
  rw [if_neg (by omega), h]

theorem i64_and_255 (n : Nat) (h : n < 9223372036854775808) : bits .and .i64 (n : Int) 255 = ((n % 256 : Nat) : Int) := by
  have h127 : (BitVec.ofInt 64 255).toNat = 2 ^ 8 - 1 := by decide
  have key : (BitVec.ofInt 64 (n : Int) &&& BitVec.ofInt 64 255).toNat = ((n : Int) % ((2 ^ 64 : Nat) : Int)).toNat % 2 ^ 8 := by
    rw [BitVec.toNat_and, BitVec.toNat_ofInt, h127, Nat.and_two_pow_sub_one_eq_mod]
  show IntKind.i64.wrap ((BitVec.ofInt 64 (n : Int) &&& BitVec.ofInt 64 255).toNat : Nat) = _
  rw [key, IntKind.wrap_i64]
  omega

/-- All but the place of the reader in block g stays. -/
def Same (g : Nat) (w w' : World) : Prop := (∀ i, i ≠ 1 → w'.cell? ⟨g, i, none⟩ = w.cell? ⟨g, i, none⟩) ∧ ∀ i, w'.frozen? ⟨g, i, none⟩ = w.frozen? ⟨g, i, none⟩
def GS (g : Nat) (w w' : World) : Prop := w.grownBy w' (some g) ∧ Same g w w'
theorem GS.refl (g : Nat) (w : World) : GS g w w := ⟨⟨rfl, rfl, rfl, Nat.le_refl _, fun _ _ _ => rfl⟩, fun _ _ => rfl, fun _ => rfl⟩
theorem GS.draws {g : Nat} {w w' : World} (h : GS g w w') (k : Nat) : GS g w (w'.drewN k) := ⟨⟨h.1.os, h.1.tape, h.1.output, h.1.size, h.1.block⟩, h.2⟩
theorem GS.set {g : Nat} {w w' : World} {x : Value} (h : GS g w w') : GS g w (w'.setCell ⟨g, 1, none⟩ x) :=
  ⟨grown_set h.1, fun i hi => (World.cell?_setCell_other _ _ _ _ (by simp only [ne_eq, Addr.mk.injEq, and_true, true_and]; omega)).trans (h.2.1 i hi), fun i => by
    have := h.2.2 i
    simpa [go_sem] using this⟩

theorem RS.drewN {g : Nat} {T : ByteArray} {n : Nat} {w : World} (h : RS g T n w) (k : Nat) : RS g T n (w.drewN k) := RS.on h rfl

/-- The bytes that are not octal digits: five letters, a line's end, others. -/
theorem escSpec (c : UInt8) (v : Int) (hv : (c = 110 ∧ v = 10) ∨ (c = 114 ∧ v = 13) ∨ (c = 116 ∧ v = 9) ∨ (c = 98 ∧ v = 8) ∨ (c = 102 ∧ v = 12)) (g : Nat) (T : ByteArray) (n : Nat) (w : World) (hS : RS g T n w) (hn : n < T.size) (hx : T[n] = c) (hz : T.size ≤ 10000) :
    Calls Tryd.prog 69 #[.pointer (some ⟨g, 0, none⟩)] w fun e w' => e = .returned (.tuple #[.int .u8 v, .bool true]) ∧ RS g T (n + 1) w' ∧ GS g w w' := by
  have HS := Lib.hid hS
  obtain ⟨c0, c1, c2, f1⟩ := hS
  rcases hv with ⟨rfl, rfl⟩ | ⟨rfl, rfl⟩ | ⟨rfl, rfl⟩ | ⟨rfl, rfl⟩ | ⟨rfl, rfl⟩
  all_goals
    go_enter Tryd.func69, Tryd.ntmps69
    go_wp2_with fail
    go_quiet (fail)
    go_wp2_with fail
    go_quiet (fail)
    go_wp2_with fail
    go_ret2
    refine ⟨rfl, ?_, GS.set (GS.draws (GS.refl g w) _)⟩
    exact RS.step (n := n) (m := n + 1) (RS.on HS.out rfl)

theorem escNl (g : Nat) (T : ByteArray) (n : Nat) (w : World) (hS : RS g T n w) (hn : n < T.size) (hx : T[n] = 10) (hz : T.size ≤ 10000) :
    Calls Tryd.prog 69 #[.pointer (some ⟨g, 0, none⟩)] w fun e w' => e = .returned (.tuple #[.int .u8 0, .bool false]) ∧ RS g T (n + 1) w' ∧ GS g w w' := by
  have HS := Lib.hid hS
  obtain ⟨c0, c1, c2, f1⟩ := hS
  go_enter Tryd.func69, Tryd.ntmps69
  go_wp2_with fail
  go_quiet (fail)
  go_wp2_with fail
  go_quiet (fail)
  go_wp2_with fail
  go_ret2
  refine ⟨rfl, ?_, GS.set (GS.draws (GS.refl g w) _)⟩
  exact RS.step (n := n) (m := n + 1) (RS.on HS.out rfl)

set_option maxHeartbeats 2000000 in
set_option maxRecDepth 100000 in
theorem escOther (d : Int) (m0 : d ≠ 110) (m1 : d ≠ 114) (m2 : d ≠ 116) (m3 : d ≠ 98) (m4 : d ≠ 102) (m5 : d ≠ 10) (m6 : d ≠ 13) (m7 : d < 48 ∨ ¬ d < 48 ∧ 55 < d) (g : Nat) (T : ByteArray) (n : Nat) (w : World) (hS : RS g T n w) (hn : n < T.size) (hx : ((T[n]'hn).toNat : Int) = d) (hz : T.size ≤ 10000) :
    Calls Tryd.prog 69 #[.pointer (some ⟨g, 0, none⟩)] w fun e w' => e = .returned (.tuple #[.int .u8 d, .bool true]) ∧ RS g T (n + 1) w' ∧ GS g w w' := by
  have HS := Lib.hid hS
  obtain ⟨c0, c1, c2, f1⟩ := hS
  rcases m7 with m7 | ⟨m7, m8⟩
  all_goals
    go_enter Tryd.func69, Tryd.ntmps69
    go_wp2_with fail
    go_quiet (fail)
    go_wp2_with fail
    go_quiet (fail)
    go_wp2_with fail
    go_ret2
    refine ⟨rfl, ?_, GS.set (GS.draws (GS.refl g w) _)⟩
    exact RS.step (n := n) (m := n + 1) (RS.on HS.out rfl)

theorem esc69 (c : UInt8) (ho : od c = false) (h10 : c ≠ 10) (h13 : c ≠ 13) (g : Nat) (T : ByteArray) (n : Nat) (w : World) (hS : RS g T n w) (hn : n < T.size) (hx : T[n] = c) (hz : T.size ≤ 10000) :
    Calls Tryd.prog 69 #[.pointer (some ⟨g, 0, none⟩)] w fun e w' => e = .returned (.tuple #[.int .u8 ((esv c).toNat : Int), .bool true]) ∧ RS g T (n + 1) w' ∧ GS g w w' := by
  by_cases h0 : c = 110
  · subst h0; exact escSpec 110 10 (by simp) g T n w hS hn hx hz
  by_cases h1 : c = 114
  · subst h1; exact escSpec 114 13 (by simp) g T n w hS hn hx hz
  by_cases h2 : c = 116
  · subst h2; exact escSpec 116 9 (by simp) g T n w hS hn hx hz
  by_cases h3 : c = 98
  · subst h3; exact escSpec 98 8 (by simp) g T n w hS hn hx hz
  by_cases h4 : c = 102
  · subst h4; exact escSpec 102 12 (by simp) g T n w hS hn hx hz
  have he : esv c = c := by
    unfold esv
    rw [if_neg h0, if_neg h1, if_neg h2, if_neg h3, if_neg h4]
  rw [he]
  have hne : ∀ k : UInt8, c ≠ k → (c.toNat : Int) ≠ (k.toNat : Int) := fun k hk e => hk (UInt8.toNat_inj.1 (by omega))
  have hov : ¬ (48 ≤ c.toNat ∧ c.toNat ≤ 55) := by unfold od at ho; simpa using ho
  exact escOther (c.toNat : Int) (hne 110 h0) (hne 114 h1) (hne 116 h2) (hne 98 h3) (hne 102 h4) (hne 10 h10) (hne 13 h13) (by omega) g T n w hS hn (by rw [hx]) hz
end Go.Proofs.YtcohlcijgfdanaaDoor.lt
