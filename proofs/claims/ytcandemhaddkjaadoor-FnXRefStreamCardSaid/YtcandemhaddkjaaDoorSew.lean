/-
  spec.Sections: the walk.
-/
import Derived.Test.YtcandemhaddkjaaDoorRows
import Derived.Test.YtcandemhaddkjaaDoorSec
import Derived.Test.YtcandemhaddkjaaDoorKep
import Derived.WalkSpells
import Derived.BigCall
import Derived.BigGuard
import Derived.Deep.QuietTactic
import Derived.BigQuiet
import Derived.Deep.LoopGhost
import Derived.LoopN
import Derived.Outline
import Derived.Lib.AppendZeros
namespace Go.Proofs.YtcandemhaddkjaaDoor.xs
open Go.RowKit
set_option linter.unusedVariables false
set_option linter.unusedSimpArgs false

/-- A slice that reads as the first n of z, integers. -/
def IntsV (w : World) (v : Value) (n : Nat) (z : Nat → Int) : Prop := (v = .slice none 0 0 ∧ n = 0) ∨ ∃ (a : Addr) (C : Nat), v = .slice (some a) n C ∧ n ≤ C ∧ C ≤ maxLen ∧ ∀ i, i < n → w.cell? (a.add i) = some (.int .i64 (z i))

theorem IntsV.kept {w w' : World} {v : Value} {n : Nat} {z : Nat → Int} (h : IntsV w v n z) (k : Kept [] w w') : IntsV w' v n z := by
  rcases h with h | ⟨a, C, h1, h2, h3, h4⟩
  · exact .inl h
  · exact .inr ⟨a, C, h1, h2, h3, fun i hi => k.cell (h4 i hi) (by simp)⟩

/-- Integers as cells. -/
def iv (l : List Int) : List Value := l.map (Value.int .i64)
theorem iv_append (a b : List Int) : iv (a ++ b) = iv a ++ iv b := by simp [iv]

theorem info3f : (Tryd.prog.info? 3).map (fun i => (i.zero, i.size, i.bytes)) = some (some (.int .i64 0), 1, 8) := by kernel_rfl

/-- One integer appended to a row of the call's own. -/
theorem app3 (w : World) (base : Nat) (v : Value) (n : Nat) (xs : List Value) (hown : w.ownsRow base 3 1 v n xs) (ad : Addr) (x : Int) (hc : w.cell? ad = some (.int .i64 x)) (hn : n ≤ 1000000) (hb : base ≤ w.heap.size) (ty : TypeId) :
    ∃ v' w', (Builtin.append_ #[22, 22] ty #[v, .slice (some ad) 1 1]).run Tryd.prog w = .ok v' w' ∧ w'.ownsRow base 3 1 v' (n + 1) (xs ++ [.int .i64 x]) ∧ w.grownBy w' v.ownBlock := by
  obtain ⟨i, hi, hz, hs, hby⟩ := info_parts info3f
  obtain ⟨v', w', h1, h2, h3, _⟩ := run_append_own (P := Tryd.prog) (w := w) base 22 ty 3 i _ 1 8 Tryd.underlying22 hi hz hs hby rfl (by decide) v n xs hown ad 1 1 [.int .i64 x] (by simp) (fun j u hj => by
    rcases j with _ | j
    · simp at hj
      subst hj
      rw [Addr.add_zero']
      exact hc
    · simp at hj) (fun u hu => by simp at hu; subst hu; rfl) (by unfold maxLen; omega) (by omega) hb
  exact ⟨v', w', h1, h2, h3⟩

/-- What the pairs are: those of index; of none: one of all. -/
def Eff (size : Int) (N : Nat) (z : Nat → Int) (K : Nat) (z' : Nat → Int) : Prop := (N = 0 ∧ K = 1 ∧ z' = z0 size) ∨ (0 < N ∧ N = 2 * K ∧ z' = z)

/-- What Sections tells. -/
def Sect (w w' : World) (size : Int) (N : Nat) (z : Nat → Int) (x : Value) (b : Bool) : Prop :=
  Below w.heap.size w w' ∧ (b = true → 1 ≤ size ∧ size ≤ 5000 ∧ ∃ K z', Eff size N z K z' ∧ OkK size z' K ∧ w'.ownsRow w.heap.size 3 1 x (outK z' K).length (iv (outK z' K)))

def SectE (w : World) (size : Int) (N : Nat) (z : Nat → Int) (e : Ending) (w' : World) : Prop := ∃ x b, e = .returned (.tuple #[x, .bool b]) ∧ Sect w w' size N z x b

/-- How far the outer loop is. -/
structure SSt (W wr : World) (B : Nat) (size : Int) (z : Nat → Int) (k : Nat) (o : Value) : Prop where
  ok : OkK size z k
  own : wr.ownsRow B 3 1 o (outK z k).length (iv (outK z k))
  below : Bel B [] W wr
theorem SSt.len {W wr : World} {B : Nat} {size : Int} {z : Nat → Int} {k : Nat} {o : Value} (h : SSt W wr B size z k o) (hs : 0 ≤ size) : ((outK z k).length : Int) ≤ size := by
  have := h.ok.bound hs k (Nat.le_refl _)
  omega

/-- How far the inner loop is. -/
structure SIn (W wr : World) (B : Nat) (z : Nat → Int) (k j : Nat) (o : Value) : Prop where
  own : wr.ownsRow B 3 1 o ((outK z k).length + j) (iv (outK z k ++ runN (z (2 * k)) j))
  below : Bel B [] W wr


/-- One round of the inner loop. -/
theorem SIn.round {W wr : World} {B k j : Nat} {z : Nat → Int} {o : Value} (h : SIn W wr B z k j o) (hB : B ≤ wr.heap.size) (hl : (outK z k).length + j ≤ 1000000) :
    ∃ o' w', (Builtin.append_ #[22, 22] 22 #[o, .slice (some ⟨wr.heap.size, 0, none⟩) 1 1]).run Tryd.prog (wr.alloc (.cells #[.int .i64 (z (2 * k) + (j : Int))] 3)) = .ok o' w' ∧ SIn W w' B z k (j + 1) o' := by
  obtain ⟨o', w', h1, h2, h3⟩ := app3 (wr.alloc (.cells #[.int .i64 (z (2 * k) + (j : Int))] 3)) B o _ _ (h.own.alloc _) ⟨wr.heap.size, 0, none⟩ (z (2 * k) + (j : Int)) (by simp [go_sem]) hl (by simp; omega) 22
  refine ⟨o', w', h1, ?_, ?_⟩
  · rw [runN_succ, ← List.append_assoc, iv_append (outK z k ++ runN (z (2 * k)) j)]
    rw [← Nat.add_assoc]
    exact h2
  · exact h.below.trans (((Bel.refl B [] wr).alloc hB _).trans (grown_bel h3 (by simp; omega) fun g hg => (own_block h.own g hg).1))

/-- What is needed of the index ahead of the loop. -/
structure SPre (w W : World) (size : Int) (N0 : Nat) (z0' : Nat → Int) (a : Option Addr) (N C K : Nat) (z : Nat → Int) : Prop where
  eff : Eff size N0 z0' K z
  len : N = 2 * K
  data : IntsV W (.slice a N C) N z
  kept : Kept [] w W
  pos : 1 ≤ K
  most : N ≤ 2147483647
theorem SPre.cells {w W : World} {size : Int} {N0 : Nat} {z0' : Nat → Int} {a : Option Addr} {N C K : Nat} {z : Nat → Int} (h : SPre w W size N0 z0' a N C K z) : ∃ a', a = some a' ∧ N ≤ C ∧ C ≤ maxLen ∧ ∀ i, i < N → W.cell? (a'.add i) = some (.int .i64 (z i)) := by
  rcases h.data with ⟨e, h0⟩ | ⟨a', C', e, h1, h2, h3⟩
  · have := h.pos
    have := h.len
    omega
  · obtain ⟨rfl, rfl⟩ : a = some a' ∧ C = C' := by simpa using e
    exact ⟨a', rfl, h1, h2, h3⟩

set_option maxHeartbeats 4000000 in
set_option maxRecDepth 100000 in
theorem sections4 (size : Int) (v : Value) (N : Nat) (z : Nat → Int) (w : World) (hD : IntsV w v N z) (hN : (N : Int) ≤ 2147483647) :
    Calls Tryd.prog 4 #[.int .i64 size, v] w fun e w' => SectE w size N z e w' := by
  obtain ⟨a, C, rfl⟩ : ∃ a C, v = .slice a N C := by
    rcases hD with ⟨rfl, rfl⟩ | ⟨a, C, rfl, _⟩
    · exact ⟨_, _, rfl⟩
    · exact ⟨_, _, rfl⟩
  have HD := Lib.hid hD
  clear hD
  have hno : ∀ W, Below w.heap.size w W → SectE w size N z (.returned (.tuple #[.slice none 0 0, .bool false])) W := fun W h => ⟨_, _, rfl, h, fun e => by cases e⟩
  have HNO := Lib.hid hno
  clear hno
  by_cases hodd : N % 2 = 1
  · have h1 : (((N : Int) % 2) == 1) = true := by simp; omega
    go_enter Tryd.func4, Tryd.ntmps4
    go_wp2_with fail
    go_ret2
    exact HNO.out _ (Below.refl _ _)
  have h1 : (((N : Int) % 2) == 1) = false := by simp; omega
  by_cases hs1 : size < 1
  · go_enter Tryd.func4, Tryd.ntmps4
    go_wp2_with fail
    go_ret2
    exact HNO.out _ (Below.refl _ _)
  by_cases hs2 : 5000 < size
  · go_enter Tryd.func4, Tryd.ntmps4
    go_wp2_with fail
    go_ret2
    exact HNO.out _ (Below.refl _ _)
  obtain ⟨s0, hs0⟩ : ∃ s0, w.heap.size = s0 := ⟨_, rfl⟩
  have HS0 := Lib.hid hs0
  have HODD := Lib.hid hodd
  clear hs0 hodd
  have hW : ∃ W K z', (N = 0 → W = w.alloc (.cells #[.int .i64 0, .int .i64 size] 3) ∧ SPre w W size N z (some ⟨w.heap.size, 0, none⟩) 2 2 K z') ∧ (N ≠ 0 → W = w ∧ SPre w W size N z a N C K z') := by
    by_cases hN0 : N = 0
    · refine ⟨_, 1, z0 size, fun _ => ⟨rfl, .inl ⟨hN0, rfl, rfl⟩, rfl, .inr ⟨_, 2, rfl, Nat.le_refl _, by unfold maxLen; omega, fun i hi => ?_⟩, (Kept.refl _ _).alloc _, Nat.le_refl _, by omega⟩, fun h => absurd hN0 h⟩
      rcases (show i = 0 ∨ i = 1 by omega) with rfl | rfl <;> simp [go_sem, z0]
    · exact ⟨w, N / 2, z, fun h => absurd h hN0, fun _ => ⟨rfl, .inr ⟨by omega, by have := HODD.out; omega, rfl⟩, by have := HODD.out; omega, HD.out, Kept.refl _ _, by have := HODD.out; omega, by omega⟩⟩
  obtain ⟨W, K, z', hA, hB⟩ := hW
  have HA := Lib.hid hA
  have HB := Lib.hid hB
  clear hA hB
  have main : ∃ (V : Value) (N' C' : Nat) (a' : Option Addr), Hid (V = .slice a' N' C') ∧ Hid (SPre w W size N z a' N' C' K z') ∧ Hid (N = 0 → V = .slice (some ⟨w.heap.size, 0, none⟩) 2 2 ∧ W = w.alloc (.cells #[.int .i64 0, .int .i64 size] 3)) ∧ Hid (N ≠ 0 → V = .slice a N C ∧ W = w) := by
    by_cases hN0 : N = 0
    · exact ⟨_, _, _, _, Lib.hid rfl, Lib.hid (HA.out hN0).2, Lib.hid fun _ => ⟨rfl, (HA.out hN0).1⟩, Lib.hid fun h => absurd hN0 h⟩
    · exact ⟨_, _, _, _, Lib.hid rfl, Lib.hid (HB.out hN0).2, Lib.hid fun h => absurd h hN0, Lib.hid fun _ => ⟨rfl, (HB.out hN0).1⟩⟩
  obtain ⟨V, N', C', a', HV, HP, H0, H1⟩ := main
  clear HA HB
  by_cases hN0 : N = 0
  all_goals first
    | (have h2 : ((N : Int) == 0) = true := by (simp; omega)
       obtain ⟨e1, e2⟩ := H0.out hN0
       clear hN0
       go_enter Tryd.func4, Tryd.ntmps4
       go_wp2_with fail
       rw [← e1, ← e2]
       clear e1 e2 H0 H1 h1 h2)
    | (have h2 : ((N : Int) == 0) = false := by (simp; omega)
       obtain ⟨e1, e2⟩ := H1.out hN0
       clear hN0
       go_enter Tryd.func4, Tryd.ntmps4
       go_wp2_with fail
       rw [← e1, ← e2]
       clear e1 e2 H0 H1 h1 h2)
  all_goals
    have hv := HV.out
    clear HV
    subst hv
    obtain ⟨a', rfl, hNC, hCm, hcells⟩ := HP.out.cells
    have hlen := HP.out.len
    have hmost := HP.out.most
    have HCL := Lib.hid hcells
    have HLEN := Lib.hid hlen
    clear hcells hlen
    obtain ⟨B, hB⟩ : ∃ B, W.heap.size = B := ⟨_, rfl⟩
    have HBB := Lib.hid hB
    clear hB
    go_loopw [6, 7, 8] (fun o e i wr => ∃ k : Nat, i = .int .i64 ((2 * k : Nat) : Int) ∧ e = .int .i64 (endK z' k) ∧ k ≤ K ∧ Hid (SSt W wr B size z' k o)) (fun _ _ i _ => N' - (intOf i).toNat)
    case atStart => exact ⟨0, rfl, rfl, by omega, Lib.hid ⟨OkK.zero _ _, ⟨rfl, .inl ⟨rfl, rfl⟩⟩, Bel.refl _ _ _⟩⟩
    case round =>
      obtain ⟨k, rfl, rfl, hk, HS⟩ := hrel
      obtain ⟨P, hP⟩ : ∃ P, 2 * k = P := ⟨_, rfl⟩
      have hbl : Hid (B ≤ wr.heap.size) := Lib.hid (by rw [← HBB.out]; exact HS.out.below.size)
      have hb0 : Hid (Below w.heap.size w wr) := Lib.hid (Below.trans (HP.out.kept.below (Nat.le_refl _) (by simp)) (HS.out.below.below' (by rw [← HBB.out]; exact HP.out.kept.size)))
      by_cases hlt : k < K
      · have hPN : P + 1 < N' := by have := HLEN.out; omega
        have hci : ∀ i, i < N' → wr.cell? (a'.add i) = some (.int .i64 (z' i)) := fun i hi => by
          have h := HCL.out i hi
          exact HS.out.below.cell h (by rw [← HBB.out]; have := World.block_lt_of_cell? _ _ h; exact this) (by simp)
        have c1 := hci P (by omega)
        have c2 := hci (P + 1) hPN
        rw [Addr.add_succ'] at c2
        have hE0 := (HS.out.ok.bound (by omega) k (Nat.le_refl _)).1
        have hlen0 := HS.out.len (by omega)
        obtain ⟨E, hE⟩ : ∃ E, endK z' k = E := ⟨_, rfl⟩
        obtain ⟨F, hF⟩ : ∃ F, z' P = F := ⟨_, rfl⟩
        obtain ⟨G, hG⟩ : ∃ G, z' (P + 1) = G := ⟨_, rfl⟩
        rw [hP, hE]
        rw [hF] at c1
        rw [hG] at c2
        rw [hE] at hE0
        have HE := Lib.hid (And.intro hP (And.intro hE (And.intro hF hG)))
        have e1 : IntKind.i64.wrap ((P : Int) + 1) = (P : Int) + 1 := IntWalk.i64_in _ (by omega)
        have e2 : ((P : Int) + 1).toNat = P + 1 := by omega
        have e3 : (0 : Int) ≤ (P : Int) + 1 := by omega
        have e4 : (P : Int) < (N' : Int) := by omega
        have e5 : (P : Int) + 1 < (N' : Int) := by omega
        have HLT := Lib.hid hlt
        clear hci hP hE hF hG hlt
        by_cases hq1 : F < E
        · go_wp2_with fail
          go_quiet (fail)
          clear e1
          go_wp2_with fail
          go_ret2
          exact HNO.out _ (hb0.out.trans (((Bel.refl w.heap.size [] wr).drewN _).below' (Nat.le_refl _)))
        by_cases hq2 : G < 1
        · go_wp2_with fail
          go_quiet (fail)
          clear e1
          go_wp2_with fail
          go_ret2
          exact HNO.out _ (hb0.out.trans (((Bel.refl w.heap.size [] wr).drewN _).below' (Nat.le_refl _)))
        by_cases hq3 : 5000 < G
        · go_wp2_with fail
          go_quiet (fail)
          clear e1
          go_wp2_with fail
          go_ret2
          exact HNO.out _ (hb0.out.trans (((Bel.refl w.heap.size [] wr).drewN _).below' (Nat.le_refl _)))
        obtain ⟨c, rfl⟩ : ∃ c : Nat, G = (c : Int) := ⟨G.toNat, by omega⟩
        by_cases hq4 : size - (c : Int) < F
        · go_wp2_with fail
          go_quiet (fail)
          clear e1
          go_wp2_with fail
          go_ret2
          exact HNO.out _ (hb0.out.trans (((Bel.refl w.heap.size [] wr).drewN _).below' (Nat.le_refl _)))
        have HS2 : Hid (SIn W wr B z' k 0 _) := Lib.hid ⟨by rw [runN_zero, List.append_nil]; exact HS.out.own, HS.out.below⟩
        obtain ⟨L, hL⟩ : ∃ L, (outK z' k).length = L := ⟨_, rfl⟩
        rw [hL] at hlen0
        have HL := Lib.hid hL
        clear hL
        go_wp2_with fail
        go_quiet (fail)
        clear e1
        go_wp2_with fail
        obtain ⟨wo, rfl⟩ : ∃ wo : World, wo = wr := ⟨_, rfl⟩
        go_loopw [6, 63] (fun o2 j wr2 => ∃ q : Nat, j = .int .i64 (q : Int) ∧ q ≤ c ∧ Hid (SIn W wr2 B z' k q o2)) (fun _ j _ => c - (intOf j).toNat)
        case atStart => exact ⟨0, rfl, by omega, Lib.hid ⟨HS2.out.own, HS2.out.below.drewN _⟩⟩
        case round =>
          obtain ⟨q, rfl, hq, HI⟩ := hrel
          by_cases hqc : q < c
          · have hbs : B ≤ wr.heap.size := by rw [← HBB.out]; exact HI.out.below.size
            obtain ⟨o', w', hrun, hin⟩ := HI.out.round hbs (by have := HL.out; omega)
            rw [HE.out.1, HE.out.2.2.1] at hrun
            have HIN := Lib.hid hin
            clear hin hbs
            go_wp2_with (at_builtin; refine Lib.wpList_append_run _ rfl _ _ 22 22 rfl _ _ rfl rfl _ _ hrun ?_)
            go_roundw
            case rel => exact ⟨q + 1, by go_num, by omega, HIN⟩
            case measure => simp [intOf]; omega
          · obtain rfl : q = c := by omega
            go_wp2_with fail
            go_roundw
            case rel =>
              obtain ⟨x1, x2, x3, x4⟩ := HE.out
              refine ⟨k + 1, by go_num, ?_, by have := HLT.out; omega, Lib.hid ⟨?_, ?_, HI.out.below⟩⟩
              · simp only [endK]
                rw [x1, x3, x4]
              · refine HS.out.ok.succ ?_ ?_ ?_ ?_ <;> rw [x1]
                · rw [x2, x3]; omega
                · rw [x4]; omega
                · rw [x4]; omega
                · rw [x3, x4]; omega
              · have := HI.out.own
                simp only [outK, List.length_append, runN_length]
                rw [x1, x4] at *
                exact this
            case measure => simp [intOf]; omega
      · obtain rfl : k = K := by omega
        have e4 : ¬ (P : Int) < (N' : Int) := by have := HLEN.out; omega
        rw [hP]
        go_wp2_with fail
        go_ret2
        refine ⟨_, _, rfl, hb0.out, fun _ => ⟨by omega, by omega, k, z', HP.out.eff, HS.out.ok, own_mono HS.out.own ?_⟩⟩
        rw [← HBB.out]
        exact HP.out.kept.size
end Go.Proofs.YtcandemhaddkjaaDoor.xs
