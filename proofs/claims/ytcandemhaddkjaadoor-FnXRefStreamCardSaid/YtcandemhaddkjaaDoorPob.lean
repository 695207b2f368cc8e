/-
  model.xRefStreamObjectsFromSize and xRefStreamObjectsFromIndex.
-/
import Derived.Test.YtcandemhaddkjaaDoorObj
import Derived.Laws.MakeOwn
namespace Go.Proofs.YtcandemhaddkjaaDoor.xs
open Go.RowKit
set_option linter.unusedVariables false
set_option linter.unusedSimpArgs false

/-- The limits that impl sets. -/
def lim : Array Value := #[.int .i64 536870912, .int .i64 536870912, .int .i64 104857600, .int .i64 536870912, .int .i64 65536, .int .i64 65536, .int .i64 16777216, .int .i64 65536, .int .i64 100]

def ObsE (w : World) (size : Int) (l : List Int) (e : Ending) (w' : World) : Prop := ∃ v, e = .returned (.tuple #[v, .int .i64 size, .nilIface]) ∧ w'.ownsRow w.heap.size 3 1 v l.length (iv l) ∧ Below w.heap.size w w'

theorem info3s : ∃ i : TypeInfo, Tryd.prog.info? 3 = some i ∧ i.zero = some (.int .i64 0) ∧ i.size = 1 ∧ i.bytes = 8 := info_parts info3f

/-- make([]int, 0, sz). -/
theorem make22 (W : World) (sz : Nat) (h : sz ≤ 5000) (B : Nat) (hB : B ≤ W.heap.size) : ∃ w', (Instr.makeSlice 22 (.int .i64 0) (.int .i64 (sz : Int))).run Tryd.prog W = .ok (.slice (some ⟨W.heap.size, 0, none⟩) 0 sz) w' ∧ w'.ownsRow B 3 1 (.slice (some ⟨W.heap.size, 0, none⟩) 0 sz) 0 [] ∧ W.grownBy w' none := by
  obtain ⟨i, hi, hz, hs, hb⟩ := info3s
  exact run_make_own (P := Tryd.prog) W B 22 3 i _ 1 Tryd.underlying22 hi hz hs .i64 .i64 sz (by rw [hb]; omega) (by unfold maxLen; omega) hB

set_option maxHeartbeats 2000000 in
set_option maxRecDepth 100000 in
theorem fromSize29 (sz : Nat) (h : sz ≤ 5000) (w : World) : Calls Tryd.prog 29 #[.int .i64 (sz : Int), .agg lim] w fun e w' => ObsE w sz (runN 0 sz) e w' := by
  obtain ⟨W0, hW0⟩ : ∃ W, w.alloc (.cells lim 46) = W := ⟨_, rfl⟩
  have hs0 : W0.heap.size = w.heap.size + 1 := by rw [← hW0]; simp
  have hb0 : Below w.heap.size w W0 := by rw [← hW0]; exact (Below.refl _ _).alloc (Nat.le_refl _) _
  obtain ⟨W1, hmk, hown, hgr⟩ := make22 W0 sz h (w.heap.size + 1) (by omega)
  have hbel : Bel (w.heap.size + 1) [] W0 W1 := grown_bel hgr (by omega) (by simp)
  have hb1 : Below w.heap.size w W1 := hb0.trans (hbel.below' (by omega))
  rw [hs0] at hmk hown
  have HO : Hid (W1.ownsRow (w.heap.size + 1) 3 1 (.slice (some ⟨w.heap.size + 1, 0, none⟩) 0 sz) 0 (iv (runN 0 0))) := Lib.hid hown
  have HB1 := Lib.hid hb1
  have HHO := Lib.hid hs0
  have hsz1 := hbel.size
  have HS1 : Hid (w.heap.size + 1 ≤ W1.heap.size) := Lib.hid (by omega)
  rw [← hW0] at hmk
  clear hown hbel hb1 hb0 hgr hs0 hW0 hsz1
  unfold lim at hmk ⊢
  go_enter Tryd.func29, Tryd.ntmps29
  go_wp2_with fail
  go_loopw [7, 8] (fun o i wr => ∃ k : Nat, i = .int .i64 (k : Int) ∧ k ≤ sz ∧ Hid (wr.ownsRow (w.heap.size + 1) 3 1 o k (iv (runN 0 k))) ∧ Hid (Below w.heap.size w wr) ∧ Hid (w.heap.size + 1 ≤ wr.heap.size)) (fun _ i _ => sz - (intOf i).toNat)
  case atStart => exact ⟨0, rfl, by omega, HO, HB1, HS1⟩
  case round =>
    obtain ⟨k, rfl, hk, HW, HB, HS⟩ := hrel
    by_cases hlt : k < sz
    · obtain ⟨v', w', hrun, hown', hgr⟩ := app3 (wr.alloc (.cells #[.int .i64 (k : Int)] 3)) (w.heap.size + 1) _ k _ (HW.out.alloc _) ⟨wr.heap.size, 0, none⟩ (k : Int) (by simp [go_sem]) (by omega) (by have := HS.out; simp; omega) 22
      have hB' : Below w.heap.size w w' := (HB.out.alloc (by have := HB.out.size; omega) _).trans ((grown_bel hgr (B := w.heap.size + 1) (by have := HS.out; simp; omega) fun g hg => (own_block HW.out g hg).1).below' (by omega))
      have hS' : Hid (w.heap.size + 1 ≤ w'.heap.size) := Lib.hid (by have h1 := hgr.size; have h2 := HS.out; simp at h1; omega)
      have hO' : Hid (w'.ownsRow (w.heap.size + 1) 3 1 v' (k + 1) (iv (runN 0 (k + 1)))) := Lib.hid (by
        rw [runN_succ, iv_append]
        simpa [iv] using hown')
      have HB' := Lib.hid hB'
      clear hown' hB' hgr
      go_wp2_with (at_builtin; refine Lib.wpList_append_run _ rfl _ _ 22 22 rfl _ _ rfl rfl _ _ hrun ?_)
      go_roundw
      case rel => exact ⟨k + 1, by go_num, by omega, hO', HB', hS'⟩
      case measure => simp [intOf]; omega
    · obtain rfl : k = sz := by omega
      go_wp2_with fail
      go_ret3
      exact ⟨_, rfl, by rw [runN_length]; exact own_mono HW.out (by omega), HB.out⟩

theorem val32 (n : Int) (w : World) : Calls Tryd.prog 32 #[.int .i64 n] w fun e w' => e = .returned (.int .i64 n) ∧ w = w' := by
  go_enter Tryd.func32, Tryd.ntmps32
  go_wp2_with fail
  go_ret
  exact ⟨rfl, rfl⟩

/-- How far the outer loop is: the row's slice behind k pairs. -/
structure PSt (W wr : World) (B : Nat) (z : Nat → Int) (k : Nat) (o : Value) : Prop where
  own : wr.ownsRow B 3 1 o (outK z k).length (iv (outK z k))
  below : Bel B [] W wr

set_option maxHeartbeats 8000000 in
set_option maxRecDepth 100000 in
theorem fromIndex28 (v : Value) (K : Nat) (z : Nat → Int) (sz : Nat) (w : World) (hA : ArrI w v (2 * K) z) (hok : OkK (sz : Int) z K) (h : sz ≤ 5000) : Calls Tryd.prog 28 #[v, .int .i64 (sz : Int), .agg lim, .bool false] w fun e w' => ObsE w sz (outK z K) e w' := by
  obtain ⟨g, C, rfl, hC, hCm, hg, hc⟩ := hA
  obtain ⟨N, hN⟩ : ∃ N, 2 * K = N := ⟨_, rfl⟩
  rw [hN] at hC hc ⊢
  have hK5 : K ≤ 5000 := by
    have := (hok.bound (by omega) K (Nat.le_refl _))
    omega
  have hNi1 : ((N : Int) % 2 != 0) = false := by simp; omega
  have hNi2 : (N : Int) / 2 = (K : Int) := by omega
  obtain ⟨W0, hW0⟩ : ∃ W, w.alloc (.cells lim 46) = W := ⟨_, rfl⟩
  have hs0 : W0.heap.size = w.heap.size + 1 := by rw [← hW0]; simp
  have hb0 : Below w.heap.size w W0 := by rw [← hW0]; exact (Below.refl _ _).alloc (Nat.le_refl _) _
  have hlim : W0.heap[w.heap.size]? = some (.cells lim 46 (0, 0)) := by rw [← hW0]; exact heap_alloc_new w _
  obtain ⟨W1, hmk, hown, hgr⟩ := make22 W0 sz h (w.heap.size + 1) (by omega)
  have hbel : Bel (w.heap.size + 1) [] W0 W1 := grown_bel hgr (by omega) (by simp)
  rw [hs0] at hmk hown
  have HST : Hid (PSt W0 W1 (w.heap.size + 1) z 0 (.slice (some ⟨w.heap.size + 1, 0, none⟩) 0 sz)) := Lib.hid ⟨hown, hbel⟩
  have HB0 := Lib.hid hb0
  have HHO := Lib.hid hs0
  have HLIM := Lib.hid hlim
  have HOK := Lib.hid hok
  have HC0 : Hid (∀ i, i < N → W0.cell? ⟨g, i, none⟩ = some (.iface 73 (.int .i64 (z i)))) := Lib.hid fun i hi => (Kept.of_below hb0 []).cell (hc i hi) (by simp)
  have HG := Lib.hid hg
  have HN := Lib.hid hN
  have HW0 := Lib.hid hW0
  rw [← hW0] at hmk
  have hta : ∀ (n : Int) (w : World), (Instr.typeAssert (.iface 73 (.int .i64 n)) 64 73 true).run Tryd.prog w = .ok (.tuple #[.int .i64 n, .bool true]) w := fun _ _ => by kernel_rfl
  clear hown hbel hb0 hgr hs0 hW0 hlim hok hc hN hg
  unfold lim at hmk ⊢
  go_enter Tryd.func28, Tryd.ntmps28
  go_wp2_with fail
  clear hmk hNi1
  go_loopw [1, 11, 12, 13] (fun s o t i wr => s = .int .i64 (sz : Int) ∧ ∃ k : Nat, i = .int .i64 (k : Int) ∧ t = .int .i64 ((outK z k).length : Int) ∧ k ≤ K ∧ Hid (PSt W0 wr (w.heap.size + 1) z k o)) (fun _ _ _ i _ => K - (intOf i).toNat)
  case atStart => exact ⟨rfl, 0, rfl, rfl, by omega, HST⟩
  case round =>
    obtain ⟨rfl, k, rfl, rfl, hk, HS⟩ := hrel
    by_cases hlt : k < K
    · obtain ⟨q1, q2, q3, q4⟩ := HOK.out k hlt
      have q5 := HOK.out.bound (by omega) k (by omega)
      have hsv := HOK.out.start (by omega) k hlt
      have hcw : ∀ i, i < N → wr.cell? ⟨g, i, none⟩ = some (.iface 73 (.int .i64 (z i))) := fun i hi => HS.out.below.cell (HC0.out i hi) (by have := HG.out; show g < w.heap.size + 1; omega) (by simp)
      have hlm : wr.heap[w.heap.size]? = some (.cells lim 46 (0, 0)) := (HS.out.below.block _ (by omega) (by simp)).trans HLIM.out
      have l4 : wr.cell? ⟨w.heap.size, 4, none⟩ = some (.int .i64 65536) := cellsOf hlm 4
      have l7 : wr.cell? ⟨w.heap.size, 7, none⟩ = some (.int .i64 65536) := cellsOf hlm 7
      have c1 := hcw (k * 2) (by have := HN.out; omega)
      have c2 := hcw (k * 2 + 1) (by have := HN.out; omega)
      rw [Nat.mul_comm 2 k] at q1 q2 q3 q4 hsv
      obtain ⟨F, hF⟩ : ∃ F, z (k * 2) = F := ⟨_, rfl⟩
      obtain ⟨G, hG⟩ : ∃ G, z (k * 2 + 1) = G := ⟨_, rfl⟩
      rw [hF] at c1 q1 q4 hsv
      rw [hG] at c2 q2 q3 q4
      obtain ⟨c, rfl⟩ : ∃ c : Nat, G = (c : Int) := ⟨G.toNat, by omega⟩
      obtain ⟨L, hL⟩ : ∃ L, (outK z k).length = L := ⟨_, rfl⟩
      rw [hL] at q5 ⊢
      have hL5 : L ≤ 5000 := by omega
      have e4 : (k : Int) * 2 < (N : Int) := by have := HN.out; omega
      have e5 : (k : Int) * 2 + 1 < (N : Int) := by have := HN.out; omega
      have HX := Lib.hid (And.intro hF (And.intro hG hL))
      have HQ := Lib.hid (And.intro q1 q5)
      have HS2 : Hid (SIn W0 wr (w.heap.size + 1) z k 0 _) := Lib.hid ⟨by rw [runN_zero, List.append_nil]; exact HS.out.own, HS.out.below⟩
      clear hcw hlm hF hG hL q1 q5
      go_wp2_with (go_at_call 32; refine (val32 _ _).mono ?_; rintro e w' ⟨rfl, rfl⟩)
      obtain ⟨wo, rfl⟩ : ∃ wo : World, wo = wr := ⟨_, rfl⟩
      go_loopw [11, 20] (fun o2 j wr2 => ∃ q : Nat, j = .int .i64 (q : Int) ∧ q ≤ c ∧ Hid (SIn W0 wr2 (w.heap.size + 1) z k q o2)) (fun _ j _ => c - (intOf j).toNat)
      case atStart => exact ⟨0, rfl, by omega, HS2⟩
      case round =>
        obtain ⟨q, rfl, hq, HI⟩ := hrel
        by_cases hqc : q < c
        · have hbs : w.heap.size + 1 ≤ wr.heap.size := by have := HI.out.below.size; have := HHO.out; omega
          obtain ⟨o', w', hrun, hin⟩ := HI.out.round hbs (by have := HX.out.2.2; omega)
          rw [Nat.mul_comm 2 k, HX.out.1] at hrun
          have HIN := Lib.hid hin
          clear hin hbs
          go_wp2_with (at_builtin; refine Lib.wpList_append_run _ rfl _ _ 22 22 rfl _ _ rfl rfl _ _ hrun ?_)
          go_roundw
          case rel => exact ⟨q + 1, by go_num, by omega, HIN⟩
          case measure => simp [intOf]; omega
        · obtain rfl : q = c := by omega
          go_wp2_with fail
          go_roundw
          case rel =>
            obtain ⟨x1, x2, x3⟩ := HX.out
            have hl : (outK z (k + 1)).length = L + q := by
              simp only [outK, List.length_append, runN_length]
              rw [Nat.mul_comm 2 k, x2, x3]
              omega
            refine ⟨rfl, k + 1, by go_num, by rw [hl]; go_num, by omega, Lib.hid ⟨?_, HI.out.below⟩⟩
            have := HI.out.own
            rw [hl, ← x3]
            simp only [outK]
            rw [Nat.mul_comm 2 k, x2] at *
            exact this
          case measure => simp [intOf]; omega
    · obtain rfl : k = K := by omega
      go_wp2_with fail
      go_ret3
      exact ⟨_, rfl, own_mono HS.out.own (by omega), HB0.out.trans (HS.out.below.below' (by omega))⟩
end Go.Proofs.YtcandemhaddkjaaDoor.xs
