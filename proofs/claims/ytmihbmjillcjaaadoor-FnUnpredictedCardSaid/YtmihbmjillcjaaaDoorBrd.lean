/-
  (*bytes.Buffer).Read: a buffer is read from.
-/
import Derived.Test.YtmihbmjillcjaaaDoorPost17
import Derived.Lib.SliceRun
namespace Go.Proofs.YtmihbmjillcjaaaDoor.up
set_option linter.unusedVariables false
set_option linter.unusedSimpArgs false
open Go.RowKit

/-- The buffer in block b, whose N bytes z lie in block g, off of them read. -/
structure BufRd (w : World) (b g N : Nat) (z : Nat → Int) (off : Nat) : Prop where
  cells : ∃ (v : Value) (lr : Int), w.heap[b]? = some (.cells #[v, .int .i64 off, .int .i8 lr] 82 (0, 0)) ∧ ((N = 0 ∧ v = .slice none 0 0) ∨ ∃ cap, v = .slice (some ⟨g, 0, none⟩) N cap ∧ N ≤ cap ∧ cap ≤ maxLen)
  data : ∀ i, i < N → w.cell? ⟨g, i, none⟩ = some (.int .u8 (z i))
  ne : g ≠ b
  le : off ≤ N
  bound : N ≤ 100000

theorem BufRd.kept {w w' : World} {b g N off : Nat} {z : Nat → Int} {L : List Nat} (h : BufRd w b g N z off) (k : Kept L w w') (h1 : b ∉ L) (h2 : g ∉ L) : BufRd w' b g N z off := by
  obtain ⟨v, lr, hc, r⟩ := h.cells
  exact ⟨⟨v, lr, (k.block b (Array.getElem?_eq_some_iff.1 hc).1 h1).trans hc, r⟩, fun i hi => k.cell (h.data i hi) h2, h.ne, h.le, h.bound⟩
theorem BufRd.lt {w : World} {b g N off : Nat} {z : Nat → Int} (h : BufRd w b g N z off) : b < w.heap.size := by
  obtain ⟨v, lr, hc, r⟩ := h.cells
  exact (Array.getElem?_eq_some_iff.1 hc).1

set_option maxHeartbeats 1000000 in
theorem empty64 (w : World) (b g N : Nat) (z : Nat → Int) (off : Nat) (h : BufRd w b g N z off) :
    Calls Tryd.prog 64 #[.pointer (some ⟨b, 0, none⟩)] w fun e w' => e = .returned (.bool (decide (N ≤ off))) ∧ ∃ n, w' = w.drewN n := by
  obtain ⟨v, lr, hc, hv⟩ := h.cells
  have hb := h.bound
  have hle := h.le
  have c0 : w.cell? ⟨b, 0, none⟩ = some v := cellsOf hc 0
  have c1 : w.cell? ⟨b, 1, none⟩ = some (.int .i64 off) := cellsOf hc 1
  have hv2 : ∃ a cap, v = .slice a N cap := by
    rcases hv with ⟨rfl, rfl⟩ | ⟨cap, rfl, _⟩
    · exact ⟨_, _, rfl⟩
    · exact ⟨_, _, rfl⟩
  obtain ⟨a, cap, rfl⟩ := hv2
  clear hc h hv
  by_cases hlt : N ≤ off
  · obtain rfl : N = off := by omega
    rw [decide_eq_true (Nat.le_refl N)]
    go_enter Tryd.func64, Tryd.ntmps64
    go_wp2_with fail
    go_quiet (fail)
    go_wp2_with fail
    go_ret
    exact ⟨by simp, _, rfl⟩
  · have hlt2 : ¬ (N : Int) ≤ (off : Int) := by omega
    rw [decide_eq_false hlt]
    go_enter Tryd.func64, Tryd.ntmps64
    go_wp2_with fail
    go_quiet (fail)
    go_wp2_with fail
    go_ret
    exact ⟨by simp, _, rfl⟩

set_option maxHeartbeats 1000000 in
theorem reset61 (w : World) (b : Nat) (a : Option Addr) (n c : Nat) (off lr : Int) (hc : w.heap[b]? = some (.cells #[.slice a n c, .int .i64 off, .int .i8 lr] 82 (0, 0))) :
    Calls Tryd.prog 61 #[.pointer (some ⟨b, 0, none⟩)] w fun e w' => e = .returned (.tuple #[]) ∧ Kept [b] w w' := by
  have c0 : w.cell? ⟨b, 0, none⟩ = some (.slice a n c) := cellsOf hc 0
  have c1 : w.cell? ⟨b, 1, none⟩ = some (.int .i64 off) := cellsOf hc 1
  have c2 : w.cell? ⟨b, 2, none⟩ = some (.int .i8 lr) := cellsOf hc 2
  have f0 : w.frozen? ⟨b, 0, none⟩ = false := frozenOf hc 0
  have f1 : w.frozen? ⟨b, 1, none⟩ = false := frozenOf hc 1
  have f2 : w.frozen? ⟨b, 2, none⟩ = false := frozenOf hc 2
  clear hc
  go_enter Tryd.func61, Tryd.ntmps61
  go_wp2_with fail
  go_end0
  exact ⟨rfl, (((Kept.refl _ _).setCell (by simp) _).setCell (by simp) _).setCell (by simp) _⟩

set_option maxHeartbeats 2000000 in
set_option maxRecDepth 100000 in
theorem bread60_end (w : World) (b g N : Nat) (z : Nat → Int) (a : Option Addr) (n c : Nat) (ev : Value) (h : BufRd w b g N z N) (hn : 1 ≤ n) (hE : w.cell? ⟨0, 0, none⟩ = some ev) (hb0 : 0 ≠ b) :
    Calls Tryd.prog 60 #[.pointer (some ⟨b, 0, none⟩), .slice a n c] w fun e w' => e = .returned (.tuple #[.int .i64 0, ev]) ∧ Kept [b] w w' := by
  obtain ⟨v, lr, hc, hv⟩ := h.cells
  have c2 : w.cell? ⟨b, 2, none⟩ = some (.int .i8 lr) := cellsOf hc 2
  have f2 : w.frozen? ⟨b, 2, none⟩ = false := frozenOf hc 2
  obtain ⟨W0, hW0⟩ : ∃ W0, w.setCell ⟨b, 2, none⟩ (.int .i8 0) = W0 := ⟨_, rfl⟩
  have hc0 : W0.heap[b]? = some (.cells #[v, .int .i64 N, .int .i8 0] 82 (0, 0)) := by rw [← hW0]; exact heap_set hc 2 _
  have k0 : Kept [b] w W0 := by rw [← hW0]; exact (Kept.refl _ _).setCell (by simp) _
  have h0 : BufRd W0 b g N z N := ⟨⟨v, 0, hc0, hv⟩, fun i hi => k0.cell (h.data i hi) (by simp; exact h.ne), h.ne, h.le, h.bound⟩
  have hem := empty64 W0 b g N z N h0
  rw [decide_eq_true (Nat.le_refl N)] at hem
  have HEM := Lib.hid hem
  have hv2 : ∃ a cap, v = .slice a N cap := by
    rcases hv with ⟨rfl, rfl⟩ | ⟨cap, rfl, _⟩
    · exact ⟨_, _, rfl⟩
    · exact ⟨_, _, rfl⟩
  obtain ⟨a', cap, rfl⟩ := hv2
  have HRS := Lib.hid fun n => reset61 (W0.drewN n) b a' N cap N 0 hc0
  have HE0 := Lib.hid (k0.cell hE (by simpa using hb0))
  have K0 := Lib.hid k0
  have hni : ¬ (n : Int) = 0 := by omega
  have hni2 : ((n : Int) == 0) = false := by simpa using hni
  clear hc h hv hem hc0 k0 h0 hE
  go_enter Tryd.func60, Tryd.ntmps60
  go_wp2_with (first
    | (go_at_call 64; refine HEM.out.mono ?_; rintro e w1 ⟨rfl, n1, rfl⟩)
    | (go_at_call 61; refine (HRS.out _).mono ?_; rintro e w1 ⟨rfl, hk1⟩; refine Hid.out ?_))
  refine Lib.hid ?_
  have hE1 := hk1.cell (p := ⟨0, 0, none⟩) HE0.out (by simpa using hb0)
  have HK1 := Lib.hid hk1
  clear hk1 hW0 c2 f2
  go_wp2_with fail
  go_quiet (fail)
  go_wp2_with fail
  go_ret2
  exact ⟨rfl, ((K0.out.drewN _).trans HK1.out).drewN _⟩

theorem min_facts {k n N off : Nat} (h : k = min n (N - off)) (h1 : off < N) (h2 : 1 ≤ n) : 1 ≤ k ∧ off + k ≤ N ∧ k ≤ n := by omega
/-- A row over which k bytes z (from off on) are laid at o. -/
def lay8 (F : Nat → Value) (o k : Nat) (z : Nat → Int) (off : Nat) : Nat → Value := fun i => if i < o then F i else if i < o + k then .int .u8 (z (off + (i - o))) else F i

set_option maxHeartbeats 2000000 in
set_option maxRecDepth 100000 in
theorem bread60_row (w : World) (b g N : Nat) (z : Nat → Int) (off q o n c M k : Nat) (F : Nat → Value) (h : BufRd w b g N z off) (hoff : off < N) (hk : k = min n (N - off)) (hn : 1 ≤ n) (hr : w.rowIs q 5 M F) (hM : o + n ≤ M) (hqb : q ≠ b) (hqg : q ≠ g) :
    Calls Tryd.prog 60 #[.pointer (some ⟨b, 0, none⟩), .slice (some ⟨q, o, none⟩) n c] w fun e w' => e = .returned (.tuple #[.int .i64 k, .nilIface]) ∧ BufRd w' b g N z (off + k) ∧ w'.rowIs q 5 M (lay8 F o k z off) ∧ Kept [b, q] w w' := by
  obtain ⟨v, lr, hc, hv⟩ := h.cells
  obtain ⟨cap, rfl, hcap, hmax⟩ : ∃ cap, v = .slice (some ⟨g, 0, none⟩) N cap ∧ N ≤ cap ∧ cap ≤ maxLen := by
    rcases hv with ⟨rfl, rfl⟩ | h
    · omega
    · exact h
  obtain ⟨cur, hcur, hsz, hF⟩ := id hr
  have hb := h.bound
  have hne := h.ne
  obtain ⟨hk1, hkN, hkn⟩ := min_facts hk hoff hn
  have hdata := Lib.hid h.data
  have c2 : w.cell? ⟨b, 2, none⟩ = some (.int .i8 lr) := cellsOf hc 2
  have f2 : w.frozen? ⟨b, 2, none⟩ = false := frozenOf hc 2
  obtain ⟨W0, hW0⟩ : ∃ W0, w.setCell ⟨b, 2, none⟩ (.int .i8 0) = W0 := ⟨_, rfl⟩
  have hc0 : W0.heap[b]? = some (.cells #[.slice (some ⟨g, 0, none⟩) N cap, .int .i64 off, .int .i8 0] 82 (0, 0)) := by rw [← hW0]; exact heap_set hc 2 _
  have k0 : Kept [b] w W0 := by rw [← hW0]; exact (Kept.refl _ _).setCell (by simp) _
  have hem := empty64 W0 b g N z off ⟨⟨_, 0, hc0, .inr ⟨cap, rfl, hcap, hmax⟩⟩, fun i hi => k0.cell (h.data i hi) (by simpa using hne), hne, h.le, hb⟩
  rw [decide_eq_false (by omega)] at hem
  have HEM := Lib.hid hem
  have hcur0 : W0.heap[q]? = some (.cells cur 5 (0, 0)) := (k0.block q hr.lt (by simpa using hqb)).trans hcur
  have K0 := Lib.hid k0
  have HC0 := Lib.hid hc0
  have HCUR := Lib.hid hcur0
  have HSZ := Lib.hid hsz
  have HF := Lib.hid hF
  have HKK := Lib.hid hk
  have hnc : ¬ cap = off := by omega
  clear hc h hv hem hc0 k0 hr hcur hcur0 hsz hF hk
  go_enter Tryd.func60, Tryd.ntmps60
  go_wp2_with (go_at_call 64; refine HEM.out.mono ?_; rintro e w1 ⟨rfl, n1, rfl⟩)
  obtain ⟨V, hV⟩ : ∃ V, W0.drewN n1 = V := ⟨_, rfl⟩
  rw [hV]
  have hVb : V.heap[b]? = some (.cells #[.slice (some ⟨g, 0, none⟩) N cap, .int .i64 off, .int .i8 0] 82 (0, 0)) := by rw [← hV]; exact HC0.out
  have hVq : V.heap[q]? = some (.cells cur 5 (0, 0)) := by rw [← hV]; exact HCUR.out
  have v0 : V.cell? ⟨b, 0, none⟩ = some (.slice (some ⟨g, 0, none⟩) N cap) := cellsOf hVb 0
  have v1 : V.cell? ⟨b, 1, none⟩ = some (.int .i64 off) := cellsOf hVb 1
  have hsrc : ∀ j v, (bs8 k fun i => z (off + i))[j]? = some v → V.cell? ((⟨g, off, none⟩ : Addr).add j) = some v := by
    intro j v hj
    obtain ⟨hjm, rfl⟩ := bs8_inv hj
    rw [addr_add, ← hV]
    exact K0.out.cell (p := ⟨g, off + j, none⟩) (hdata.out (off + j) (by omega)) (by simpa using hne)
  have hcp := run_copy_row (P := Tryd.prog) V.drew 22 22 3 5 q o n c ⟨g, off, none⟩ (N - off) (cap - off) cur 5 (bs8 k fun i => z (off + i)) Tryd.underlying22 info5 hVq (by rw [bs8_length, HKK.out]; exact Nat.min_comm _ _) hsrc (by rw [bs8_length, HSZ.out]; omega) bs8_one
  rw [bs8_length] at hcp
  have hXr := row_splice (W := V.drew) (g := q) (o := o) (n := k) (M := M) hVq HSZ.out HF.out (fun i => z (off + i)) (by omega)
  rw [bs8_length] at hXr
  have hXk : Kept [q] V.drew (V.drew.setRow q (List.take o cur.toList ++ (bs8 k fun i => z (off + i)) ++ List.drop (o + k) cur.toList).toArray) := (Kept.refl _ _).setRow (by simp) _
  generalize V.drew.setRow q (List.take o cur.toList ++ (bs8 k fun i => z (off + i)) ++ List.drop (o + k) cur.toList).toArray = X at hcp hXr hXk
  have hXb : X.heap[b]? = some (.cells #[.slice (some ⟨g, 0, none⟩) N cap, .int .i64 off, .int .i8 0] 82 (0, 0)) := by
    rw [hXk.block b (Array.getElem?_eq_some_iff.1 hVb).1 (by simp; exact fun e => hqb e.symm)]
    exact hVb
  have x1 : X.cell? ⟨b, 1, none⟩ = some (.int .i64 off) := cellsOf hXb 1
  have y1 : X.frozen? ⟨b, 1, none⟩ = false := frozenOf hXb 1
  have x2 : X.cell? ⟨b, 2, none⟩ = some (.int .i8 0) := cellsOf hXb 2
  have y2 : X.frozen? ⟨b, 2, none⟩ = false := frozenOf hXb 2
  have HXr := Lib.hid hXr
  have HXk := Lib.hid hXk
  have HXb := Lib.hid hXb
  have HV := Lib.hid hV
  clear hXr hXk hXb hVb hVq hsrc hV hW0 c2 f2
  go_region
  go_wp2_with fail
  go_ret2
  have hk : Kept [b, q] w ((X.setCell ⟨b, 1, none⟩ (.int .i64 (off + k))).setCell ⟨b, 2, none⟩ (.int .i8 (-1))) := by
    refine ((Kept.trans ?_ (HXk.out.mono (by simp))).setCell (by simp) _).setCell (by simp) _
    rw [← HV.out]
    exact ((K0.out.mono (by simp)).drewN n1).drew
  refine ⟨rfl, ⟨⟨_, -1, by have := heap_set (heap_set HXb.out 1 (.int .i64 (off + k))) 2 (.int .i8 (-1)); simpa using this, .inr ⟨cap, rfl, hcap, hmax⟩⟩, fun i hi => hk.cell (hdata.out i hi) (by simp; omega), hne, hkN, hb⟩, ?_, hk⟩
  exact ((HXr.out.setOther (a := ⟨b, 1, none⟩) hqb _).setOther (a := ⟨b, 2, none⟩) hqb _)
end Go.Proofs.YtmihbmjillcjaaaDoor.up
