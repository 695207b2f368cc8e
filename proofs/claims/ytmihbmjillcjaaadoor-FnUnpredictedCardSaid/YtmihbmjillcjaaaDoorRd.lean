/-
  (*bytes.Reader).Read, io.ReadAtLeast, io.ReadFull: a reader over a row of bytes.
-/
import Derived.Test.YtmihbmjillcjaaaDoorUph
import Derived.Laws.CopyRow
import Derived.Lib.Buffer
import Derived.Deep.RegionWith
import Derived.Deep.Draws
import Derived.Outline
namespace Go.Proofs.YtmihbmjillcjaaaDoor.up
set_option linter.unusedVariables false
set_option linter.unusedSimpArgs false
open Go.RowKit

/-- New blocks, and writes to the blocks of L alone. -/
structure Kept (L : List Nat) (w w' : World) : Prop where
  os : w'.os = w.os
  tape : w'.tape = w.tape
  output : w'.output = w.output
  size : w.heap.size ≤ w'.heap.size
  block : ∀ k, k < w.heap.size → k ∉ L → w'.heap[k]? = w.heap[k]?

theorem Kept.refl (L : List Nat) (w : World) : Kept L w w := ⟨rfl, rfl, rfl, Nat.le_refl _, fun _ _ _ => rfl⟩
theorem Kept.trans {L : List Nat} {a b c : World} (h : Kept L a b) (k : Kept L b c) : Kept L a c :=
  ⟨k.os.trans h.os, k.tape.trans h.tape, k.output.trans h.output, Nat.le_trans h.size k.size, fun i hi hn => (k.block i (Nat.lt_of_lt_of_le hi h.size) hn).trans (h.block i hi hn)⟩
theorem Kept.mono {L L' : List Nat} {a b : World} (h : Kept L a b) (hl : ∀ x ∈ L, x ∈ L') : Kept L' a b := ⟨h.os, h.tape, h.output, h.size, fun i hi hn => h.block i hi (fun e => hn (hl i e))⟩
/-- What is written in new blocks counts for nothing. -/
theorem Kept.cut {L L' : List Nat} {a b : World} (h : Kept L a b) (hl : ∀ x ∈ L, x ∈ L' ∨ a.heap.size ≤ x) : Kept L' a b :=
  ⟨h.os, h.tape, h.output, h.size, fun i hi hn => h.block i hi (fun e => by rcases hl i e with h | h; exact hn h; omega)⟩
theorem Kept.alloc {L : List Nat} {a b : World} (h : Kept L a b) (o : Obj) : Kept L a (b.alloc o) :=
  h.trans ⟨rfl, rfl, rfl, by simp, fun _ hk _ => heap_alloc_old b o hk⟩
theorem Kept.setCell {L : List Nat} {a b : World} (h : Kept L a b) {p : Addr} (hp : p.block ∈ L) (v : Value) : Kept L a (b.setCell p v) :=
  h.trans ⟨rfl, rfl, rfl, by simp, fun k _ hn => Go.Deep.blk_setCell_other _ _ _ _ (fun e => hn (by rw [e]; exact hp))⟩
theorem Kept.drewN {L : List Nat} {a b : World} (h : Kept L a b) (n : Nat) : Kept L a (b.drewN n) := ⟨h.os, h.tape, h.output, h.size, h.block⟩
theorem Kept.drew {L : List Nat} {a b : World} (h : Kept L a b) : Kept L a b.drew := ⟨h.os, h.tape, h.output, h.size, h.block⟩
theorem Kept.of_grown {L : List Nat} {a b : World} {r : Nat} (h : a.grownBy b (some r)) (hr : r ∈ L) : Kept L a b := ⟨h.os, h.tape, h.output, h.size, fun k hk hn => h.block k hk (fun e => hn (by rw [Option.some.inj e]; exact hr))⟩
theorem Kept.of_below {a b : World} (h : Below a.heap.size a b) (L : List Nat) : Kept L a b := ⟨h.os, h.tape, h.output, h.size, fun k hk _ => h.block k hk⟩
theorem Kept.below {L : List Nat} {a b : World} {B : Nat} (h : Kept L a b) (hB : B ≤ a.heap.size) (hL : ∀ x ∈ L, B ≤ x) : Below B a b :=
  ⟨h.os, h.tape, h.output, h.size, fun k hk => h.block k (by omega) (fun e => by have := hL k e; omega)⟩
theorem Kept.cell {L : List Nat} {a b : World} (h : Kept L a b) {p : Addr} {v : Value} (hc : a.cell? p = some v) (hp : p.block ∉ L) : b.cell? p = some v :=
  (World.cell?_of_block (h.block _ (World.block_lt_of_cell? _ _ hc) hp)).trans hc
theorem Kept.row {L : List Nat} {a b : World} {k n : Nat} {t : TypeId} {f : Nat → Value} (h : Kept L a b) (hr : a.rowIs k t n f) (hp : k ∉ L) : b.rowIs k t n f := hr.of_block (h.block k hr.lt hp)
theorem Kept.setRow {L : List Nat} {a b : World} (h : Kept L a b) {g : Nat} (hg : g ∈ L) (c : Array Value) : Kept L a (b.setRow g c) := by
  refine h.trans ?_
  exact ⟨rfl, rfl, rfl, by simp [World.setRow], fun k _ hn => by simp [World.setRow, Array.getElem?_modify, show g ≠ k from fun e => hn (e ▸ hg)]⟩

/-- A reader in block rb over N bytes z in block db, at the place pos. -/
structure RdIs (w : World) (rb db N C : Nat) (z : Nat → Int) (pos : Nat) : Prop where
  cells : ∃ pr : Int, w.heap[rb]? = some (.cells #[.slice (some ⟨db, 0, none⟩) N C, .int .i64 pos, .int .i64 pr] 73 (0, 0))
  data : ∀ i, i < N → w.cell? ⟨db, i, none⟩ = some (.int .u8 (z i))
  le : pos ≤ N
  bound : N ≤ 100000
  ne : db ≠ rb
  cap : N ≤ C

theorem RdIs.kept {w w' : World} {rb db N C pos : Nat} {z : Nat → Int} {L : List Nat} (h : RdIs w rb db N C z pos) (k : Kept L w w') (h1 : rb ∉ L) (h2 : db ∉ L) : RdIs w' rb db N C z pos := by
  obtain ⟨pr, hc⟩ := h.cells
  exact ⟨⟨pr, (k.block rb (Array.getElem?_eq_some_iff.1 hc).1 h1).trans hc⟩, fun i hi => k.cell (h.data i hi) h2, h.le, h.bound, h.ne, h.cap⟩
theorem RdIs.lt {w : World} {rb db N C pos : Nat} {z : Nat → Int} (h : RdIs w rb db N C z pos) : rb < w.heap.size := by
  obtain ⟨pr, hc⟩ := h.cells
  exact (Array.getElem?_eq_some_iff.1 hc).1

theorem cellsOf {w : World} {b : Nat} {c : Array Value} {t : TypeId} (h : w.heap[b]? = some (.cells c t (0, 0))) (o : Nat) : w.cell? ⟨b, o, none⟩ = c[o]? := Lib.cell_of_heap h o
theorem frozenOf {w : World} {b : Nat} {c : Array Value} {t : TypeId} (h : w.heap[b]? = some (.cells c t (0, 0))) (o : Nat) : w.frozen? ⟨b, o, none⟩ = false := Lib.frozen_of_heap h o
theorem drewN_drewN (w : World) (a b : Nat) : (w.drewN a).drewN b = w.drewN (a + b) := by simp [World.drewN, Nat.add_assoc]
theorem info5 : (Tryd.prog.info? 5).map (·.size) = some 1 := by kernel_rfl

theorem heap_set {w : World} {b : Nat} {c : Array Value} {t : TypeId} (h : w.heap[b]? = some (.cells c t (0, 0))) (o : Nat) (v : Value) : (w.setCell ⟨b, o, none⟩ v).heap[b]? = some (.cells (c.setIfInBounds o v) t (0, 0)) := by
  simp [World.setCell, Array.getElem?_modify, h]

/-- Bytes as cells. -/
def bs8 (n : Nat) (f : Nat → Int) : List Value := (List.range n).map fun i => .int .u8 (f i)
theorem bs8_length (n : Nat) (f : Nat → Int) : (bs8 n f).length = n := by simp [bs8]
theorem bs8_get {n : Nat} {f : Nat → Int} {i : Nat} (h : i < n) : (bs8 n f)[i]? = some (.int .u8 (f i)) := by simp [bs8, h]
theorem bs8_one {n : Nat} {f : Nat → Int} : ∀ v ∈ bs8 n f, v.oneCell' = true := by
  intro v hv
  simp only [bs8, List.mem_map] at hv
  obtain ⟨i, _, rfl⟩ := hv
  rfl
theorem bs8_inv {n : Nat} {f : Nat → Int} {i : Nat} {v : Value} (h : (bs8 n f)[i]? = some v) : i < n ∧ v = .int .u8 (f i) := by
  have hi : i < n := by
    have := (List.getElem?_eq_some_iff.1 h).1
    simpa [bs8] using this
  rw [bs8_get hi] at h
  exact ⟨hi, (Option.some.inj h).symm⟩

theorem addr_add (b o j : Nat) : (⟨b, o, none⟩ : Addr).add j = ⟨b, o + j, none⟩ := Lib.addr_add b o j

/-- A row over which n bytes are laid at o. -/
theorem row_splice {W : World} {g o n M : Nat} {cur : Array Value} {F : Nat → Value} (hg : W.heap[g]? = some (.cells cur 5 (0, 0))) (hM : cur.size = M) (hF : ∀ i, i < M → cur[i]? = some (F i)) (f : Nat → Int) (hfit : o + n ≤ M) :
    (W.setRow g (cur.toList.take o ++ bs8 n f ++ cur.toList.drop (o + (bs8 n f).length)).toArray).rowIs g 5 M (fun i => if i < o then F i else if i < o + n then .int .u8 (f (i - o)) else F i) := by
  refine ⟨_, setRow_heap W g cur _ 5 _ hg, ?_, fun i hi => ?_⟩
  · simp [bs8_length, hM]
    omega
  · show _ = some (if i < o then F i else if i < o + n then Value.int .u8 (f (i - o)) else F i)
    rw [List.getElem?_toArray, bs8_length]
    have hl : (cur.toList.take o).length = o := by simp [hM]; omega
    by_cases h1 : i < o
    · rw [if_pos h1, List.append_assoc, List.getElem?_append_left (by omega), List.getElem?_take_of_lt h1, Array.getElem?_toList, hF i hi]
    · rw [if_neg h1]
      by_cases h2 : i < o + n
      · rw [if_pos h2, List.append_assoc, List.getElem?_append_right (by omega), hl, List.getElem?_append_left (by rw [bs8_length]; omega), bs8_get (by omega)]
      · rw [if_neg h2, List.getElem?_append_right (by rw [List.length_append, hl, bs8_length]; omega), List.length_append, hl, bs8_length, List.getElem?_drop, Array.getElem?_toList, show o + n + (i - (o + n)) = i by omega, hF i hi]

set_option maxHeartbeats 2000000 in
set_option maxRecDepth 100000 in
theorem read59_end (w : World) (rb db N C : Nat) (z : Nat → Int) (p ev : Value) (h : RdIs w rb db N C z N) (hE : w.cell? ⟨0, 0, none⟩ = some ev) :
    Calls Tryd.prog 59 #[.pointer (some ⟨rb, 0, none⟩), p] w fun e w' => e = .returned (.tuple #[.int .i64 0, ev]) ∧ ∃ n, w' = w.drewN n := by
  obtain ⟨pr, hc⟩ := h.cells
  have hb := h.bound
  have c0 : w.cell? ⟨rb, 0, none⟩ = some (.slice (some ⟨db, 0, none⟩) N C) := cellsOf hc 0
  have c1 : w.cell? ⟨rb, 1, none⟩ = some (.int .i64 N) := cellsOf hc 1
  clear hc h
  go_enter Tryd.func59, Tryd.ntmps59
  go_wp2_with fail
  go_quiet (fail)
  go_wp2_with fail
  go_quiet (fail)
  go_wp2_with fail
  go_ret2
  exact ⟨rfl, _, drewN_drewN _ _ _⟩

set_option maxHeartbeats 2000000 in
set_option maxRecDepth 100000 in
theorem read59_row (w : World) (rb db N C : Nat) (z : Nat → Int) (pos m c bc : Nat) (F : Nat → Value) (h : RdIs w rb db N C z pos) (hm : 1 ≤ m) (hpm : pos + m ≤ N) (hr : w.rowIs bc 5 m F) (h1 : bc ≠ rb) (h2 : bc ≠ db) :
    Calls Tryd.prog 59 #[.pointer (some ⟨rb, 0, none⟩), .slice (some ⟨bc, 0, none⟩) m c] w fun e w' =>
      e = .returned (.tuple #[.int .i64 m, .nilIface]) ∧ RdIs w' rb db N C z (pos + m) ∧ w'.rowIs bc 5 m (r8 fun i => z (pos + i)) ∧ Kept [rb, bc] w w' := by
  obtain ⟨pr, hc⟩ := h.cells
  obtain ⟨cur, hcur, hsz, hF⟩ := id hr
  have hb := h.bound
  have hcap := h.cap
  have hnrd := h.ne
  have hlt := h.lt
  have hdata := Lib.hid h.data
  have c0 : w.cell? ⟨rb, 0, none⟩ = some (.slice (some ⟨db, 0, none⟩) N C) := cellsOf hc 0
  have c1 : w.cell? ⟨rb, 1, none⟩ = some (.int .i64 pos) := cellsOf hc 1
  have c2 : w.cell? ⟨rb, 2, none⟩ = some (.int .i64 pr) := cellsOf hc 2
  have f1 : w.frozen? ⟨rb, 1, none⟩ = false := frozenOf hc 1
  have f2 : w.frozen? ⟨rb, 2, none⟩ = false := frozenOf hc 2
  have HC := Lib.hid hc
  have HCUR := Lib.hid hcur
  have HF := Lib.hid hF
  have HSZ := Lib.hid hsz
  have HLT := Lib.hid hlt
  have hlt3 : ¬ (N : Int) ≤ (pos : Int) := by omega
  have hne : ¬ C = pos := by omega
  clear h hc hr hcur hF hsz hlt
  go_enter Tryd.func59, Tryd.ntmps59
  go_wp2_with fail
  go_quiet (fail)
  obtain ⟨W, hW⟩ : ∃ W, w.drewN nq = W := ⟨_, rfl⟩
  rw [hW]
  have k0 : W.cell? ⟨rb, 0, none⟩ = some (.slice (some ⟨db, 0, none⟩) N C) := by rw [← hW]; exact c0
  have k1 : W.cell? ⟨rb, 1, none⟩ = some (.int .i64 pos) := by rw [← hW]; exact c1
  have k2 : W.cell? ⟨rb, 2, none⟩ = some (.int .i64 pr) := by rw [← hW]; exact c2
  have g1 : W.frozen? ⟨rb, 1, none⟩ = false := by rw [← hW]; exact f1
  have g2 : W.frozen? ⟨rb, 2, none⟩ = false := by rw [← hW]; exact f2
  have HW := Lib.hid hW
  clear c0 c1 c2 f1 f2 hW
  go_wp2_with fail
  obtain ⟨V, hV⟩ : ∃ V, W.setCell ⟨rb, 2, none⟩ (.int .i64 (-1)) = V := ⟨_, rfl⟩
  rw [hV]
  have v0 : V.cell? ⟨rb, 0, none⟩ = some (.slice (some ⟨db, 0, none⟩) N C) := by rw [← hV]; simp [go_sem, k0]
  have v1 : V.cell? ⟨rb, 1, none⟩ = some (.int .i64 pos) := by rw [← hV]; simp [go_sem, k1]
  have u1 : V.frozen? ⟨rb, 1, none⟩ = false := by rw [← hV]; simp [go_sem, g1]
  have hVb : V.heap[bc]? = some (.cells cur 5 (0, 0)) := by
    rw [← hV, Go.Deep.blk_setCell_other _ _ _ _ h1, ← HW.out]
    exact HCUR.out
  have hsrc : ∀ j v, (bs8 m fun i => z (pos + i))[j]? = some v → V.cell? ((⟨db, pos, none⟩ : Addr).add j) = some v := by
    intro j v hj
    obtain ⟨hjm, rfl⟩ := bs8_inv hj
    rw [addr_add, ← hV, World.cell?_setCell_other _ _ _ _ (by simp only [ne_eq, Addr.mk.injEq, and_true]; omega), ← HW.out]
    exact hdata.out (pos + j) (by omega)
  have hcp := run_copy_row (P := Tryd.prog) V.drew 22 22 3 5 bc 0 m c ⟨db, pos, none⟩ (N - pos) (C - pos) cur 5 (bs8 m fun i => z (pos + i)) Tryd.underlying22 info5 hVb (by rw [bs8_length]; exact (Nat.min_eq_right (by omega)).symm) hsrc (by rw [bs8_length, HSZ.out]; omega) bs8_one
  rw [bs8_length] at hcp
  have HV := Lib.hid hV
  clear hV hsrc k0 k1 k2 g1 g2
  have hXr := row_splice (W := V.drew) (g := bc) (o := 0) (n := m) (M := m) hVb HSZ.out HF.out (fun i => z (pos + i)) (by omega)
  rw [bs8_length] at hXr
  have hXk : Kept [bc] V.drew (V.drew.setRow bc (List.take 0 cur.toList ++ (bs8 m fun i => z (pos + i)) ++ List.drop (0 + m) cur.toList).toArray) := (Kept.refl _ _).setRow (by simp) _
  generalize V.drew.setRow bc (List.take 0 cur.toList ++ (bs8 m fun i => z (pos + i)) ++ List.drop (0 + m) cur.toList).toArray = X at hcp hXr hXk
  have hVrb : V.heap[rb]? = some (.cells #[.slice (some ⟨db, 0, none⟩) N C, .int .i64 pos, .int .i64 (-1)] 73 (0, 0)) := by
    rw [← HV.out, ← HW.out]
    exact heap_set (w := w.drewN nq) HC.out 2 _
  have hXrb : X.heap[rb]? = some (.cells #[.slice (some ⟨db, 0, none⟩) N C, .int .i64 pos, .int .i64 (-1)] 73 (0, 0)) := by
    rw [hXk.block rb (by have := HLT.out; rw [← HV.out, ← HW.out]; simpa using this) (by simp; exact fun e => h1 e.symm)]
    exact hVrb
  have x1 : X.cell? ⟨rb, 1, none⟩ = some (.int .i64 pos) := cellsOf hXrb 1
  have y1 : X.frozen? ⟨rb, 1, none⟩ = false := frozenOf hXrb 1
  have HXr := Lib.hid hXr
  have HXk := Lib.hid hXk
  have HXrb := Lib.hid hXrb
  clear hXr hXk hVrb hXrb hVb
  go_region
  go_wp2_with fail
  go_ret2
  have hk : Kept [rb, bc] w (X.setCell ⟨rb, 1, none⟩ (.int .i64 (pos + m))) := by
    refine Kept.setCell ?_ (by simp) _
    refine Kept.trans ?_ (HXk.out.mono (by simp))
    rw [← HV.out, ← HW.out]
    exact (((Kept.refl _ _).drewN nq).setCell (by simp) _).drew
  refine ⟨rfl, ⟨⟨-1, by have := heap_set HXrb.out 1 (.int .i64 (pos + m)); simpa using this⟩, fun i hi => hk.cell (hdata.out i hi) (by simp; omega), hpm, hb, hnrd, hcap⟩, ?_, hk⟩
  refine (HXr.out.setOther (a := ⟨rb, 1, none⟩) h1 _).congr fun i hi => ?_
  rw [if_neg (by omega), if_pos (by omega)]
  rfl

theorem nil59 (a : Addr) (w : World) : (nilAhead 221 53 (.pointer (some a)) "Read").run Tryd.prog w = .ok (some false) w := by kernel_rfl
theorem meth59 (a : Addr) (w : World) : (method 221 53 (.pointer (some a)) "Read").run Tryd.prog w = .ok (59, .pointer (some a)) w := by kernel_rfl

set_option maxHeartbeats 2000000 in
set_option maxRecDepth 100000 in
theorem least38_row (w : World) (rb db N C : Nat) (z : Nat → Int) (pos m c bc : Nat) (F : Nat → Value) (h : RdIs w rb db N C z pos) (hm : 1 ≤ m) (hpm : pos + m ≤ N) (hr : w.rowIs bc 5 m F) (h1 : bc ≠ rb) (h2 : bc ≠ db) :
    Calls Tryd.prog 38 #[.iface 53 (.pointer (some ⟨rb, 0, none⟩)), .slice (some ⟨bc, 0, none⟩) m c, .int .i64 m] w fun e w' =>
      e = .returned (.tuple #[.int .i64 m, .nilIface]) ∧ RdIs w' rb db N C z (pos + m) ∧ w'.rowIs bc 5 m (r8 fun i => z (pos + i)) ∧ Kept [rb, bc] w w' := by
  have hb := h.bound
  have hR := Lib.hid (read59_row w.drew rb db N C z pos m c bc F (h.kept ((Kept.refl [] w).drew) (by simp) (by simp)) hm hpm hr h1 h2)
  have n1 := nil59 ⟨rb, 0, none⟩
  have n2 := meth59 ⟨rb, 0, none⟩
  have hmi : (0 : Int) < (m : Int) := by omega
  have HZ := Lib.hid h
  clear h hr
  go_enter Tryd.func38, Tryd.ntmps38
  go_wp2_with fail
  refine wp_loop_rounds 2 ?_
  rw [rounds_succ]
  go_wp2_with fail
  go_region_with (go_at_call 59; refine hR.out.mono ?_; rintro e W1 ⟨rfl, r1, r2, r3⟩)
  have R1 := Lib.hid r1
  have R2 := Lib.hid r2
  have R3 := Lib.hid r3
  clear r1 r2 r3
  go_wp2_with fail
  rw [rounds_succ]
  go_wp2_with fail
  go_ret2
  exact ⟨rfl, R1.out, R2.out, ((Kept.refl _ _).drew).trans R3.out⟩

set_option maxHeartbeats 2000000 in
set_option maxRecDepth 100000 in
theorem least38_end (w : World) (rb db N C : Nat) (z : Nat → Int) (p : Value) (m c bc : Nat) (ea : Addr) (h : RdIs w rb db N C z N) (hm : 1 ≤ m) (hE : w.cell? ⟨0, 0, none⟩ = some (.iface 86 (.pointer (some ea)))) :
    Calls Tryd.prog 38 #[.iface 53 (.pointer (some ⟨rb, 0, none⟩)), .slice (some ⟨bc, 0, none⟩) m c, .int .i64 m] w fun e w' =>
      e = .returned (.tuple #[.int .i64 0, .iface 86 (.pointer (some ea))]) ∧ ∃ n, w' = w.drewN n := by
  have hR := Lib.hid fun p => read59_end w.drew rb db N C z p _ (h.kept ((Kept.refl [] w).drew) (by simp) (by simp)) hE
  have n1 := nil59 ⟨rb, 0, none⟩
  have n2 := meth59 ⟨rb, 0, none⟩
  have hmi : (0 : Int) < (m : Int) := by omega
  clear h hE
  go_enter Tryd.func38, Tryd.ntmps38
  go_wp2_with fail
  refine wp_loop_rounds 2 ?_
  rw [rounds_succ]
  go_wp2_with fail
  go_region_with (go_at_call 59; refine (hR.out _).mono ?_; rintro e W1 ⟨rfl, n, rfl⟩)
  go_wp2_with fail
  rw [rounds_succ]
  go_wp2_with fail
  go_ret2
  exact ⟨rfl, 1 + n, rfl⟩

set_option maxHeartbeats 1000000 in
theorem full35_row (w : World) (rb db N C : Nat) (z : Nat → Int) (pos m c bc : Nat) (F : Nat → Value) (h : RdIs w rb db N C z pos) (hm : 1 ≤ m) (hpm : pos + m ≤ N) (hr : w.rowIs bc 5 m F) (h1 : bc ≠ rb) (h2 : bc ≠ db) :
    Calls Tryd.prog 35 #[.iface 53 (.pointer (some ⟨rb, 0, none⟩)), .slice (some ⟨bc, 0, none⟩) m c] w fun e w' =>
      e = .returned (.tuple #[.int .i64 m, .nilIface]) ∧ RdIs w' rb db N C z (pos + m) ∧ w'.rowIs bc 5 m (r8 fun i => z (pos + i)) ∧ Kept [rb, bc] w w' := by
  have hR := Lib.hid (least38_row w rb db N C z pos m c bc F h hm hpm hr h1 h2)
  clear h hr
  go_enter Tryd.func35, Tryd.ntmps35
  go_wp2_with (go_at_call 38; refine hR.out.mono ?_; rintro e W1 ⟨rfl, r1, r2, r3⟩; refine Hid.out ?_)
  refine Lib.hid ?_
  have R1 := Lib.hid r1
  have R2 := Lib.hid r2
  have R3 := Lib.hid r3
  clear r1 r2 r3
  go_wp2_with fail
  go_ret2
  exact ⟨rfl, R1.out, R2.out, R3.out⟩

set_option maxHeartbeats 1000000 in
theorem full35_end (w : World) (rb db N C : Nat) (z : Nat → Int) (m c bc : Nat) (ea : Addr) (h : RdIs w rb db N C z N) (hm : 1 ≤ m) (hE : w.cell? ⟨0, 0, none⟩ = some (.iface 86 (.pointer (some ea)))) :
    Calls Tryd.prog 35 #[.iface 53 (.pointer (some ⟨rb, 0, none⟩)), .slice (some ⟨bc, 0, none⟩) m c] w fun e w' =>
      e = .returned (.tuple #[.int .i64 0, .iface 86 (.pointer (some ea))]) ∧ ∃ n, w' = w.drewN n := by
  have hR := Lib.hid (least38_end w rb db N C z .nilIface m c bc ea h hm hE)
  clear h hE
  go_enter Tryd.func35, Tryd.ntmps35
  go_wp2_with (go_at_call 38; refine hR.out.mono ?_; rintro e W1 ⟨rfl, n, rfl⟩)
  go_ret2
  exact ⟨rfl, n, rfl⟩
end Go.Proofs.YtmihbmjillcjaaaDoor.up
