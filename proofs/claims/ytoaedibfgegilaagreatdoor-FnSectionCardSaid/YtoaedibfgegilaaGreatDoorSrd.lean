/-
  strings.Reader.Read; Scanner.advance, Text.
-/
import Derived.Test.YtoaedibfgegilaaGreatDoorSca
import Derived.Laws.IdiomStrings
namespace Go.Proofs.YtoaedibfgegilaaGreatDoor.st
open Go.RowKit
set_option linter.unusedVariables false
set_option linter.unusedSimpArgs false

theorem info5s : (Tryz.prog.info? 5).map (·.size) = some 1 := by kernel_rfl
/-- 'copy(dst, s)': as many bytes as there are, or as there is room. -/
theorem run_copy_min (w : World) (dT sT ty elem : TypeId) (g o dLen dCap : Nat) (s : ByteArray) (cur : Array Value) (t : TypeId) (n : Nat)
    (hu : Tryz.prog.underlying dT = some (.slice elem)) (hs : (Tryz.prog.info? elem).map (·.size) = some 1) (hg : w.heap[g]? = some (.cells cur t (0, 0))) (hn : n = Nat.min s.size dLen) (hfit : o + n ≤ cur.size) :
    (Builtin.copy_ #[dT, sT] ty #[.slice (some ⟨g, o, none⟩) dLen dCap, .string s]).run Tryz.prog w =
      .ok (goInt n) (w.setRow g (cur.toList.take o ++ Lib.byteCells (s.data.toList.take n) ++ cur.toList.drop (o + n)).toArray) := by
  have hle : n ≤ s.data.toList.length := by
    rw [tlen, hn]
    exact Nat.min_le_left _ _
  have hlen : (Lib.byteCells (s.data.toList.take n)).length = n := by
    rw [Lib.byteCells_length, List.length_take]
    omega
  have hst := run_storeCells_at Tryz.prog g o t (Lib.byteCells (s.data.toList.take n)) 0 cur w hg (by rw [hlen]; simpa using hfit) (Lib.byteCells_one _)
  have htk : List.take n (List.map (fun b : UInt8 => Value.int IntKind.u8 (b.toNat : Int)) s.data.toList) = Lib.byteCells (s.data.toList.take n) := by
    rw [← List.map_take]
    rfl
  rw [hlen] at hst
  simp only [Nat.add_zero] at hst
  cases hq : Tryz.prog.info? elem with
  | none => simp [hq] at hs
  | some i =>
    simp [Builtin.copy_, run_underlying hu, Builtin.lenOf, Builtin.firstCells, sizeOf, typeInfo, hq, ← hn]
    rw [htk, hst]
    simp [Result.andThen]

/-- A row over which bytes of the text are laid at o. -/
theorem row_text {W : World} {g o n M : Nat} {cur : Array Value} {F : Nat → Value} (hg : W.heap[g]? = some (.cells cur 5 (0, 0))) (hM : cur.size = M) (hF : ∀ i, i < M → cur[i]? = some (F i)) (l : List UInt8) (hl : l.length = n) (hfit : o + n ≤ M) :
    (W.setRow g (cur.toList.take o ++ Lib.byteCells l ++ cur.toList.drop (o + n)).toArray).rowIs g 5 M (fun i => if i < o then F i else if i < o + n then .int .u8 ((l.getD (i - o) 0).toNat : Int) else F i) := by
  have hbl : (Lib.byteCells l).length = n := by rw [Lib.byteCells_length, hl]
  refine ⟨_, setRow_heap W g cur _ 5 _ hg, ?_, fun i hi => ?_⟩
  · simp [hM, hbl]
    omega
  · show _ = some (if i < o then F i else if i < o + n then Value.int .u8 ((l.getD (i - o) 0).toNat : Int) else F i)
    rw [List.getElem?_toArray]
    have hl2 : (cur.toList.take o).length = o := by simp [hM]; omega
    by_cases h1 : i < o
    · rw [if_pos h1, List.append_assoc, List.getElem?_append_left (by omega), List.getElem?_take_of_lt h1, Array.getElem?_toList, hF i hi]
    · rw [if_neg h1]
      by_cases h2 : i < o + n
      · rw [if_pos h2, List.append_assoc, List.getElem?_append_right (by omega), hl2, List.getElem?_append_left (by rw [hbl]; omega)]
        simp [Lib.byteCells, List.getD_eq_getElem?_getD, List.getElem?_eq_getElem (show i - o < l.length by omega)]
      · rw [if_neg h2, List.getElem?_append_right (by rw [List.length_append, hl2, hbl]; omega), List.length_append, hl2, hbl, List.getElem?_drop, Array.getElem?_toList, show o + n + (i - (o + n)) = i by omega, hF i hi]

theorem ext_list (T : ByteArray) (a b : Nat) : (T.extract a b).data.toList = (T.data.toList.drop a).take (b - a) := by
  simp [ByteArray.data_extract]
theorem ext_get {T : ByteArray} {r k j : Nat} (hk : r + k ≤ T.size) (hj : j < k) : ((T.extract r T.size).data.toList.take k).getD j 0 = bt T (r + j) := by
  rw [ext_list, List.getD_eq_getElem?_getD, List.getElem?_take_of_lt hj, List.getElem?_take_of_lt (by omega), List.getElem?_drop]
  unfold bt
  rw [List.getD_eq_getElem?_getD]
/-- A reader of the text, at the place r. -/
def RdIs (w : World) (rd : Nat) (T : ByteArray) (r : Nat) : Prop := ∃ pr : Int, w.heap[rd]? = some (.cells #[.string T, .int .i64 (r : Int), .int .i64 pr] 86 (0, 0))

set_option maxHeartbeats 4000000 in
set_option maxRecDepth 100000 in
theorem read123 (w : World) (rd bc o m c M r k : Nat) (T : ByteArray) (F : Nat → Value) (h : RdIs w rd T r) (hr : r < T.size) (hT : T.size ≤ 100000) (hk : k = Nat.min (T.size - r) m) (hm : 1 ≤ m) (hM : o + m ≤ M) (hb : w.rowIs bc 5 M F) (hne : bc ≠ rd) :
    Calls Tryz.prog 123 #[.pointer (some ⟨rd, 0, none⟩), .slice (some ⟨bc, o, none⟩) m c] w fun e w' =>
      e = .returned (.tuple #[.int .i64 k, .nilIface]) ∧ RdIs w' rd T (r + k) ∧ w'.rowIs bc 5 M (fun i => if i < o then F i else if i < o + k then bi T (r + (i - o)) else F i) ∧ Kept [rd, bc] w w' := by
  obtain ⟨pr, hc⟩ := h
  obtain ⟨cur, hcur, hsz, hF⟩ := hb
  have c0 : w.cell? ⟨rd, 0, none⟩ = some (.string T) := cellsOf hc 0
  have c1 : w.cell? ⟨rd, 1, none⟩ = some (.int .i64 (r : Int)) := cellsOf hc 1
  have c2 : w.cell? ⟨rd, 2, none⟩ = some (.int .i64 pr) := cellsOf hc 2
  have f1 : w.frozen? ⟨rd, 1, none⟩ = false := frozenOf hc 1
  have f2 : w.frozen? ⟨rd, 2, none⟩ = false := frozenOf hc 2
  have HC := Lib.hid hc
  have HCUR := Lib.hid hcur
  have HF := Lib.hid hF
  have HSZ := Lib.hid hsz
  have HKK := Lib.hid (And.intro hk (And.intro hm hM))
  have hlt3 : ¬ (T.size : Int) ≤ (r : Int) := by omega
  have hrT : (r : Int) ≤ (T.size : Int) := by omega
  clear hc hcur hF hsz hk
  go_enter Tryz.func123, Tryz.ntmps123
  go_wp2_with fail
  go_quiet (fail)
  obtain ⟨W, hW⟩ : ∃ W, w.drewN nq = W := ⟨_, rfl⟩
  rw [hW]
  have k0 : W.cell? ⟨rd, 0, none⟩ = some (.string T) := by rw [← hW]; exact c0
  have k1 : W.cell? ⟨rd, 1, none⟩ = some (.int .i64 (r : Int)) := by rw [← hW]; exact c1
  have k2 : W.cell? ⟨rd, 2, none⟩ = some (.int .i64 pr) := by rw [← hW]; exact c2
  have g1 : W.frozen? ⟨rd, 1, none⟩ = false := by rw [← hW]; exact f1
  have g2 : W.frozen? ⟨rd, 2, none⟩ = false := by rw [← hW]; exact f2
  have HW := Lib.hid hW
  clear c0 c1 c2 f1 f2 hW
  go_wp2_with fail
  obtain ⟨V, hV⟩ : ∃ V, W.setCell ⟨rd, 2, none⟩ (.int .i64 (-1)) = V := ⟨_, rfl⟩
  rw [hV]
  have v0 : V.cell? ⟨rd, 0, none⟩ = some (.string T) := by rw [← hV]; simp [go_sem, k0]
  have v1 : V.cell? ⟨rd, 1, none⟩ = some (.int .i64 (r : Int)) := by rw [← hV]; simp [go_sem, k1]
  have u1 : V.frozen? ⟨rd, 1, none⟩ = false := by rw [← hV]; simp [go_sem, g1]
  have hVb : V.heap[bc]? = some (.cells cur 5 (0, 0)) := by
    rw [← hV, Go.Deep.blk_setCell_other _ _ _ _ hne, ← HW.out]
    exact HCUR.out
  have hss : (T.extract r T.size).size = T.size - r := by simp
  have hk := HKK.out
  have hfit : o + k ≤ cur.size := by
    have h1 : k ≤ m := by rw [hk.1]; exact Nat.min_le_right _ _
    rw [HSZ.out]
    omega
  have hkT : r + k ≤ T.size := by
    have h1 : k ≤ T.size - r := by rw [hk.1]; exact Nat.min_le_left _ _
    omega
  have hcp := run_copy_min V.drew 82 9 3 5 bc o m c (T.extract r T.size) cur 5 k Tryz.underlying82 info5s hVb (by rw [hss]; exact hk.1) hfit
  have hlk : ((T.extract r T.size).data.toList.take k).length = k := by
    rw [List.length_take, tlen, hss]
    omega
  have hV2 := Lib.hid hV
  clear hV k0 k1 k2 g1 g2
  have hXr := row_text (W := V.drew) (g := bc) (o := o) (n := k) (M := M) hVb HSZ.out HF.out _ hlk (by rw [← HSZ.out]; exact hfit)
  have hXk : Kept [bc] V.drew (V.drew.setRow bc (cur.toList.take o ++ Lib.byteCells ((T.extract r T.size).data.toList.take k) ++ cur.toList.drop (o + k)).toArray) := (Kept.refl _ _).setRow (by simp) _
  generalize V.drew.setRow bc (cur.toList.take o ++ Lib.byteCells ((T.extract r T.size).data.toList.take k) ++ cur.toList.drop (o + k)).toArray = X at hcp hXr hXk
  have hVrb : V.heap[rd]? = some (.cells #[.string T, .int .i64 (r : Int), .int .i64 (-1)] 86 (0, 0)) := by
    rw [← hV2.out, ← HW.out]
    exact heap_set (w := w.drewN nq) HC.out 2 _
  have hXrb : X.heap[rd]? = some (.cells #[.string T, .int .i64 (r : Int), .int .i64 (-1)] 86 (0, 0)) := (hXk.block rd (Array.getElem?_eq_some_iff.1 hVrb).1 (by simp; exact fun e => hne e.symm)).trans hVrb
  have x1 : X.cell? ⟨rd, 1, none⟩ = some (.int .i64 (r : Int)) := cellsOf hXrb 1
  have y1 : X.frozen? ⟨rd, 1, none⟩ = false := frozenOf hXrb 1
  have HXr := Lib.hid hXr
  have HXk := Lib.hid hXk
  have HXrb := Lib.hid hXrb
  have HKT := Lib.hid hkT
  have hrk : r + k ≤ 100000 := by omega
  clear hXr hXk hVrb hXrb hVb hss hfit hlk hk hkT
  go_region
  go_wp2_with fail
  go_ret2
  have hk : Kept [rd, bc] w (X.setCell ⟨rd, 1, none⟩ (.int .i64 ((r : Int) + (k : Int)))) := by
    refine Kept.setCell ?_ (by simp) _
    refine Kept.trans ?_ (HXk.out.mono (by simp))
    rw [← hV2.out, ← HW.out]
    exact (((Kept.refl _ _).drewN nq).setCell (by simp) _).drew
  refine ⟨rfl, ⟨-1, by have := heap_set HXrb.out 1 (.int .i64 ((r : Int) + (k : Int))); simpa using this⟩, ?_, hk⟩
  refine (HXr.out.setOther (a := ⟨rd, 1, none⟩) hne _).congr fun i hi => ?_
  by_cases q1 : i < o
  · rw [if_pos q1, if_pos q1]
  · rw [if_neg q1, if_neg q1]
    by_cases q2 : i < o + k
    · rw [if_pos q2, if_pos q2, ext_get HKT.out (by omega)]
      rfl
    · rw [if_neg q2, if_neg q2]

/-- The scanner's own struct. -/
def scC (rd : Nat) (tok bufv : Value) (st en : Nat) (emp : Int) (called : Bool) : Array Value := #[.iface 62 (.pointer (some ⟨rd, 0, none⟩)), .func (.func 21) #[] #[], .int .i64 65536, tok, bufv, .int .i64 (st : Int), .int .i64 (en : Int), .nilIface, .int .i64 emp, .bool called, .bool false]
def ScIs (w : World) (sc rd : Nat) (tok bufv : Value) (st en : Nat) (emp : Int) (called : Bool) : Prop := w.heap[sc]? = some (.cells (scC rd tok bufv st en emp called) 84 (0, 0))

set_option maxHeartbeats 2000000 in
set_option maxRecDepth 100000 in
theorem advance97 (w : World) (sc rd st en n : Nat) (tok bufv : Value) (emp : Int) (cl : Bool) (h : ScIs w sc rd tok bufv st en emp cl) (hn : st + n ≤ en) (hen : en ≤ 100000) :
    Calls Tryz.prog 97 #[.pointer (some ⟨sc, 0, none⟩), .int .i64 (n : Int)] w fun e w' => e = .returned (.bool true) ∧ ScIs w' sc rd tok bufv (st + n) en emp cl ∧ Kept [sc] w w' := by
  have c5 : w.cell? ⟨sc, 5, none⟩ = some (.int .i64 (st : Int)) := cellsOf h 5
  have c6 : w.cell? ⟨sc, 6, none⟩ = some (.int .i64 (en : Int)) := cellsOf h 6
  have f5 : w.frozen? ⟨sc, 5, none⟩ = false := frozenOf h 5
  have H := Lib.hid h
  have hne : ¬ (n : Int) < 0 := by omega
  have h2 : ¬ (en : Int) - (st : Int) < (n : Int) := by omega
  clear h
  go_enter Tryz.func97, Tryz.ntmps97
  go_wp2_with fail
  go_quiet (fail)
  go_wp2_with fail
  go_ret
  refine ⟨rfl, ?_, ((Kept.refl _ _).drewN _).setCell (by simp) _⟩
  have h3 : (w.drewN nq).heap[sc]? = some (.cells (scC rd tok bufv st en emp cl) 84 (0, 0)) := H.out
  have := heap_set h3 5 (.int .i64 ((st : Int) + (n : Int)))
  unfold ScIs
  rw [this]
  simp [scC]

set_option maxHeartbeats 2000000 in
set_option maxRecDepth 100000 in
theorem text81 (w : World) (sc rd st en : Nat) (bufv : Value) (emp : Int) (cl : Bool) (g o n C : Nat) (l : List UInt8) (h : ScIs w sc rd (.slice (some ⟨g, o, none⟩) n C) bufv st en emp cl) (hl : l.length = n) (hc : ∀ k, k < n → w.cell? ⟨g, o + k, none⟩ = some (.int .u8 ((l.getD k 0).toNat : Int))) :
    Calls Tryz.prog 81 #[.pointer (some ⟨sc, 0, none⟩)] w fun e w' => e = .returned (.string ⟨l.toArray⟩) ∧ Kept [] w w' := by
  have c3 : w.cell? ⟨sc, 3, none⟩ = some (.slice (some ⟨g, o, none⟩) n C) := cellsOf h 3
  subst hl
  have hcv := run_convert_bytes_back (P := Tryz.prog) w 82 9 5 ⟨g, o, none⟩ C l Tryz.underlying82 Tryz.underlying5 Tryz.underlying9 (fun j hj => by
    rw [addr_add, hc j hj, List.getD_eq_getElem?_getD, List.getElem?_eq_getElem hj]
    rfl)
  clear hc h
  go_enter Tryz.func81, Tryz.ntmps81
  go_wp2_with fail
  go_ret
  exact ⟨rfl, Kept.refl _ _⟩
end Go.Proofs.YtoaedibfgegilaaGreatDoor.st
