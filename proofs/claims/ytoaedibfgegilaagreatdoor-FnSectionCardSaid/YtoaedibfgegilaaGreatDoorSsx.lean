/-
  impl.Section.
-/
import Derived.Test.YtoaedibfgegilaaGreatDoorSdo
import Derived.Test.YtoaedibfgegilaaGreatDoorSsw
namespace Go.Proofs.YtoaedibfgegilaaGreatDoor.st
open Go.RowKit Go.MapKept Go.ChangeMaps
set_option linter.unusedVariables false
set_option linter.unusedSimpArgs false

theorem new_at' (w : World) (o : Obj) (k : Nat) (h : w.heap.size = k) : (w.alloc o).heap[k]? = some o := by subst h; exact heap_alloc_new w o
theorem old_at' (w : World) (o : Obj) (k : Nat) (h : k < w.heap.size) : (w.alloc o).heap[k]? = w.heap[k]? := heap_alloc_old w o h
def xtC (m : Nat) : Array Value := #[.map (some m), .pointer none, .int .i64 0, .pointer none, .map none, .pointer none, .slice none 0 0, .pointer none, .map none, .map none, .map none, .map none, .map none, .map none, .int .i64 0, .pointer none, .int .i64 0]
def secW (w : World) (A C T : ByteArray) : World := ((((((((w.alloc (.cells #[.string A, .string C] 25)).alloc (.cells #[.string T] 9)).alloc (.cells #[.int .i64 0] 2)).alloc (.cells #[.string ⟨#[]⟩] 9)).alloc (.map #[] 0)).alloc (.cells (xtC (w.heap.size + 1 + 1 + 1 + 1)) 51)).alloc (.cells #[.pointer (some ⟨w.heap.size + 1 + 1 + 1 + 1 + 1, 0, none⟩)] 37)).alloc (.cells #[.nilIface] 53))
structure SecB (w V : World) (A C T : ByteArray) : Prop where
  kept : Kept [] w V
  size : V.heap.size = w.heap.size + 1 + 1 + 1 + 1 + 1 + 1 + 1 + 1
  h : V.heap[w.heap.size]? = some (.cells #[.string A, .string C] 25 (0, 0))
  t : V.heap[w.heap.size + 1]? = some (.cells #[.string T] 9 (0, 0))
  o : V.heap[w.heap.size + 1 + 1]? = some (.cells #[.int .i64 0] 2 (0, 0))
  r : V.heap[w.heap.size + 1 + 1 + 1]? = some (.cells #[.string ⟨#[]⟩] 9 (0, 0))
  m : V.heap[w.heap.size + 1 + 1 + 1 + 1]? = some (.map #[] 0)
  x : V.heap[w.heap.size + 1 + 1 + 1 + 1 + 1]? = some (.cells (xtC (w.heap.size + 1 + 1 + 1 + 1)) 51 (0, 0))
  p : V.heap[w.heap.size + 1 + 1 + 1 + 1 + 1 + 1]? = some (.cells #[.pointer (some ⟨w.heap.size + 1 + 1 + 1 + 1 + 1, 0, none⟩)] 37 (0, 0))
  e : V.heap[w.heap.size + 1 + 1 + 1 + 1 + 1 + 1 + 1]? = some (.cells #[.nilIface] 53 (0, 0))
theorem sec_boxed (w : World) (A C T : ByteArray) : SecB w (secW w A C T) A C T := by
  unfold secW
  refine ⟨((((((((Kept.refl [] w).alloc _).alloc _).alloc _).alloc _).alloc _).alloc _).alloc _).alloc _, by simp, ?_, ?_, ?_, ?_, ?_, ?_, ?_, ?_⟩
  all_goals
    repeat (first | exact new_at' _ _ _ (by simp) | refine (old_at' _ _ _ (by simp <;> omega)).trans ?_)
theorem EntsV.kept_blk {w w' : World} {v : Value} {n : Nat} {f : Nat → Ent} {x : Nat} {u : ByteArray} (h : EntsV w v n f) (hx : w.heap[x]? = some (.cells #[.string u] 9 (0, 0))) (k : Kept [x] w w') : EntsV w' v n f := by
  rcases h with h | ⟨b, o, C, h1, h2, h3, h4⟩
  · exact .inl h
  · refine .inr ⟨b, o, C, h1, h2, h3, fun i hi j t hj => ?_⟩
    have hc := h4 i hi j t hj
    refine k.cell hc ?_
    simp only [List.mem_singleton]
    rintro rfl
    have h0 := h4 i hi 0 _ rfl
    rw [cellsOf hx] at h0
    have : o + i * 9 + 0 = 0 ∨ 1 ≤ o + i * 9 + 0 := by omega
    rcases this with h | h
    · rw [h] at h0
      simp [entC] at h0
    · rw [Array.getElem?_eq_none (by simpa using h)] at h0
      cases h0
set_option maxHeartbeats 4000000 in
set_option maxRecDepth 100000 in
theorem section6 (A C T : ByteArray) (f : Nat → Ent) (n z j0 : Nat) (w : World) (h : Told f n z j0 T) (hA : A = str (Lib.itoa (f 0).num)) (hC : C = str (Lib.itoa (j0 : Int))) (hj : 0 < j0) (hjn : j0 ≤ n) (hrun : ∀ t, t < j0 → (f t).num = (f 0).num + (t : Int)) :
    Calls Tryz.prog 6 #[.agg #[.string A, .string C], .string T, .int .i64 0] w fun e w' => ∃ gv, e = .returned (.tuple #[gv, .string (str trl), .bool true]) ∧ EntsV w' gv n (fun i => norm (f i)) ∧ Below w.heap.size w w' := by
  have hmm := @run_makeMap Tryz.prog
  have hmf : ∀ (fn : Fn) (first cap : Array Value) (w : World), (Instr.makeFunc fn first cap).run Tryz.prog w = .ok (.func fn first cap) w := fun _ _ _ _ => rfl
  have HN := Lib.hid (And.intro h (And.intro hA (And.intro hC (And.intro hj (And.intro hjn hrun)))))
  clear h hA hC hj hjn hrun
  go_enter Tryz.func6, Tryz.ntmps6
  go_wp2_with fail
  have hB := sec_boxed w A C T
  obtain ⟨W, hW⟩ : ∃ W, secW w A C T = W := ⟨_, rfl⟩
  rw [hW] at hB
  unfold secW xtC at hW
  rw [hW]
  obtain ⟨b, hb⟩ : ∃ b, w.heap.size = b := ⟨_, rfl⟩
  obtain ⟨X, hX⟩ : ∃ X, W.alloc (.cells #[.bool false] 4) = X := ⟨_, rfl⟩
  have hWs := hB.size
  have kX : Kept [] W X := by rw [← hX]; exact (Kept.refl _ _).alloc _
  have hXs : X.heap.size = W.heap.size + 1 := by rw [← hX]; simp
  have xf : X.heap[W.heap.size]? = some (.cells #[.bool false] 4 (0, 0)) := by rw [← hX]; exact heap_alloc_new W _
  have hold : ∀ (i : Nat) (o : Obj), W.heap[i]? = some o → X.heap[i]? = some o := fun i o hi => (kX.block i (Array.getElem?_eq_some_iff.1 hi).1 (by simp)).trans hi
  have q0 := hold _ _ hB.h
  have q1 := hold _ _ hB.t
  have q2 := hold _ _ hB.o
  have q3 := hold _ _ hB.r
  have q4 := hold _ _ hB.m
  have q5 := hold _ _ hB.x
  have q6 := hold _ _ hB.p
  have q7 := hold _ _ hB.e
  obtain ⟨h, hA, hC, hj, hjn, hrun⟩ := HN.out
  have hroom : Room X (w.heap.size + 1 + 1 + 1 + 1 + 1 + 1) (w.heap.size + 1) w.heap.size (w.heap.size + 1 + 1) (w.heap.size + 1 + 1 + 1) (w.heap.size + 1 + 1 + 1 + 1 + 1 + 1 + 1) (w.heap.size + 1 + 1 + 1 + 1 + 1) (w.heap.size + 1 + 1 + 1 + 1) T f n j0 :=
    ⟨cellsOf q6 0, cellsOf q1 0, cellsOf q2 0, q3, q7, by omega, cellsOf q5 0, ⟨⟨fun _ => 0, by simpa [tabE] using q4, fun i hi => by omega⟩⟩, ⟨hj, hjn, fun t _ ht => by rw [hrun t ht, Nat.sub_zero], by rw [cellsOf q0 0]; simp [hA], by rw [cellsOf q0 1]; simp [hC]⟩⟩
  have hcl := clos12 _ _ _ _ _ _ _ _ T f n z j0 X h hroom
  have hcalm := calm_ok #[.pointer (some ⟨w.heap.size + 1 + 1 + 1 + 1 + 1 + 1, 0, none⟩), .pointer (some ⟨w.heap.size + 1, 0, none⟩), .pointer (some ⟨w.heap.size, 0, none⟩), .pointer (some ⟨w.heap.size + 1 + 1, 0, none⟩), .pointer (some ⟨w.heap.size + 1 + 1 + 1, 0, none⟩), .pointer (some ⟨w.heap.size + 1 + 1 + 1 + 1 + 1 + 1 + 1, 0, none⟩)] W (fun w' => CloIs X w' (w.heap.size + 1 + 1 + 1 + 1) (w.heap.size + 1 + 1 + 1) (w.heap.size + 1 + 1 + 1 + 1 + 1 + 1 + 1) f n)
    (Lib.hid (by
      rw [hX]
      refine hcl.mono ?_
      rintro e w' ⟨rfl, hx⟩
      have h3 := (hx.kept.block W.heap.size (by omega) (by simp; omega)).trans xf
      exact ⟨rfl, cellsOf h3 0, frozenOf h3 0, hx⟩))
  have HC := Lib.hid hcalm
  have HX := Lib.hid (And.intro hB.kept (And.intro kX (And.intro hWs (And.intro hXs (And.intro xf (And.intro q5 (And.intro q6 (And.intro q3 q7))))))))
  clear hroom hcl hcalm q0 q1 q2 q3 q4 q5 q6 q7 hold xf hXs kX hX hWs hW hB h hA hC hj hjn hrun hb
  go_wp2_with (go_at_call 11; refine HC.out.mono ?_; rintro e W1 ⟨rfl, W2, hcx, rfl⟩; refine Hid.out ?_)
  refine Lib.hid ?_
  obtain ⟨kB, kX, hWs, hXs, xf, q5, q6, q3, q7⟩ := HX.out
  obtain ⟨U, hU⟩ : ∃ U, W2.setCell ⟨W.heap.size, 0, none⟩ (.bool true) = U := ⟨_, rfl⟩
  rw [hU]
  have xf2 := (hcx.kept.block W.heap.size (by omega) (by simp; omega)).trans xf
  have kU : Kept [W.heap.size] W2 U := by rw [← hU]; exact (Kept.refl _ _).setCell (by simp) _
  have kXU : Kept [w.heap.size + 1 + 1 + 1 + 1, w.heap.size + 1 + 1 + 1, w.heap.size + 1 + 1 + 1 + 1 + 1 + 1 + 1, W.heap.size] X U := (hcx.kept.mono (by simp)).trans (kU.mono (by simp))
  have e6 := kXU.cell (cellsOf q6 0) (by simp; omega)
  have e5 := kXU.cell (cellsOf q5 0) (by simp; omega)
  have e7 := kU.cell hcx.err (by simp; omega)
  have r3 := (kU.block _ (Array.getElem?_eq_some_iff.1 hcx.ret).1 (by simp; omega)).trans hcx.ret
  have htab := hcx.tab.kept_blk kU (by
    intro x hx
    rw [List.mem_singleton.1 hx]
    exact ⟨_, _, _, xf2, by decide, by decide, by decide⟩)
  have kd : Kept [] U U.drew := (Kept.refl _ _).drew
  have e3 := cellsOf r3 0
  have H14 : Hid (Calls Tryz.prog 14 #[.map (some (w.heap.size + 1 + 1 + 1 + 1))] U.drew fun e w' => EntriesE U.drew n f e w') := Lib.hid (entries14 sort25_own (w.heap.size + 1 + 1 + 1 + 1) f n U.drew HN.out.1.le (htab.keep (KeepT.of_kept kd)) (fun i hi => by simp [(HN.out.1.ok i hi).comp]) HN.out.1.rise)
  have hUs : w.heap.size + 9 ≤ U.heap.size := by have := kXU.size; omega
  have HFIN := Lib.hid (And.intro r3 (And.intro ((kB.trans kX).below (Nat.le_refl _) (by simp) : Below w.heap.size w X) (And.intro (kXU.below (B := w.heap.size) (by omega) (by simp; omega)) hUs)))
  have e3' : U.cell? ⟨w.heap.size + 1 + 1 + 1, 0, none⟩ = some (.string (str trl)) := e3
  clear kB kX hWs hXs xf q5 q6 q3 q7 hcx hU xf2 kU kXU r3 htab kd e3 hUs HX HC
  have e6' : U.cell? ⟨w.heap.size + 1 + 1 + 1 + 1 + 1 + 1, 0, none⟩ = some (.pointer (some ⟨w.heap.size + 1 + 1 + 1 + 1 + 1, 0, none⟩)) := e6
  have e5' : U.cell? ⟨w.heap.size + 1 + 1 + 1 + 1 + 1, 0, none⟩ = some (.map (some (w.heap.size + 1 + 1 + 1 + 1))) := e5
  clear e6 e5
  go_wp2_with fail
  go_region_law (first
    | (go_simp; go_at_call 14; refine H14.out.mono ?_; rintro e V ⟨gv, rfl, hEV, hbV⟩; (have hrV := (hbV.block (w.heap.size + 1 + 1 + 1) (by have := HFIN.out.2.2.2; simp; omega)).trans HFIN.out.1); (have rc0 := cellsOf hrV 0); (have rf0 := frozenOf hrV 0); (have HX := Lib.hid (And.intro hEV (And.intro hbV hrV))); clear hEV hbV hrV)
    | fail)
  all_goals
    go_wp2_with fail
    obtain ⟨hEV, hbV, hrV⟩ := HX.out
    obtain ⟨r3, b1, b2, hUs⟩ := HFIN.out
    have hb2 := heap_set hrV 0 (.string (str trl))
    have c2 : (V.setCell ⟨w.heap.size + 1 + 1 + 1, 0, none⟩ (.string (str trl))).cell? ⟨w.heap.size + 1 + 1 + 1, 0, none⟩ = some (.string (str trl)) := by rw [cellsOf hb2 0]; rfl
    have kS : Kept [w.heap.size + 1 + 1 + 1] V (V.setCell ⟨w.heap.size + 1 + 1 + 1, 0, none⟩ (.string (str trl))) := (Kept.refl _ _).setCell (by simp) _
    refine bodyPost_ret (v := .tuple #[gv, .string (str trl), .bool true]) (by simp [results, Tryz.results6, go_sem, c2]) rfl ⟨gv, rfl, ?_, ?_⟩
    · exact hEV.kept_blk hrV kS
    · have hbU : Below w.heap.size U V := ⟨hbV.os, hbV.tape, hbV.output, hbV.size, fun k hk => hbV.block k (by simp; omega)⟩
      exact ((b1.trans b2).trans hbU).trans (kS.below (by have := hbV.size; simp at this; omega) (by simp; omega))
end Go.Proofs.YtoaedibfgegilaaGreatDoor.st
