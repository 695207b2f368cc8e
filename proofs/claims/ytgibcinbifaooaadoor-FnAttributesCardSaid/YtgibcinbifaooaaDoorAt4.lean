/-
  FnAttributes: strings.TrimLeftFunc, TrimRightFunc, trimLeftSpace, zzTrimSpace at texts of ASCII.
-/
import Derived.Test.YtgibcinbifaooaaDoorAt3
namespace Go.Proofs.YtgibcinbifaooaaDoor.att
open Go.RowKit

theorem run_sub (S : ByteArray) (a b : Int) (i j : Nat) (ha : a = i) (hb : b = j) (hij : i ≤ j) (hj : j ≤ S.size) (w : World) :
    (Instr.slice 9 (.string S) (some (.int .i64 a)) (some (.int .i64 b)) none).run Tryd.prog w = .ok (.string (S.extract i j)) w := by
  subst ha hb
  have := run_slice_string (P := Tryd.prog) w 9 S .i64 .i64 (i : Int) (j : Int) Tryd.underlying9 (by omega) (by omega) (by omega)
  rw [Int.toNat_natCast, Int.toNat_natCast] at this
  exact this

theorem trimLeft30 (pre rest : List UInt8) (c : UInt8) (hp : pre.all bl = true) (hc : Dig c) (hl : (pre ++ c :: rest).length ≤ 100000) (w : World) :
    Calls Tryd.prog 30 #[.string (mkS (pre ++ c :: rest)), .func (.func 31) #[] #[]] w fun e w' => e = .returned (.string (mkS (c :: rest))) ∧ Below w.heap.size w w' := by
  have h44 := Lib.hid (index44 pre rest c hp hc w)
  have hx : (mkS (pre ++ c :: rest)).extract pre.length (mkS (pre ++ c :: rest)).size = mkS (c :: rest) := by
    rw [mkS_ext, mkS_size]
    congr 1
    simp
  have hz : (mkS (pre ++ c :: rest)).size = pre.length + (rest.length + 1) := by rw [mkS_size]; simp
  generalize mkS (pre ++ c :: rest) = S at *
  generalize mkS (c :: rest) = R at *
  have hne : ¬ (pre.length : Int) = -1 := by omega
  have hle : (pre.length : Int) ≤ S.size := by omega
  have hle2 : pre.length ≤ S.size := by omega
  clear hp hc hl hz
  go_enter Tryd.func30, Tryd.ntmps30
  go_wp2_with (go_at_call 44; refine h44.out.mono ?_; rintro e w1 ⟨rfl, hb⟩)
  go_ret
  exact ⟨rfl, hb⟩

set_option maxHeartbeats 1000000 in
theorem trimLeftSpace20 (pre rest : List UInt8) (c : UInt8) (hp : pre.all bl = true) (hc : Dig c) (hl : (pre ++ c :: rest).length ≤ 100000) (w : World) :
    Calls Tryd.prog 20 #[.string (mkS (pre ++ c :: rest)), .bool false] w fun e w' => e = .returned (.tuple #[.string (mkS (c :: rest)), .bool false]) ∧ Below w.heap.size w w' := by
  have h30 := Lib.hid (trimLeft30 pre rest c hp hc hl w)
  have hz : (mkS (c :: rest)).size = rest.length + 1 := by rw [mkS_size]; rfl
  have hg : ∀ h : 0 < (mkS (c :: rest)).size, (mkS (c :: rest))[0] = c := fun h => mkS_get _ 0 c rfl h
  generalize mkS (pre ++ c :: rest) = S at *
  generalize mkS (c :: rest) = R at *
  have hR : 0 < R.size := by omega
  have hg0 := hg hR
  have hne : ¬ (c.toNat : Int) = 37 := by unfold Dig at hc; omega
  have hne2 : ((c.toNat : Int) != 37) = true := by simpa using hne
  have hcc : (R.size : Int) ≤ 1 ∨ ¬ (R.size : Int) ≤ 1 := by omega
  clear hp hl hg hz hc
  rcases hcc with hcc | hcc
  all_goals
    go_enter Tryd.func20, Tryd.ntmps20
    go_wp2_with fail
    refine wp_loop_rounds 1 ?_
    rw [rounds_succ]
    go_wp2_with (go_at_call 30; refine h30.out.mono ?_; rintro e w1 ⟨rfl, hb⟩)
    refine bodyPost_ret (v := .tuple #[.string R, .bool false]) (by simp [results, Tryd.results20, go_sem]) rfl ⟨rfl, hb⟩

set_option maxHeartbeats 1000000 in
theorem index44b (rest : List UInt8) (c : UInt8) (hc : Dig c) (w : World) :
    Calls Tryd.prog 44 #[.string (mkS (c :: rest)), .func (.func 26) #[] #[], .bool false] w fun e w' => e = .returned (.int .i64 0) ∧ Below w.heap.size w w' := by
  have hd := decode_ascii (c :: rest) 0 c rfl (by unfold Dig at hc; omega)
  have hz : (mkS (c :: rest)).size = rest.length + 1 := by rw [mkS_size]; rfl
  generalize mkS (c :: rest) = S at *
  obtain ⟨W, hW⟩ : ∃ W, w.iter S 0 = W := ⟨_, rfl⟩
  have hit : W.heap[w.heap.size]? = some (.stringIter S 0) := by rw [← hW]; exact World.iter_heap w S 0
  have hB : Below w.heap.size w W := by rw [← hW]; exact (Below.refl w.heap.size w).alloc (Nat.le_refl _) _
  have hnx : ∀ ty, (Instr.next (.pointer (some ⟨w.heap.size, 0, none⟩)) true ty).run Tryd.prog W = _ := fun ty => Lib.run_next_any_at W w.heap.size S 0 ty hit (by omega)
  rw [hd] at hnx
  have hbw2 := Lib.hid (Lib.below_iterAt hB (k := w.heap.size) (Nat.le_refl _) S (0 + 1))
  have HW := Lib.hid hW
  clear hit hB hW
  have hcall := Lib.hid fun w => isSpace_no (c.toNat : Int) (by unfold Dig at hc; omega) (by unfold Dig at hc; omega) w
  clear hd hz hc
  generalize (c.toNat : Int) = d at *
  go_enter Tryd.func44, Tryd.ntmps44
  go_wp2_with fail
  rw [HW.out]
  refine wp_loop_rounds 1 ?_
  rw [rounds_succ]
  go_wp2_with (go_at_call 26; refine (hcall.out _).mono ?_; rintro e w1 ⟨rfl, rfl⟩)
  go_ret
  exact ⟨rfl, hbw2.out⟩

theorem trimLeft30b (rest : List UInt8) (c : UInt8) (hc : Dig c) (hl : (c :: rest).length ≤ 100000) (w : World) :
    Calls Tryd.prog 30 #[.string (mkS (c :: rest)), .func (.func 26) #[] #[]] w fun e w' => e = .returned (.string (mkS (c :: rest))) ∧ Below w.heap.size w w' := by
  have h44 := Lib.hid (index44b rest c hc w)
  have hx : (mkS (c :: rest)).extract 0 (mkS (c :: rest)).size = mkS (c :: rest) := by
    rw [mkS_ext, mkS_size]
    congr 1
    simp
  generalize mkS (c :: rest) = S at *
  clear hc hl
  go_enter Tryd.func30, Tryd.ntmps30
  go_wp2_with (go_at_call 44; refine h44.out.mono ?_; rintro e w1 ⟨rfl, hb⟩)
  go_ret
  refine ⟨?_, hb⟩
  first
    | rfl
    | (congr 1; simp [hx])

set_option maxHeartbeats 1000000 in
set_option maxRecDepth 100000 in
theorem last53 (l : List UInt8) (c : UInt8) (hc : c.toNat < 128) (hl : l.length ≤ 100000) (w : World) :
    Calls Tryd.prog 53 #[.string (mkS (l ++ [c]))] w fun e w' => e = .returned (.tuple #[.int .i32 (c.toNat : Int), .int .i64 1]) ∧ w = w' := by
  have hz : (mkS (l ++ [c])).size = l.length + 1 := by rw [mkS_size]; simp
  have hg : ∀ h : l.length < (mkS (l ++ [c])).size, (mkS (l ++ [c]))[l.length] = c := fun h => mkS_get _ _ c (by simp) h
  generalize mkS (l ++ [c]) = S at *
  have hS : l.length < S.size := by omega
  have hg0 := hg hS
  have hc1 : (c.toNat : Int) < 128 := by omega
  have hlt : ((S.size : Int) - 1) = (l.length : Int) := by omega
  have hne : ¬ (l.length : Int) + 1 = 0 := by omega
  clear hg hc
  go_enter Tryd.func53, Tryd.ntmps53
  go_wp2
  refine bodyPost_ret (v := .tuple #[.int .i32 (c.toNat : Int), .int .i64 1]) (by simp [results, Tryd.results53, go_sem]) rfl ⟨rfl, rfl⟩

set_option maxHeartbeats 1000000 in
theorem decode43 (c : UInt8) (hc : c.toNat < 128) (w : World) :
    Calls Tryd.prog 43 #[.string (mkS [c])] w fun e w' => e = .returned (.tuple #[.int .i32 (c.toNat : Int), .int .i64 1]) ∧ w = w' := by
  have hz : (mkS [c]).size = 1 := by rw [mkS_size]; rfl
  have hg : ∀ h : 0 < (mkS [c]).size, (mkS [c])[0] = c := fun h => mkS_get _ _ c (by simp) h
  have he2 : ¬ (mkS [c]).toList = [] := by rw [mkS_toList]; simp
  have he : (mkS [c]).toList.isEmpty = false := by rw [mkS_toList]; rfl
  generalize mkS [c] = S at *
  have hS : 0 < S.size := by omega
  have hg0 := hg hS
  have hc1 : (c.toNat : Int) < 128 := by omega
  clear hg hc
  go_enter Tryd.func43, Tryd.ntmps43
  go_wp2
  refine bodyPost_ret (v := .tuple #[.int .i32 (c.toNat : Int), .int .i64 1]) (by simp [results, Tryd.results43, go_sem]) rfl ⟨rfl, rfl⟩
end Go.Proofs.YtgibcinbifaooaaDoor.att
