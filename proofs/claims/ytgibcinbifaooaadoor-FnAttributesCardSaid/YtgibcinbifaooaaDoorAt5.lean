/-
  FnAttributes: zzTrimSpace at digits, the position of the next blank.
-/
import Derived.Test.YtgibcinbifaooaaDoorAt4
namespace Go.Proofs.YtgibcinbifaooaaDoor.att
open Go.RowKit

set_option maxHeartbeats 1000000 in
set_option maxRecDepth 100000 in
theorem last42 (l : List UInt8) (c : UInt8) (hc : Dig c) (hl : l.length ≤ 100000) (w : World) :
    Calls Tryd.prog 42 #[.string (mkS (l ++ [c])), .func (.func 26) #[] #[], .bool false] w fun e w' => e = .returned (.int .i64 (l.length : Int)) ∧ w = w' := by
  have h53 := Lib.hid fun w => last53 l c (by unfold Dig at hc; omega) hl w
  have h26 := Lib.hid fun w => isSpace_no (c.toNat : Int) (by unfold Dig at hc; omega) (by unfold Dig at hc; omega) w
  have hz : (mkS (l ++ [c])).size = l.length + 1 := by rw [mkS_size]; simp
  have hx : (mkS (l ++ [c])).extract 0 (l.length + 1) = mkS (l ++ [c]) := by
    rw [mkS_ext]
    congr 1
    rw [List.drop_zero, Nat.sub_zero]
    exact List.take_of_length_le (by simp)
  generalize mkS (l ++ [c]) = S at *
  have hsl : ∀ wx, (Instr.slice 9 (.string S) (some (.int .i64 0)) (some (.int .i64 ((l.length : Int) + 1))) none).run Tryd.prog wx = .ok (.string S) wx := fun wx => by
    have := run_sub S 0 ((l.length : Int) + 1) 0 (l.length + 1) rfl (by omega) (by omega) (by omega) wx
    rw [hx] at this
    exact this
  have hpos : (0 : Int) < (l.length : Int) + 1 := by omega
  clear hx hc
  generalize (c.toNat : Int) = d at *
  go_enter Tryd.func42, Tryd.ntmps42
  go_wp2_with fail
  refine wp_loop_rounds 1 ?_
  rw [rounds_succ]
  go_wp2_with (first
    | (go_at_call 53; refine (h53.out _).mono ?_; rintro e w1 ⟨rfl, rfl⟩)
    | (go_at_call 26; refine (h26.out _).mono ?_; rintro e w1 ⟨rfl, rfl⟩))
  go_ret
  exact ⟨rfl, rfl⟩

set_option maxHeartbeats 1000000 in
set_option maxRecDepth 100000 in
theorem trimRight29 (l : List UInt8) (c : UInt8) (hc : Dig c) (hl : l.length ≤ 100000) (w : World) :
    Calls Tryd.prog 29 #[.string (mkS (l ++ [c])), .func (.func 26) #[] #[]] w fun e w' => e = .returned (.string (mkS (l ++ [c]))) ∧ w = w' := by
  have h42 := Lib.hid fun w => last42 l c hc hl w
  have h43 := Lib.hid fun w => decode43 c (by unfold Dig at hc; omega) w
  have hz : (mkS (l ++ [c])).size = l.length + 1 := by rw [mkS_size]; simp
  have hx : (mkS (l ++ [c])).extract 0 (l.length + 1) = mkS (l ++ [c]) := by
    rw [mkS_ext]
    congr 1
    rw [List.drop_zero, Nat.sub_zero]
    exact List.take_of_length_le (by simp)
  have hx2 : (mkS (l ++ [c])).extract l.length (l.length + 1) = mkS [c] := by
    rw [mkS_ext]
    congr 1
    simp
  generalize mkS (l ++ [c]) = S at *
  have hsl : ∀ wx, (Instr.slice 9 (.string S) (some (.int .i64 0)) (some (.int .i64 ((l.length : Int) + 1))) none).run Tryd.prog wx = .ok (.string S) wx := fun wx => by
    have := run_sub S 0 ((l.length : Int) + 1) 0 (l.length + 1) rfl (by omega) (by omega) (by omega) wx
    rw [hx] at this
    exact this
  have hlS : (l.length : Int) ≤ S.size := by omega
  have hlS2 : l.length ≤ S.size := by omega
  have hle : (l.length : Int) ≤ (l.length : Int) + 1 := by omega
  clear hx hc
  generalize mkS [c] = C at *
  generalize (c.toNat : Int) = d at *
  go_enter Tryd.func29, Tryd.ntmps29
  go_wp2_with (first
    | (go_at_call 42; refine (h42.out _).mono ?_; rintro e w1 ⟨rfl, rfl⟩)
    | (go_at_call 43; refine (h43.out _).mono ?_; rintro e w1 ⟨rfl, rfl⟩))
  go_ret
  exact ⟨rfl, rfl⟩

theorem zz19 (ds : List UInt8) (hd : ∀ c ∈ ds, Dig c) (hne : ds ≠ []) (hl : ds.length ≤ 1000) (w : World) :
    Calls Tryd.prog 19 #[.string (mkS ds)] w fun e w' => e = .returned (.string (mkS ds)) ∧ Below w.heap.size w w' := by
  have h30 : Hid (Calls Tryd.prog 30 #[.string (mkS ds), .func (.func 26) #[] #[]] w fun e w' => e = .returned (.string (mkS ds)) ∧ Below w.heap.size w w') := Lib.hid (by
    cases ds with
    | nil => exact absurd rfl hne
    | cons c r => exact trimLeft30b r c (hd c (by simp)) (by omega) w)
  have h29 : Hid (∀ w, Calls Tryd.prog 29 #[.string (mkS ds), .func (.func 26) #[] #[]] w fun e w' => e = .returned (.string (mkS ds)) ∧ w = w') := Lib.hid fun w => by
    obtain ⟨l, c, rfl⟩ : ∃ l c, ds = l ++ [c] := ⟨ds.dropLast, ds.getLast hne, (List.dropLast_concat_getLast hne).symm⟩
    exact trimRight29 l c (hd c (by simp)) (by simp at hl; omega) w
  clear hd hne hl
  generalize mkS ds = S at *
  go_enter Tryd.func19, Tryd.ntmps19
  go_wp2_with (first
    | (go_at_call 30; refine h30.out.mono ?_; rintro e w1 ⟨rfl, hb⟩)
    | (go_at_call 29; refine (h29.out _).mono ?_; rintro e w1 ⟨rfl, rfl⟩))
  go_ret
  exact ⟨rfl, hb⟩

set_option maxHeartbeats 2000000 in
set_option maxRecDepth 100000 in
/-- The position of the blank behind digits. -/
theorem position17 (ds rest : List UInt8) (hd : ∀ c ∈ ds, Dig c) (hl : (ds ++ 32 :: rest).length ≤ 100000) (w : World) :
    Calls Tryd.prog 17 #[.string (mkS (ds ++ 32 :: rest)), .string ⟨#[37]⟩] w fun e w' => e = .returned (.tuple #[.int .i64 (ds.length : Int), .string (mkS (32 :: rest))]) ∧ Below w.heap.size w w' := by
  obtain ⟨S, hS⟩ : ∃ S, mkS (ds ++ 32 :: rest) = S := ⟨_, rfl⟩
  have hz : S.size = ds.length + (rest.length + 1) := by rw [← hS, mkS_size]; simp
  have HX : Hid (S.extract ds.length S.size = mkS (32 :: rest)) := Lib.hid (by
    rw [hz, ← hS, mkS_ext]
    congr 1
    simp)
  have HD : Hid (∀ k b, (ds ++ 32 :: rest)[k]? = some b → b.toNat < 128 → Utf8.decode S k = (b.toNat, 1)) := Lib.hid fun k b h1 h2 => by rw [← hS]; exact decode_ascii _ k b h1 h2
  have HG := Lib.hid hd
  have HZ := Lib.hid hz
  have h26 : Hid (∀ w, Calls Tryd.prog 26 #[.int .i32 32] w fun e w' => e = .returned (.bool true) ∧ w = w') := Lib.hid fun w => isSpace_blank 32 rfl w
  have hdp : Utf8.decode ⟨#[37]⟩ 0 = (37, 1) := by rfl
  rw [hS]
  clear hS hd hz
  go_enter Tryd.func17, Tryd.ntmps17
  go_wp2_with fail
  go_loopw [6, 7] (fun _ _ wr => ∃ k : Nat, Hid (k ≤ ds.length) ∧ wr.heap[w.heap.size]? = some (.stringIter S k) ∧ Hid (Below w.heap.size w wr)) (fun _ _ wr => S.size - wr.iterPos w.heap.size)
  case atStart => exact ⟨0, Lib.hid (by omega), World.iter_heap w S 0, Lib.hid ((Below.refl _ _).alloc (Nat.le_refl _) _)⟩
  case round =>
    obtain ⟨k, hk, hit, HB⟩ := hrel
    have hsz := HB.out.size
    have hkS : k < S.size := by have := HZ.out; have := hk.out; omega
    have hwr : w.heap.size < wr.heap.size := (Array.getElem?_eq_some_iff.1 hit).1
    have hnx : ∀ ty, (Instr.next (.pointer (some ⟨w.heap.size, 0, none⟩)) true ty).run Tryd.prog wr = _ := fun ty => Lib.run_next_any_at wr w.heap.size S k ty hit hkS
    have hit2 := Lib.iterAt_heap wr w.heap.size S k (k + 1) hit
    have hbw2 := Lib.below_iterAt HB.out (k := w.heap.size) (by omega) S (k + 1)
    have hzs := Lib.iterAt_size wr w.heap.size S (k + 1)
    have hdec : ∃ d : Int, Utf8.decode S k = (d.toNat, 1) ∧ ((k < ds.length ∧ 48 ≤ d ∧ d ≤ 57) ∨ (k = ds.length ∧ d = 32)) := by
      by_cases hka : k < ds.length
      · obtain ⟨p, hpk⟩ : ∃ p, ds[k]? = some p := ⟨ds[k], List.getElem?_eq_getElem hka⟩
        have hdg := HG.out p (List.mem_of_getElem? hpk)
        unfold Dig at hdg
        refine ⟨(p.toNat : Int), ?_, Or.inl ⟨hka, by omega, by omega⟩⟩
        rw [HD.out k p (by rw [List.getElem?_append_left hka]; exact hpk) (by omega)]
        rfl
      · have hkp : k = ds.length := by have := hk.out; omega
        refine ⟨32, ?_, Or.inr ⟨hkp, rfl⟩⟩
        rw [HD.out k 32 (by rw [hkp]; simp) (by decide)]
        rfl
    obtain ⟨d, hdd, hcase⟩ := hdec
    rw [hdd] at hnx
    have hd0 : ((d.toNat : Nat) : Int) = d := by omega
    obtain ⟨W1, hW1⟩ : ∃ W1, wr.iterAt w.heap.size S (k + 1) = W1 := ⟨_, rfl⟩
    have hnx1 : ∀ ty, (Instr.next (.pointer (some ⟨w.heap.size, 0, none⟩)) true ty).run Tryd.prog wr = .ok (.tuple #[.bool true, .int .i64 (k : Int), .int .i32 d]) W1 := fun ty => by
      rw [← hW1, ← hd0]
      exact hnx ty
    rw [hW1] at hit2 hbw2 hzs
    obtain ⟨W2, hW2⟩ : ∃ W2, W1.iter ⟨#[37]⟩ 0 = W2 := ⟨_, rfl⟩
    have hi2 : W2.heap[W1.heap.size]? = some (.stringIter ⟨#[37]⟩ 0) := by rw [← hW2]; exact World.iter_heap W1 _ 0
    have hB2 : Below W1.heap.size W1 W2 := by rw [← hW2]; exact (Below.refl _ W1).alloc (Nat.le_refl _) _
    have hnx2 : ∀ ty, (Instr.next (.pointer (some ⟨W1.heap.size, 0, none⟩)) true ty).run Tryd.prog W2 = _ := fun ty => Lib.run_next_any_at W2 W1.heap.size ⟨#[37]⟩ 0 ty hi2 (by decide)
    rw [hdp] at hnx2
    have hi3 := Lib.iterAt_heap W2 W1.heap.size ⟨#[37]⟩ 0 1 hi2
    have hB3 := Lib.below_iterAt hB2 (k := W1.heap.size) (Nat.le_refl _) ⟨#[37]⟩ 1
    obtain ⟨W3, hW3⟩ : ∃ W3, W2.iterAt W1.heap.size ⟨#[37]⟩ 1 = W3 := ⟨_, rfl⟩
    have hnx3 : ∀ ty, (Instr.next (.pointer (some ⟨W1.heap.size, 0, none⟩)) true ty).run Tryd.prog W2 = .ok (.tuple #[.bool true, .int .i64 0, .int .i32 37]) W3 := fun ty => by
      rw [← hW3]
      exact hnx2 ty
    rw [hW3] at hi3 hB3
    have hnx4 : ∀ ty, (Instr.next (.pointer (some ⟨W1.heap.size, 0, none⟩)) true ty).run Tryd.prog W3 = _ := fun ty => Lib.run_next_end_at W3 W1.heap.size ⟨#[37]⟩ 1 ty hi3 (by decide)
    have hit3 : W3.heap[w.heap.size]? = some (.stringIter S (k + 1)) := (hB3.block _ (by omega)).trans hit2
    have HIT3 := Lib.hid hit3
    have HB3 := Lib.hid (hbw2.trans (hB3.mono (by omega)))
    have HW2 := Lib.hid hW2
    have HIT := Lib.hid hit
    have HKS := Lib.hid hkS
    have HNX4 := Lib.hid hnx4
    have hs3 := hB3.size
    clear hnx hnx2 hit2 hbw2 hzs hi2 hB2 hi3 hB3 hW1 hW2 hW3 hit hdd hd0 hdp hit3 hnx4
    rcases hcase with ⟨hka, d0, d1⟩ | ⟨hkp, rfl⟩
    · have hc26 := Lib.hid fun w => isSpace_no d d0 d1 w
      have e37 : ¬ d = 37 := by omega
      have e0 : ¬ d = 0 := by omega
      have b37 : (d == 37) = false := by simpa using e37
      have b0 : (d == 0) = false := by simpa using e0
      have HKA := Lib.hid hka
      clear hka d0 d1 hkS
      go_wp2_with fail
      rw [HW2.out]
      refine wp_loop_rounds 2 ?_
      rw [rounds_succ]
      go_wp2_with (go_at_call 26; refine (hc26.out _).mono ?_; rintro e w1 ⟨rfl, rfl⟩)
      rw [rounds_succ]
      have hnx4 := HNX4.out
      go_wp2_with fail
      go_roundw
      case rel => exact ⟨k + 1, Lib.hid (by have := HKA.out; omega), HIT3.out, HB3⟩
      case measure =>
        have := HKS.out
        have hit := HIT.out
        have hit3 := HIT3.out
        simp only [World.iterPos, hit3, hit]
        omega
    · have HKP := Lib.hid hkp
      have hkS2 : (k : Int) ≤ S.size := by omega
      have hkS3 : k ≤ S.size := by omega
      clear hkS hkp
      go_wp2_with fail
      rw [HW2.out]
      refine wp_loop_rounds 2 ?_
      rw [rounds_succ]
      go_wp2_with (go_at_call 26; refine (h26.out _).mono ?_; rintro e w1 ⟨rfl, rfl⟩)
      go_quiet (fail)
      obtain ⟨W4, hW4⟩ : ∃ X, W3.drewN nq = X := ⟨_, rfl⟩
      have hB4 : Below w.heap.size w W4 := by rw [← hW4]; exact ⟨HB3.out.os, HB3.out.tape, HB3.out.output, HB3.out.size, HB3.out.block⟩
      rw [hW4]
      clear hW4
      go_wp2_with fail
      refine bodyPost_ret (v := .tuple #[.int .i64 (k : Int), .string (S.extract k S.size)]) (by simp [results, Tryd.results17, go_sem]) rfl ⟨?_, hB4⟩
      rw [HKP.out, HX.out]
end Go.Proofs.YtgibcinbifaooaaDoor.att
