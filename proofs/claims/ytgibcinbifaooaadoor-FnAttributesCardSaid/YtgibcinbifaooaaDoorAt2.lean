/-
  FnAttributes: spec.Trimmed, zzIndex.
-/
import Derived.Test.YtgibcinbifaooaaDoorAt1
namespace Go.Proofs.YtgibcinbifaooaaDoor.att
open Go.RowKit

def mkS (l : List UInt8) : ByteArray := ⟨l.toArray⟩
theorem mkS_list (l : List UInt8) : (mkS l).data.toList = l := by simp [mkS]
theorem mkS_size (l : List UInt8) : (mkS l).size = l.length := by rw [Lib.size_eq, mkS_list]
theorem mkS_of (s : ByteArray) : mkS s.data.toList = s := by
  apply ByteArray.ext
  apply Array.toList_inj.1
  exact mkS_list _
theorem mkS_ext (l : List UInt8) (i j : Nat) : (mkS l).extract i j = mkS ((l.drop i).take (j - i)) := by
  apply ByteArray.ext
  apply Array.toList_inj.1
  rw [Lib.extract_data, mkS_list]
  simp [mkS]
theorem mkS_toList (l : List UInt8) : (mkS l).toList = l := by rw [Lib.toList_data, mkS_list]
theorem mkS_get (l : List UInt8) (k : Nat) (c : UInt8) (hc : l[k]? = some c) (h : k < (mkS l).size) : (mkS l)[k] = c := by
  obtain ⟨c', h1, h2⟩ := get_at (mkS l) l (mkS_list l) k h
  rw [h1] at hc
  rw [h2]
  exact Option.some.inj hc

theorem blanks_one (b : UInt8) : blanksB [b] = bl b := by simp [blanksB]

set_option maxHeartbeats 1000000 in
theorem trimmed8 (l : List UInt8) (hl : l.length ≤ 1024) (w : World) : Calls Tryd.prog 8 #[.string (mkS l)] w fun e w' => e = .returned (.string (mkS (l.dropWhile bl))) ∧ w = w' := by
  go_enter Tryd.func8, Tryd.ntmps8
  go_wp2_with fail
  go_loopw [0] (fun v wr => ∃ cur : List UInt8, v = .string (mkS cur) ∧ Hid (cur.length ≤ 1024) ∧ Hid (cur.dropWhile bl = l.dropWhile bl) ∧ w = wr) (fun v _ => match v with | .string s => s.size | _ => 0)
  case atStart => exact ⟨l, rfl, Lib.hid hl, Lib.hid rfl, rfl⟩
  case round =>
    obtain ⟨cur, rfl, hcl, hd, rfl⟩ := hrel
    cases cur with
    | nil =>
      have he : (mkS []).toList.isEmpty = true := by rw [mkS_toList]; rfl
      have he2 : (mkS []).toList = [] := mkS_toList []
      have HD : Hid (mkS [] = mkS (l.dropWhile bl)) := Lib.hid (by rw [← hd.out]; rfl)
      generalize mkS [] = S at *
      go_wp2_with fail
      go_ret
      refine ⟨?_, rfl⟩
      rw [← HD.out]
      rfl
    | cons b r =>
      have he : (mkS (b :: r)).toList.isEmpty = false := by rw [mkS_toList]; rfl
      have he2 : ¬ (mkS (b :: r)).toList = [] := by rw [mkS_toList]; simp
      have hz : (mkS (b :: r)).size = r.length + 1 := by rw [mkS_size]; rfl
      have hx0 : (mkS (b :: r)).extract 0 1 = mkS [b] := by rw [mkS_ext]; rfl
      have hx1 : (mkS (b :: r)).extract 1 (r.length + 1) = mkS r := by
        rw [mkS_ext]
        congr 1
        simp
      have hc := blanks4 (mkS [b]) (by rw [mkS_size]; simp) w
      rw [mkS_list, blanks_one] at hc
      have HZ : Hid ((mkS r).size = r.length) := Lib.hid (mkS_size r)
      have hr : r.length ≤ 1024 := by have := hcl.out; simp at this; omega
      have HD : Hid (bl b = true → (r.dropWhile bl = l.dropWhile bl)) := Lib.hid fun h => by rw [← hd.out, List.dropWhile_cons_of_pos h]
      have HE : Hid (bl b = false → mkS (b :: r) = mkS (l.dropWhile bl)) := Lib.hid fun h => by rw [← hd.out, List.dropWhile_cons_of_neg (by rw [h]; simp)]
      have HC := Lib.hid hc
      clear hc
      generalize mkS (b :: r) = S at *
      generalize mkS [b] = B at *
      cases hb : bl b
      · rw [hb] at HC
        have HBL := Lib.hid hb
        clear hb
        go_wp2_with (go_at_call 4; refine HC.out.mono ?_; rintro e w1 ⟨rfl, rfl⟩)
        go_ret
        refine ⟨?_, rfl⟩
        rw [← HE.out HBL.out]
        rfl
      · rw [hb] at HC
        have HBL := Lib.hid hb
        clear hb
        go_wp2_with (go_at_call 4; refine HC.out.mono ?_; rintro e w1 ⟨rfl, rfl⟩)
        go_roundw
        case rel => exact ⟨r, rfl, Lib.hid hr, Lib.hid (HD.out HBL.out), trivial⟩
        case measure =>
          have := HZ.out
          simp
          omega

theorem noO_ne (l : List UInt8) (i : Nat) (c : UInt8) (r : List UInt8) (h : l[i]? = some c) (hc : c ≠ 111) (n : Nat) : (((l.drop i).take (n + 1)) == 111 :: r) = false := by
  obtain ⟨hi, rfl⟩ := List.getElem?_eq_some_iff.1 h
  rw [List.drop_eq_getElem_cons hi]
  simp only [List.take_succ_cons, beq_eq_false_iff_ne, ne_eq, List.cons.injEq, not_and]
  intro e
  exact absurd e hc

set_option maxHeartbeats 1000000 in
set_option maxRecDepth 100000 in
/-- The first obj. -/
theorem index22 (a r : List UInt8) (ha : ∀ c ∈ a, c ≠ 111) (hl : (a ++ [111, 98, 106] ++ r).length ≤ 100000) (w : World) :
    Calls Tryd.prog 22 #[.string (mkS (a ++ [111, 98, 106] ++ r)), .string ⟨#[111, 98, 106]⟩] w fun e w' => e = .returned (.int .i64 (a.length : Int)) ∧ w = w' := by
  obtain ⟨S, hS⟩ : ∃ S, mkS (a ++ [111, 98, 106] ++ r) = S := ⟨_, rfl⟩
  have hz : S.size = a.length + 3 + r.length := by rw [← hS, mkS_size]; simp; omega
  have HX : Hid (∀ i j, (S.extract i j).toList = ((a ++ [111, 98, 106] ++ r).drop i).take (j - i)) := Lib.hid fun i j => by rw [← hS, mkS_ext, mkS_toList]
  have HA := Lib.hid ha
  rw [hS]
  clear hS ha
  simp at hl
  go_enter Tryd.func22, Tryd.ntmps22
  go_wp2_with fail
  go_loopw [5] (fun i wr => ∃ k : Nat, i = .int .i64 (k : Int) ∧ k ≤ a.length ∧ w = wr) (fun i _ => a.length + 1 - (intOf i).toNat)
  case atStart => exact ⟨0, rfl, by omega, rfl⟩
  case round =>
    obtain ⟨k, rfl, hk, rfl⟩ := hrel
    have hle : (k : Int) + 3 ≤ S.size := by omega
    have hle2 : (k : Int) + 3 ≤ (a.length : Int) + 3 + (r.length : Int) := by omega
    have hsl : ∀ wx : World, (Instr.slice 9 (.string S) (some (.int .i64 (k : Int))) (some (.int .i64 ((k : Int) + 3))) none).run Tryd.prog wx = .ok (.string (S.extract k (k + 3))) wx := fun wx => by
      have := run_slice_string (P := Tryd.prog) wx 9 S .i64 .i64 (k : Int) ((k : Int) + 3) Tryd.underlying9 (by omega) (by omega) (by omega)
      rw [show ((k : Int)).toNat = k by omega, show ((k : Int) + 3).toNat = k + 3 by omega] at this
      exact this
    by_cases hka : k < a.length
    · have hne : ((S.extract k (k + 3)).toList == [111, 98, 106]) = false := by
        rw [HX.out, show k + 3 - k = 2 + 1 by omega]
        have hg : (a ++ [111, 98, 106] ++ r)[k]? = some a[k] := by
          rw [List.append_assoc, List.getElem?_append_left hka, List.getElem?_eq_getElem hka]
        exact noO_ne _ k a[k] _ hg (HA.out _ (List.getElem_mem hka)) 2
      go_wp2_with fail
      go_roundw
      case rel => exact ⟨k + 1, by go_num, by omega, trivial⟩
      case measure => simp [intOf]; omega
    · obtain rfl : k = a.length := by omega
      have heq : ((S.extract a.length (a.length + 3)).toList == [111, 98, 106]) = true := by
        rw [HX.out, show a.length + 3 - a.length = 3 by omega]
        simp
      go_wp2_with fail
      go_ret
      exact ⟨rfl, rfl⟩
end Go.Proofs.YtgibcinbifaooaaDoor.att
