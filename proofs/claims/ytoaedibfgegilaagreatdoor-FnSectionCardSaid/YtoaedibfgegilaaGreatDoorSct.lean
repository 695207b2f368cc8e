/-
  zzContains over a line; decodeSubsection; createXRefTableEntry; parseXRefTableEntry.
-/
import Derived.Test.YtoaedibfgegilaaGreatDoorStx
import Derived.Deep.QuietTactic
import Derived.BigQuiet
namespace Go.Proofs.YtoaedibfgegilaaGreatDoor.st
open Go.RowKit
set_option linter.unusedVariables false
set_option linter.unusedSimpArgs false

set_option maxHeartbeats 2000000 in
set_option maxRecDepth 100000 in
theorem index48_no (l : List UInt8) (w : World) (hl : l.length ≤ 1000) (h : ∀ b ∈ l, b ≠ 116) : Calls Tryz.prog 48 #[.string (str l), .string ⟨#[116, 114, 97, 105, 108, 101, 114]⟩] w fun e w' => e = .returned (.int .i64 (-1)) ∧ w' = w := by
  have hsz := str_size l
  have H := Lib.hid h
  obtain ⟨S, hS⟩ : ∃ S, str l = S := ⟨_, rfl⟩
  have HS := Lib.hid hS
  rw [hS] at hsz ⊢
  clear hS h
  go_enter Tryz.func48, Tryz.ntmps48
  go_wp2_with fail
  go_loopw [5] (fun i wr => ∃ k : Nat, i = .int .i64 (k : Int) ∧ k ≤ l.length ∧ wr = w) (fun i _ => 1001 - (intOf i).toNat)
  case atStart => exact ⟨0, rfl, by omega, rfl⟩
  case round =>
    obtain ⟨k, rfl, hk, rfl⟩ := hrel
    by_cases hx : k + 7 ≤ l.length
    · have hcut := run_cut S k (k + 7) (by omega) (by omega)
      have hne : ((S.extract k (k + 7)).toList == [116, 114, 97, 105, 108, 101, 114]) = false := by
        rw [beq_eq_false_iff_ne, ← HS.out, ext_str, Lib.toList_data, str_list]
        intro e
        have h1 := congrArg List.head? e
        have h2 : (List.drop k l).head? = some 116 := by
          cases hd : List.drop k l with
          | nil => rw [hd] at h1; simp at h1
          | cons c r => rw [hd] at h1; simpa using h1
        rw [List.head?_drop] at h2
        exact H.out 116 (List.mem_of_getElem? h2) rfl
      go_wp2_with fail
      go_roundw
      case rel => exact ⟨k + 1, by go_num, by omega, trivial⟩
      case measure => simp [intOf]; omega
    · go_wp2_with fail
      go_ret
      exact ⟨rfl, rfl⟩
theorem index48_yes (w : World) : Calls Tryz.prog 48 #[.string (str trl), .string ⟨#[116, 114, 97, 105, 108, 101, 114]⟩] w fun e w' => e = .returned (.int .i64 0) ∧ w' = w := by
  have hsz : (str trl).size = 7 := by rw [str_size]; rfl
  have hcut := run_cut (str trl) 0 7 (by omega) (by omega)
  have hx : (str trl).extract 0 7 = ⟨#[116, 114, 97, 105, 108, 101, 114]⟩ := by rw [ext_str]; rfl
  have heq : (((str trl).extract 0 7).toList == [116, 114, 97, 105, 108, 101, 114]) = true := by
    rw [beq_iff_eq, hx, Lib.toList_data]
  obtain ⟨S, hS⟩ : ∃ S, str trl = S := ⟨_, rfl⟩
  rw [hS] at hsz hcut heq ⊢
  clear hS hx
  go_enter Tryz.func48, Tryz.ntmps48
  go_wp2_with fail
  refine wp_loop_rounds 1 ?_
  rw [rounds_succ]
  go_wp2_with fail
  go_ret
  exact ⟨rfl, rfl⟩
theorem contains33_no (l : List UInt8) (w : World) (hl : l.length ≤ 1000) (h : ∀ b ∈ l, b ≠ 116) : Calls Tryz.prog 33 #[.string (str l), .string ⟨#[116, 114, 97, 105, 108, 101, 114]⟩] w fun e w' => e = .returned (.bool false) ∧ w' = w := by
  have H48 := Lib.hid (index48_no l w hl h)
  clear hl h
  go_enter Tryz.func33, Tryz.ntmps33
  go_wp2_with (go_at_call 48; refine H48.out.mono ?_; rintro e V ⟨rfl, hv⟩; obtain rfl := hv.symm)
  go_ret
  exact ⟨rfl, rfl⟩
theorem contains33_yes (w : World) : Calls Tryz.prog 33 #[.string (str trl), .string ⟨#[116, 114, 97, 105, 108, 101, 114]⟩] w fun e w' => e = .returned (.bool true) ∧ w' = w := by
  have H48 := Lib.hid (index48_yes w)
  obtain ⟨S, hS⟩ : ∃ S, str trl = S := ⟨_, rfl⟩
  rw [hS] at H48 ⊢
  clear hS
  go_enter Tryz.func33, Tryz.ntmps33
  go_wp2_with (go_at_call 48; refine H48.out.mono ?_; rintro e V ⟨rfl, hv⟩; obtain rfl := hv.symm)
  go_ret
  exact ⟨rfl, rfl⟩

theorem digit82 (c : Int) (h1 : 48 ≤ c) (h2 : c ≤ 57) (w : World) : Calls Tryz.prog 82 #[.int .u8 c] w fun e w' => e = .returned (.bool true) ∧ w' = w := by
  go_enter Tryz.func82, Tryz.ntmps82
  go_wp2_with fail
  go_ret
  exact ⟨rfl, rfl⟩
theorem Kept.bytes (w : World) (t : ByteArray) : Kept [] w (Lib.bytesWorld w 5 t) :=
  ⟨rfl, rfl, rfl, by rw [Lib.bytesWorld_size]; omega, fun k hk _ => Lib.bytesWorld_at_old w 5 t k hk⟩

theorem results_tmp4 {fn : Func} {t u v x : Tmp} (h : fn.results = #[.tmp t, .tmp u, .tmp v, .tmp x]) (tmps : Array Value) (P : Program) (w : World) :
    (results fn tmps).run P w = .ok (.tuple #[tmps.getD t undef, tmps.getD u undef, tmps.getD v undef, tmps.getD x undef]) w := by
  simp [results, h]
set_option maxHeartbeats 2000000 in
set_option maxRecDepth 100000 in
theorem decode49 (g C : Nat) (off gen : Int) (fr : Bool) (w : World) (h0 : 0 ≤ off) (h1 : off ≤ 9999999999) (h2 : 0 ≤ gen) (h3 : gen ≤ 65535)
    (c0 : w.cell? ⟨g, 0, none⟩ = some (.string (str (pad off 10)))) (c1 : w.cell? ⟨g, 1, none⟩ = some (.string (str (pad gen 5)))) (c2 : w.cell? ⟨g, 2, none⟩ = some (.string (str [if fr then 102 else 110]))) :
    Calls Tryz.prog 49 #[.slice (some ⟨g, 0, none⟩) 3 C] w fun e w' => e = .returned (.tuple #[.int .i64 off, .int .i64 gen, .string (str [if fr then 102 else 110]), .nilIface]) ∧ Kept [] w w' := by
  have p1 := pad_length h0 10 (by omega) (by simp; omega)
  have p2 := pad_length h2 5 (by omega) (by simp; omega)
  have s1 : (str (pad off 10)).size = 10 := by rw [str_size, p1]
  have s2 : (str (pad gen 5)).size = 5 := by rw [str_size, p2]
  have d0 := pad_dig h0 10
  have d2 := pad_dig h2 5
  have v0 := pad_val h0 10
  have v2 := pad_val h2 5
  have H83 : Hid (∀ V, Calls Tryz.prog 83 #[.string (str (pad off 10)), .int .i64 10, .int .i64 64] V fun e w' => e = .returned (.tuple #[.int .i64 off, .nilIface]) ∧ Kept [] V w') := Lib.hid fun V => by
    refine (Tryz.strconv_ParseInt_10_at64_ok (str (pad off 10)) (by omega) off (by rw [str_list, parse_val d0 (pad_ne h0 10) (by omega), v0]) V).mono ?_
    rintro e w' ⟨rfl, rfl | ⟨t, rfl⟩⟩
    · exact ⟨rfl, Kept.refl _ _⟩
    · exact ⟨rfl, Kept.bytes _ _⟩
  have H30 : Hid (∀ V, Calls Tryz.prog 30 #[.string (str (pad gen 5))] V fun e w' => e = .returned (.tuple #[.int .i64 gen, .nilIface]) ∧ Kept [] V w') := Lib.hid fun V => by
    refine (Tryz.strconv_Atoi (str (pad gen 5)) gen (by omega) (by rw [str_list, atoi_val d2 (pad_ne h2 5), v2]) V).mono ?_
    rintro e w' ⟨rfl, t, rfl⟩
    exact ⟨rfl, Kept.bytes _ _⟩
  have hb : ∃ c : Int, 48 ≤ c ∧ c ≤ 57 ∧ ∀ h, (((str (pad off 10))[0]'h).toNat : Int) = c := by
    have hl : 0 < (pad off 10).length := by omega
    have := d0 _ (List.getElem_mem hl)
    unfold Dig at this
    exact ⟨((pad off 10)[0].toNat : Int), by omega, by omega, fun h => by rw [str_get h]⟩
  obtain ⟨c, hc1, hc2, hc⟩ := hb
  obtain ⟨A, hA⟩ : ∃ A, str (pad off 10) = A := ⟨_, rfl⟩
  obtain ⟨G, hG⟩ : ∃ G, str (pad gen 5) = G := ⟨_, rfl⟩
  rw [hA] at s1 H83 c0
  rw [hG] at s2 H30 c1
  have hc : ∀ h, ((A[0]'h).toNat : Int) = c := by
    subst hA
    exact hc
  have hc' := hc (by omega)
  have H82 := Lib.hid fun V => digit82 c hc1 hc2 V
  have hK : Hid (str [if fr then 102 else 110] = if fr then ⟨#[102]⟩ else ⟨#[110]⟩) := Lib.hid (by cases fr <;> rfl)
  have hkind : ∀ fr : Bool, str [if fr then 102 else 110] = ⟨#[if fr then 102 else 110]⟩ := fun fr => rfl
  rw [hkind] at c2 ⊢
  clear hA hG p1 p2 d0 d2 v0 v2 hK hkind h0 h1 h2 h3 hc1 hc2
  go_enter Tryz.func49, Tryz.ntmps49
  go_wp2_with fail
  refine wp_loop_rounds 1 ?_
  rw [rounds_succ]
  go_wp2_with (go_at_call 82; refine (H82.out _).mono ?_; rintro e V ⟨rfl, hv⟩; obtain rfl := hv.symm)
  go_wp2_with (go_at_call 83; refine (H83.out _).mono ?_; rintro e V ⟨rfl, hk⟩; refine Hid.out ?_)
  refine Lib.hid ?_
  have c1 := hk.cell c1 (by simp)
  have c2 := hk.cell c2 (by simp)
  have HK1 := Lib.hid hk
  clear hk c0
  go_wp2_with (go_at_call 30; refine (H30.out _).mono ?_; rintro e V2 ⟨rfl, hk⟩; refine Hid.out ?_)
  refine Lib.hid ?_
  have c2 := hk.cell c2 (by simp)
  have HK2 := Lib.hid (HK1.out.trans hk)
  clear hk c1 HK1
  cases fr
  · go_wp2_with fail
    try simp only [Exit.inBlock, Exit.then]
    refine bodyPost_ret (results_tmp4 rfl _ _ _) rfl ?_
    exact ⟨rfl, HK2.out⟩
  · go_wp2_with fail
    try simp only [Exit.inBlock, Exit.then]
    refine bodyPost_ret (results_tmp4 rfl _ _ _) rfl ?_
    exact ⟨rfl, HK2.out⟩
end Go.Proofs.YtoaedibfgegilaaGreatDoor.st
