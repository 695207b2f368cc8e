/-
  FnVersion: the nine names, and the law's walk.
-/
import Derived.Test.YtlpeamghmhiefaaDoorVs
namespace Go.Proofs.YtlpeamghmhiefaaDoor
open Go.RowKit

theorem pdf2 (w : World) : Calls Tryd.prog 21 #[.string ⟨#[49, 46, 50]⟩] w fun e w' => e = .returned (.tuple #[.int .i64 2, .nilIface]) ∧ w' = w := by
  go_enter Tryd.func21, Tryd.ntmps21
  go_wp2
  go_ret2
  exact ⟨rfl, rfl⟩
theorem pdf3 (w : World) : Calls Tryd.prog 21 #[.string ⟨#[49, 46, 51]⟩] w fun e w' => e = .returned (.tuple #[.int .i64 3, .nilIface]) ∧ w' = w := by
  go_enter Tryd.func21, Tryd.ntmps21
  go_wp2
  go_ret2
  exact ⟨rfl, rfl⟩
theorem pdf4 (w : World) : Calls Tryd.prog 21 #[.string ⟨#[49, 46, 52]⟩] w fun e w' => e = .returned (.tuple #[.int .i64 4, .nilIface]) ∧ w' = w := by
  go_enter Tryd.func21, Tryd.ntmps21
  go_wp2
  go_ret2
  exact ⟨rfl, rfl⟩
theorem pdf5 (w : World) : Calls Tryd.prog 21 #[.string ⟨#[49, 46, 53]⟩] w fun e w' => e = .returned (.tuple #[.int .i64 5, .nilIface]) ∧ w' = w := by
  go_enter Tryd.func21, Tryd.ntmps21
  go_wp2
  go_ret2
  exact ⟨rfl, rfl⟩
theorem pdf6 (w : World) : Calls Tryd.prog 21 #[.string ⟨#[49, 46, 54]⟩] w fun e w' => e = .returned (.tuple #[.int .i64 6, .nilIface]) ∧ w' = w := by
  go_enter Tryd.func21, Tryd.ntmps21
  go_wp2
  go_ret2
  exact ⟨rfl, rfl⟩
theorem pdf7 (w : World) : Calls Tryd.prog 21 #[.string ⟨#[49, 46, 55]⟩] w fun e w' => e = .returned (.tuple #[.int .i64 7, .nilIface]) ∧ w' = w := by
  go_enter Tryd.func21, Tryd.ntmps21
  go_wp2
  go_ret2
  exact ⟨rfl, rfl⟩
theorem name0 (w : World) : Calls Tryd.prog 23 #[.int .i64 0] w fun e w' => e = .returned (.string ⟨#[49, 46, 48]⟩) ∧ w' = w := by
  have hi : Calls Tryd.prog 20 #[.int .i64 0] w fun e w' => e = .returned (.string ⟨#[48]⟩) ∧ w' = w := by
    have := Tryd.strconv_Itoa_small 0 (by decide) w
    rw [dec_dig 0 (by decide)] at this
    exact this
  go_enter Tryd.func23, Tryd.ntmps23
  go_wp2_with (go_at_call 20; refine hi.mono ?_; rintro e w' ⟨rfl, rfl⟩)
  go_ret
  exact ⟨rfl, rfl⟩
theorem ver0 (w : World) : Calls Tryd.prog 8 #[.string ⟨#[49, 46, 48]⟩, .bool false] w fun e w' => e = .returned (.tuple #[.int .i64 0, .string ⟨#[49, 46, 48]⟩, .bool true]) ∧ w' = w := by
  go_enter Tryd.func8, Tryd.ntmps8
  go_wp2_with (first
    | (go_at_call 21; refine (pdf0 _).mono ?_; rintro e w' ⟨rfl, rfl⟩)
    | (go_at_call 23; refine (name0 _).mono ?_; rintro e w' ⟨rfl, rfl⟩))
  exact bodyPost_ret (v := .tuple #[.int .i64 0, .string ⟨#[49, 46, 48]⟩, .bool true]) (by simp [results, Tryd.results8, go_sem]) rfl ⟨rfl, rfl⟩
theorem name1 (w : World) : Calls Tryd.prog 23 #[.int .i64 1] w fun e w' => e = .returned (.string ⟨#[49, 46, 49]⟩) ∧ w' = w := by
  have hi : Calls Tryd.prog 20 #[.int .i64 1] w fun e w' => e = .returned (.string ⟨#[49]⟩) ∧ w' = w := by
    have := Tryd.strconv_Itoa_small 1 (by decide) w
    rw [dec_dig 1 (by decide)] at this
    exact this
  go_enter Tryd.func23, Tryd.ntmps23
  go_wp2_with (go_at_call 20; refine hi.mono ?_; rintro e w' ⟨rfl, rfl⟩)
  go_ret
  exact ⟨rfl, rfl⟩
theorem ver1 (w : World) : Calls Tryd.prog 8 #[.string ⟨#[49, 46, 49]⟩, .bool false] w fun e w' => e = .returned (.tuple #[.int .i64 1, .string ⟨#[49, 46, 49]⟩, .bool true]) ∧ w' = w := by
  go_enter Tryd.func8, Tryd.ntmps8
  go_wp2_with (first
    | (go_at_call 21; refine (pdf1 _).mono ?_; rintro e w' ⟨rfl, rfl⟩)
    | (go_at_call 23; refine (name1 _).mono ?_; rintro e w' ⟨rfl, rfl⟩))
  exact bodyPost_ret (v := .tuple #[.int .i64 1, .string ⟨#[49, 46, 49]⟩, .bool true]) (by simp [results, Tryd.results8, go_sem]) rfl ⟨rfl, rfl⟩
theorem name2 (w : World) : Calls Tryd.prog 23 #[.int .i64 2] w fun e w' => e = .returned (.string ⟨#[49, 46, 50]⟩) ∧ w' = w := by
  have hi : Calls Tryd.prog 20 #[.int .i64 2] w fun e w' => e = .returned (.string ⟨#[50]⟩) ∧ w' = w := by
    have := Tryd.strconv_Itoa_small 2 (by decide) w
    rw [dec_dig 2 (by decide)] at this
    exact this
  go_enter Tryd.func23, Tryd.ntmps23
  go_wp2_with (go_at_call 20; refine hi.mono ?_; rintro e w' ⟨rfl, rfl⟩)
  go_ret
  exact ⟨rfl, rfl⟩
theorem ver2 (w : World) : Calls Tryd.prog 8 #[.string ⟨#[49, 46, 50]⟩, .bool false] w fun e w' => e = .returned (.tuple #[.int .i64 2, .string ⟨#[49, 46, 50]⟩, .bool true]) ∧ w' = w := by
  go_enter Tryd.func8, Tryd.ntmps8
  go_wp2_with (first
    | (go_at_call 21; refine (pdf2 _).mono ?_; rintro e w' ⟨rfl, rfl⟩)
    | (go_at_call 23; refine (name2 _).mono ?_; rintro e w' ⟨rfl, rfl⟩))
  exact bodyPost_ret (v := .tuple #[.int .i64 2, .string ⟨#[49, 46, 50]⟩, .bool true]) (by simp [results, Tryd.results8, go_sem]) rfl ⟨rfl, rfl⟩
theorem name3 (w : World) : Calls Tryd.prog 23 #[.int .i64 3] w fun e w' => e = .returned (.string ⟨#[49, 46, 51]⟩) ∧ w' = w := by
  have hi : Calls Tryd.prog 20 #[.int .i64 3] w fun e w' => e = .returned (.string ⟨#[51]⟩) ∧ w' = w := by
    have := Tryd.strconv_Itoa_small 3 (by decide) w
    rw [dec_dig 3 (by decide)] at this
    exact this
  go_enter Tryd.func23, Tryd.ntmps23
  go_wp2_with (go_at_call 20; refine hi.mono ?_; rintro e w' ⟨rfl, rfl⟩)
  go_ret
  exact ⟨rfl, rfl⟩
theorem ver3 (w : World) : Calls Tryd.prog 8 #[.string ⟨#[49, 46, 51]⟩, .bool false] w fun e w' => e = .returned (.tuple #[.int .i64 3, .string ⟨#[49, 46, 51]⟩, .bool true]) ∧ w' = w := by
  go_enter Tryd.func8, Tryd.ntmps8
  go_wp2_with (first
    | (go_at_call 21; refine (pdf3 _).mono ?_; rintro e w' ⟨rfl, rfl⟩)
    | (go_at_call 23; refine (name3 _).mono ?_; rintro e w' ⟨rfl, rfl⟩))
  exact bodyPost_ret (v := .tuple #[.int .i64 3, .string ⟨#[49, 46, 51]⟩, .bool true]) (by simp [results, Tryd.results8, go_sem]) rfl ⟨rfl, rfl⟩
theorem name4 (w : World) : Calls Tryd.prog 23 #[.int .i64 4] w fun e w' => e = .returned (.string ⟨#[49, 46, 52]⟩) ∧ w' = w := by
  have hi : Calls Tryd.prog 20 #[.int .i64 4] w fun e w' => e = .returned (.string ⟨#[52]⟩) ∧ w' = w := by
    have := Tryd.strconv_Itoa_small 4 (by decide) w
    rw [dec_dig 4 (by decide)] at this
    exact this
  go_enter Tryd.func23, Tryd.ntmps23
  go_wp2_with (go_at_call 20; refine hi.mono ?_; rintro e w' ⟨rfl, rfl⟩)
  go_ret
  exact ⟨rfl, rfl⟩
theorem ver4 (w : World) : Calls Tryd.prog 8 #[.string ⟨#[49, 46, 52]⟩, .bool false] w fun e w' => e = .returned (.tuple #[.int .i64 4, .string ⟨#[49, 46, 52]⟩, .bool true]) ∧ w' = w := by
  go_enter Tryd.func8, Tryd.ntmps8
  go_wp2_with (first
    | (go_at_call 21; refine (pdf4 _).mono ?_; rintro e w' ⟨rfl, rfl⟩)
    | (go_at_call 23; refine (name4 _).mono ?_; rintro e w' ⟨rfl, rfl⟩))
  exact bodyPost_ret (v := .tuple #[.int .i64 4, .string ⟨#[49, 46, 52]⟩, .bool true]) (by simp [results, Tryd.results8, go_sem]) rfl ⟨rfl, rfl⟩
theorem name5 (w : World) : Calls Tryd.prog 23 #[.int .i64 5] w fun e w' => e = .returned (.string ⟨#[49, 46, 53]⟩) ∧ w' = w := by
  have hi : Calls Tryd.prog 20 #[.int .i64 5] w fun e w' => e = .returned (.string ⟨#[53]⟩) ∧ w' = w := by
    have := Tryd.strconv_Itoa_small 5 (by decide) w
    rw [dec_dig 5 (by decide)] at this
    exact this
  go_enter Tryd.func23, Tryd.ntmps23
  go_wp2_with (go_at_call 20; refine hi.mono ?_; rintro e w' ⟨rfl, rfl⟩)
  go_ret
  exact ⟨rfl, rfl⟩
theorem ver5 (w : World) : Calls Tryd.prog 8 #[.string ⟨#[49, 46, 53]⟩, .bool false] w fun e w' => e = .returned (.tuple #[.int .i64 5, .string ⟨#[49, 46, 53]⟩, .bool true]) ∧ w' = w := by
  go_enter Tryd.func8, Tryd.ntmps8
  go_wp2_with (first
    | (go_at_call 21; refine (pdf5 _).mono ?_; rintro e w' ⟨rfl, rfl⟩)
    | (go_at_call 23; refine (name5 _).mono ?_; rintro e w' ⟨rfl, rfl⟩))
  exact bodyPost_ret (v := .tuple #[.int .i64 5, .string ⟨#[49, 46, 53]⟩, .bool true]) (by simp [results, Tryd.results8, go_sem]) rfl ⟨rfl, rfl⟩
theorem name6 (w : World) : Calls Tryd.prog 23 #[.int .i64 6] w fun e w' => e = .returned (.string ⟨#[49, 46, 54]⟩) ∧ w' = w := by
  have hi : Calls Tryd.prog 20 #[.int .i64 6] w fun e w' => e = .returned (.string ⟨#[54]⟩) ∧ w' = w := by
    have := Tryd.strconv_Itoa_small 6 (by decide) w
    rw [dec_dig 6 (by decide)] at this
    exact this
  go_enter Tryd.func23, Tryd.ntmps23
  go_wp2_with (go_at_call 20; refine hi.mono ?_; rintro e w' ⟨rfl, rfl⟩)
  go_ret
  exact ⟨rfl, rfl⟩
theorem ver6 (w : World) : Calls Tryd.prog 8 #[.string ⟨#[49, 46, 54]⟩, .bool false] w fun e w' => e = .returned (.tuple #[.int .i64 6, .string ⟨#[49, 46, 54]⟩, .bool true]) ∧ w' = w := by
  go_enter Tryd.func8, Tryd.ntmps8
  go_wp2_with (first
    | (go_at_call 21; refine (pdf6 _).mono ?_; rintro e w' ⟨rfl, rfl⟩)
    | (go_at_call 23; refine (name6 _).mono ?_; rintro e w' ⟨rfl, rfl⟩))
  exact bodyPost_ret (v := .tuple #[.int .i64 6, .string ⟨#[49, 46, 54]⟩, .bool true]) (by simp [results, Tryd.results8, go_sem]) rfl ⟨rfl, rfl⟩
theorem name7 (w : World) : Calls Tryd.prog 23 #[.int .i64 7] w fun e w' => e = .returned (.string ⟨#[49, 46, 55]⟩) ∧ w' = w := by
  have hi : Calls Tryd.prog 20 #[.int .i64 7] w fun e w' => e = .returned (.string ⟨#[55]⟩) ∧ w' = w := by
    have := Tryd.strconv_Itoa_small 7 (by decide) w
    rw [dec_dig 7 (by decide)] at this
    exact this
  go_enter Tryd.func23, Tryd.ntmps23
  go_wp2_with (go_at_call 20; refine hi.mono ?_; rintro e w' ⟨rfl, rfl⟩)
  go_ret
  exact ⟨rfl, rfl⟩
theorem ver7 (w : World) : Calls Tryd.prog 8 #[.string ⟨#[49, 46, 55]⟩, .bool false] w fun e w' => e = .returned (.tuple #[.int .i64 7, .string ⟨#[49, 46, 55]⟩, .bool true]) ∧ w' = w := by
  go_enter Tryd.func8, Tryd.ntmps8
  go_wp2_with (first
    | (go_at_call 21; refine (pdf7 _).mono ?_; rintro e w' ⟨rfl, rfl⟩)
    | (go_at_call 23; refine (name7 _).mono ?_; rintro e w' ⟨rfl, rfl⟩))
  exact bodyPost_ret (v := .tuple #[.int .i64 7, .string ⟨#[49, 46, 55]⟩, .bool true]) (by simp [results, Tryd.results8, go_sem]) rfl ⟨rfl, rfl⟩
theorem name8 (w : World) : Calls Tryd.prog 23 #[.int .i64 8] w fun e w' => e = .returned (.string ⟨#[50, 46, 48]⟩) ∧ w' = w := by
  go_enter Tryd.func23, Tryd.ntmps23
  go_wp2_with (go_at_call 20; refine False.elim.mono ?_; rintro e w' ⟨rfl, rfl⟩)
  go_ret
  exact ⟨rfl, rfl⟩
theorem ver8 (w : World) : Calls Tryd.prog 8 #[.string ⟨#[50, 46, 48]⟩, .bool false] w fun e w' => e = .returned (.tuple #[.int .i64 8, .string ⟨#[50, 46, 48]⟩, .bool true]) ∧ w' = w := by
  go_enter Tryd.func8, Tryd.ntmps8
  go_wp2_with (first
    | (go_at_call 21; refine (pdf8 _).mono ?_; rintro e w' ⟨rfl, rfl⟩)
    | (go_at_call 23; refine (name8 _).mono ?_; rintro e w' ⟨rfl, rfl⟩))
  exact bodyPost_ret (v := .tuple #[.int .i64 8, .string ⟨#[50, 46, 48]⟩, .bool true]) (by simp [results, Tryd.results8, go_sem]) rfl ⟨rfl, rfl⟩
theorem verNone (a b : Nat) (ha : a < 100) (hb : b < 100) (hk : known a b = false) (s : ByteArray) (hs : s.toList = nameL a b) (w : World) :
    Calls Tryd.prog 8 #[.string s, .bool false] w fun e w' => e = .returned (.tuple #[.int .i64 0, .string ⟨#[]⟩, .bool false]) ∧ Below w.heap.size w w' := by
  obtain ⟨h0, h1, h2, h3, h4, h5, h6, h7, h8⟩ := unknown ⟨a, ha⟩ ⟨b, hb⟩ hk
  simp only at h0 h1 h2 h3 h4 h5 h6 h7 h8
  rw [← hs] at h0 h1 h2 h3 h4 h5 h6 h7 h8
  have hc := Lib.hid (pdfNone s w h0 h1 h2 h3 h4 h5 h6 h7 h8)
  clear h0 h1 h2 h3 h4 h5 h6 h7 h8 hs
  go_enter Tryd.func8, Tryd.ntmps8
  go_wp2_with (go_at_call 21; refine hc.out.mono ?_; rintro e w' ⟨rfl, hb1⟩)
  exact bodyPost_ret (v := .tuple #[.int .i64 0, .string ⟨#[]⟩, .bool false]) (by simp [results, Tryd.results8, go_sem]) rfl ⟨rfl, hb1⟩

/-- A closed text. -/
theorem textK (n : Nat) (h : n < 100) (l : List UInt8) (e : dig n = l) (w : World) : Calls Tryd.prog 7 #[.int .i64 n] w fun e w' => e = .returned (.string ⟨l.toArray⟩) ∧ w' = w := by
  rw [← e]; exact text n h w

set_option maxRecDepth 100000 in
set_option maxHeartbeats 4000000 in
theorem law0 (w : World) : Calls Tryd.prog 3 #[.int .i64 1, .int .i64 0] w fun e w' => e = .returned (.bool true) ∧ Below w.heap.size w w' := by
  have c1 : Hid (∀ w, Calls Tryd.prog 7 #[.int .i64 1] w fun e w' => e = .returned (.string ⟨#[49]⟩) ∧ w' = w) := Lib.hid fun w => textK 1 (by decide) [49] rfl w
  have c2 : Hid (∀ w, Calls Tryd.prog 7 #[.int .i64 0] w fun e w' => e = .returned (.string ⟨#[48]⟩) ∧ w' = w) := Lib.hid fun w => textK 0 (by decide) [48] rfl w
  have hcat : ((⟨#[49]⟩ : ByteArray) ++ ⟨#[46]⟩) = ⟨#[49, 46]⟩ := rfl
  have hcat2 : ((⟨#[49, 46]⟩ : ByteArray) ++ ⟨#[48]⟩) = ⟨#[49, 46, 48]⟩ := rfl
  go_enter Tryd.func3, Tryd.ntmps3
  go_wp2_with (first
    | (go_at_call 7; (with_reducible refine (c1.out _).mono ?_); rintro e w' ⟨rfl, rfl⟩)
    | (go_at_call 7; (with_reducible refine (c2.out _).mono ?_); rintro e w' ⟨rfl, rfl⟩)
    | (go_at_call 8; (with_reducible refine (ver0 _).mono ?_); rintro e w' ⟨rfl, rfl⟩)
    | (go_at_call 8; (with_reducible refine (ver0 _).mono ?_); rintro e w' ⟨rfl, rfl⟩))
  go_ret
  exact ⟨rfl, Below.refl _ _⟩
set_option maxRecDepth 100000 in
set_option maxHeartbeats 4000000 in
theorem law1 (w : World) : Calls Tryd.prog 3 #[.int .i64 1, .int .i64 1] w fun e w' => e = .returned (.bool true) ∧ Below w.heap.size w w' := by
  have c1 : Hid (∀ w, Calls Tryd.prog 7 #[.int .i64 1] w fun e w' => e = .returned (.string ⟨#[49]⟩) ∧ w' = w) := Lib.hid fun w => textK 1 (by decide) [49] rfl w
  have c2 : Hid (∀ w, Calls Tryd.prog 7 #[.int .i64 1] w fun e w' => e = .returned (.string ⟨#[49]⟩) ∧ w' = w) := Lib.hid fun w => textK 1 (by decide) [49] rfl w
  have hcat : ((⟨#[49]⟩ : ByteArray) ++ ⟨#[46]⟩) = ⟨#[49, 46]⟩ := rfl
  have hcat2 : ((⟨#[49, 46]⟩ : ByteArray) ++ ⟨#[49]⟩) = ⟨#[49, 46, 49]⟩ := rfl
  go_enter Tryd.func3, Tryd.ntmps3
  go_wp2_with (first
    | (go_at_call 7; (with_reducible refine (c1.out _).mono ?_); rintro e w' ⟨rfl, rfl⟩)
    | (go_at_call 7; (with_reducible refine (c2.out _).mono ?_); rintro e w' ⟨rfl, rfl⟩)
    | (go_at_call 8; (with_reducible refine (ver1 _).mono ?_); rintro e w' ⟨rfl, rfl⟩)
    | (go_at_call 8; (with_reducible refine (ver0 _).mono ?_); rintro e w' ⟨rfl, rfl⟩))
  go_ret
  exact ⟨rfl, Below.refl _ _⟩
set_option maxRecDepth 100000 in
set_option maxHeartbeats 4000000 in
theorem law2 (w : World) : Calls Tryd.prog 3 #[.int .i64 1, .int .i64 2] w fun e w' => e = .returned (.bool true) ∧ Below w.heap.size w w' := by
  have c1 : Hid (∀ w, Calls Tryd.prog 7 #[.int .i64 1] w fun e w' => e = .returned (.string ⟨#[49]⟩) ∧ w' = w) := Lib.hid fun w => textK 1 (by decide) [49] rfl w
  have c2 : Hid (∀ w, Calls Tryd.prog 7 #[.int .i64 2] w fun e w' => e = .returned (.string ⟨#[50]⟩) ∧ w' = w) := Lib.hid fun w => textK 2 (by decide) [50] rfl w
  have hcat : ((⟨#[49]⟩ : ByteArray) ++ ⟨#[46]⟩) = ⟨#[49, 46]⟩ := rfl
  have hcat2 : ((⟨#[49, 46]⟩ : ByteArray) ++ ⟨#[50]⟩) = ⟨#[49, 46, 50]⟩ := rfl
  go_enter Tryd.func3, Tryd.ntmps3
  go_wp2_with (first
    | (go_at_call 7; (with_reducible refine (c1.out _).mono ?_); rintro e w' ⟨rfl, rfl⟩)
    | (go_at_call 7; (with_reducible refine (c2.out _).mono ?_); rintro e w' ⟨rfl, rfl⟩)
    | (go_at_call 8; (with_reducible refine (ver2 _).mono ?_); rintro e w' ⟨rfl, rfl⟩)
    | (go_at_call 8; (with_reducible refine (ver0 _).mono ?_); rintro e w' ⟨rfl, rfl⟩))
  go_ret
  exact ⟨rfl, Below.refl _ _⟩
set_option maxRecDepth 100000 in
set_option maxHeartbeats 4000000 in
theorem law3 (w : World) : Calls Tryd.prog 3 #[.int .i64 1, .int .i64 3] w fun e w' => e = .returned (.bool true) ∧ Below w.heap.size w w' := by
  have c1 : Hid (∀ w, Calls Tryd.prog 7 #[.int .i64 1] w fun e w' => e = .returned (.string ⟨#[49]⟩) ∧ w' = w) := Lib.hid fun w => textK 1 (by decide) [49] rfl w
  have c2 : Hid (∀ w, Calls Tryd.prog 7 #[.int .i64 3] w fun e w' => e = .returned (.string ⟨#[51]⟩) ∧ w' = w) := Lib.hid fun w => textK 3 (by decide) [51] rfl w
  have hcat : ((⟨#[49]⟩ : ByteArray) ++ ⟨#[46]⟩) = ⟨#[49, 46]⟩ := rfl
  have hcat2 : ((⟨#[49, 46]⟩ : ByteArray) ++ ⟨#[51]⟩) = ⟨#[49, 46, 51]⟩ := rfl
  go_enter Tryd.func3, Tryd.ntmps3
  go_wp2_with (first
    | (go_at_call 7; (with_reducible refine (c1.out _).mono ?_); rintro e w' ⟨rfl, rfl⟩)
    | (go_at_call 7; (with_reducible refine (c2.out _).mono ?_); rintro e w' ⟨rfl, rfl⟩)
    | (go_at_call 8; (with_reducible refine (ver3 _).mono ?_); rintro e w' ⟨rfl, rfl⟩)
    | (go_at_call 8; (with_reducible refine (ver0 _).mono ?_); rintro e w' ⟨rfl, rfl⟩))
  go_ret
  exact ⟨rfl, Below.refl _ _⟩
set_option maxRecDepth 100000 in
set_option maxHeartbeats 4000000 in
theorem law4 (w : World) : Calls Tryd.prog 3 #[.int .i64 1, .int .i64 4] w fun e w' => e = .returned (.bool true) ∧ Below w.heap.size w w' := by
  have c1 : Hid (∀ w, Calls Tryd.prog 7 #[.int .i64 1] w fun e w' => e = .returned (.string ⟨#[49]⟩) ∧ w' = w) := Lib.hid fun w => textK 1 (by decide) [49] rfl w
  have c2 : Hid (∀ w, Calls Tryd.prog 7 #[.int .i64 4] w fun e w' => e = .returned (.string ⟨#[52]⟩) ∧ w' = w) := Lib.hid fun w => textK 4 (by decide) [52] rfl w
  have hcat : ((⟨#[49]⟩ : ByteArray) ++ ⟨#[46]⟩) = ⟨#[49, 46]⟩ := rfl
  have hcat2 : ((⟨#[49, 46]⟩ : ByteArray) ++ ⟨#[52]⟩) = ⟨#[49, 46, 52]⟩ := rfl
  go_enter Tryd.func3, Tryd.ntmps3
  go_wp2_with (first
    | (go_at_call 7; (with_reducible refine (c1.out _).mono ?_); rintro e w' ⟨rfl, rfl⟩)
    | (go_at_call 7; (with_reducible refine (c2.out _).mono ?_); rintro e w' ⟨rfl, rfl⟩)
    | (go_at_call 8; (with_reducible refine (ver4 _).mono ?_); rintro e w' ⟨rfl, rfl⟩)
    | (go_at_call 8; (with_reducible refine (ver0 _).mono ?_); rintro e w' ⟨rfl, rfl⟩))
  go_ret
  exact ⟨rfl, Below.refl _ _⟩
set_option maxRecDepth 100000 in
set_option maxHeartbeats 4000000 in
theorem law5 (w : World) : Calls Tryd.prog 3 #[.int .i64 1, .int .i64 5] w fun e w' => e = .returned (.bool true) ∧ Below w.heap.size w w' := by
  have c1 : Hid (∀ w, Calls Tryd.prog 7 #[.int .i64 1] w fun e w' => e = .returned (.string ⟨#[49]⟩) ∧ w' = w) := Lib.hid fun w => textK 1 (by decide) [49] rfl w
  have c2 : Hid (∀ w, Calls Tryd.prog 7 #[.int .i64 5] w fun e w' => e = .returned (.string ⟨#[53]⟩) ∧ w' = w) := Lib.hid fun w => textK 5 (by decide) [53] rfl w
  have hcat : ((⟨#[49]⟩ : ByteArray) ++ ⟨#[46]⟩) = ⟨#[49, 46]⟩ := rfl
  have hcat2 : ((⟨#[49, 46]⟩ : ByteArray) ++ ⟨#[53]⟩) = ⟨#[49, 46, 53]⟩ := rfl
  go_enter Tryd.func3, Tryd.ntmps3
  go_wp2_with (first
    | (go_at_call 7; (with_reducible refine (c1.out _).mono ?_); rintro e w' ⟨rfl, rfl⟩)
    | (go_at_call 7; (with_reducible refine (c2.out _).mono ?_); rintro e w' ⟨rfl, rfl⟩)
    | (go_at_call 8; (with_reducible refine (ver5 _).mono ?_); rintro e w' ⟨rfl, rfl⟩)
    | (go_at_call 8; (with_reducible refine (ver0 _).mono ?_); rintro e w' ⟨rfl, rfl⟩))
  go_ret
  exact ⟨rfl, Below.refl _ _⟩
set_option maxRecDepth 100000 in
set_option maxHeartbeats 4000000 in
theorem law6 (w : World) : Calls Tryd.prog 3 #[.int .i64 1, .int .i64 6] w fun e w' => e = .returned (.bool true) ∧ Below w.heap.size w w' := by
  have c1 : Hid (∀ w, Calls Tryd.prog 7 #[.int .i64 1] w fun e w' => e = .returned (.string ⟨#[49]⟩) ∧ w' = w) := Lib.hid fun w => textK 1 (by decide) [49] rfl w
  have c2 : Hid (∀ w, Calls Tryd.prog 7 #[.int .i64 6] w fun e w' => e = .returned (.string ⟨#[54]⟩) ∧ w' = w) := Lib.hid fun w => textK 6 (by decide) [54] rfl w
  have hcat : ((⟨#[49]⟩ : ByteArray) ++ ⟨#[46]⟩) = ⟨#[49, 46]⟩ := rfl
  have hcat2 : ((⟨#[49, 46]⟩ : ByteArray) ++ ⟨#[54]⟩) = ⟨#[49, 46, 54]⟩ := rfl
  go_enter Tryd.func3, Tryd.ntmps3
  go_wp2_with (first
    | (go_at_call 7; (with_reducible refine (c1.out _).mono ?_); rintro e w' ⟨rfl, rfl⟩)
    | (go_at_call 7; (with_reducible refine (c2.out _).mono ?_); rintro e w' ⟨rfl, rfl⟩)
    | (go_at_call 8; (with_reducible refine (ver6 _).mono ?_); rintro e w' ⟨rfl, rfl⟩)
    | (go_at_call 8; (with_reducible refine (ver0 _).mono ?_); rintro e w' ⟨rfl, rfl⟩))
  go_ret
  exact ⟨rfl, Below.refl _ _⟩
set_option maxRecDepth 100000 in
set_option maxHeartbeats 4000000 in
theorem law7 (w : World) : Calls Tryd.prog 3 #[.int .i64 1, .int .i64 7] w fun e w' => e = .returned (.bool true) ∧ Below w.heap.size w w' := by
  have c1 : Hid (∀ w, Calls Tryd.prog 7 #[.int .i64 1] w fun e w' => e = .returned (.string ⟨#[49]⟩) ∧ w' = w) := Lib.hid fun w => textK 1 (by decide) [49] rfl w
  have c2 : Hid (∀ w, Calls Tryd.prog 7 #[.int .i64 7] w fun e w' => e = .returned (.string ⟨#[55]⟩) ∧ w' = w) := Lib.hid fun w => textK 7 (by decide) [55] rfl w
  have hcat : ((⟨#[49]⟩ : ByteArray) ++ ⟨#[46]⟩) = ⟨#[49, 46]⟩ := rfl
  have hcat2 : ((⟨#[49, 46]⟩ : ByteArray) ++ ⟨#[55]⟩) = ⟨#[49, 46, 55]⟩ := rfl
  go_enter Tryd.func3, Tryd.ntmps3
  go_wp2_with (first
    | (go_at_call 7; (with_reducible refine (c1.out _).mono ?_); rintro e w' ⟨rfl, rfl⟩)
    | (go_at_call 7; (with_reducible refine (c2.out _).mono ?_); rintro e w' ⟨rfl, rfl⟩)
    | (go_at_call 8; (with_reducible refine (ver7 _).mono ?_); rintro e w' ⟨rfl, rfl⟩)
    | (go_at_call 8; (with_reducible refine (ver0 _).mono ?_); rintro e w' ⟨rfl, rfl⟩))
  go_ret
  exact ⟨rfl, Below.refl _ _⟩
set_option maxRecDepth 100000 in
set_option maxHeartbeats 4000000 in
theorem law8 (w : World) : Calls Tryd.prog 3 #[.int .i64 2, .int .i64 0] w fun e w' => e = .returned (.bool true) ∧ Below w.heap.size w w' := by
  have c1 : Hid (∀ w, Calls Tryd.prog 7 #[.int .i64 2] w fun e w' => e = .returned (.string ⟨#[50]⟩) ∧ w' = w) := Lib.hid fun w => textK 2 (by decide) [50] rfl w
  have c2 : Hid (∀ w, Calls Tryd.prog 7 #[.int .i64 0] w fun e w' => e = .returned (.string ⟨#[48]⟩) ∧ w' = w) := Lib.hid fun w => textK 0 (by decide) [48] rfl w
  have hcat : ((⟨#[50]⟩ : ByteArray) ++ ⟨#[46]⟩) = ⟨#[50, 46]⟩ := rfl
  have hcat2 : ((⟨#[50, 46]⟩ : ByteArray) ++ ⟨#[48]⟩) = ⟨#[50, 46, 48]⟩ := rfl
  go_enter Tryd.func3, Tryd.ntmps3
  go_wp2_with (first
    | (go_at_call 7; (with_reducible refine (c1.out _).mono ?_); rintro e w' ⟨rfl, rfl⟩)
    | (go_at_call 7; (with_reducible refine (c2.out _).mono ?_); rintro e w' ⟨rfl, rfl⟩)
    | (go_at_call 8; (with_reducible refine (ver8 _).mono ?_); rintro e w' ⟨rfl, rfl⟩)
    | (go_at_call 8; (with_reducible refine (ver0 _).mono ?_); rintro e w' ⟨rfl, rfl⟩))
  go_ret
  exact ⟨rfl, Below.refl _ _⟩
end Go.Proofs.YtlpeamghmhiefaaDoor
