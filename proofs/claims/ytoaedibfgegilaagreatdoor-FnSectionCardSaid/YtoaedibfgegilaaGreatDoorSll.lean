/-
  laws.FnSection.
-/
import Derived.Test.YtoaedibfgegilaaGreatDoorStt
import Derived.Test.YtoaedibfgegilaaGreatDoorSsx
import Derived.StillTailTactics
namespace Go.Proofs.YtoaedibfgegilaaGreatDoor.st
open Go.RowKit
set_option linter.unusedVariables false
set_option linter.unusedSimpArgs false

set_option maxHeartbeats 8000000 in
set_option maxRecDepth 100000 in
theorem law3 (v : Value) (n : Nat) (f : Nat → Ent) (sv : Value) (N : Nat) (zs : Nat → Int) (en : Int) (w : World) (hE : EntsV w v n f) (hI : IntsV w sv N zs) (hT : Tab w) :
    Calls Tryz.prog 3 #[v, sv, .int .i64 en] w fun e w' => e = .returned (.bool true) ∧ Below w.heap.size w w' := by
  obtain ⟨ea, eC, rfl⟩ := hE.slice
  obtain ⟨ia, iC, rfl⟩ := hI.slice
  have HE := Lib.hid hE
  have HI := Lib.hid hI
  have HT := Lib.hid hT
  clear hE hI hT
  by_cases q1 : (2147483647 : Int) < (n : Int)
  · go_enter Tryz.func3, Tryz.ntmps3
    go_wp2_with fail
    go_ret
    exact ⟨rfl, Below.refl _ _⟩
  by_cases q2 : (2147483647 : Int) < (N : Int)
  · go_enter Tryz.func3, Tryz.ntmps3
    go_wp2_with fail
    go_ret
    exact ⟨rfl, Below.refl _ _⟩
  have H4 := Lib.hid (fits4 _ n f w HE.out (by omega))
  have H5 : Hid (∀ V, Kept [] w V → FitsK f n → Calls Tryz.prog 5 #[.slice ea n eC, .slice ia N iC, .int .i64 en] V fun e w' => TextE V f n e w') := Lib.hid fun V hV hF => text5 _ n f _ N zs en V (HE.out.kept hV) (HI.out.kept hV) hF (by omega) (by omega) (HT.out.kept hV)
  go_enter Tryz.func3, Tryz.ntmps3
  go_wp2_with (go_at_call 4; refine H4.out.mono ?_; rintro e V ⟨b, rfl, hb, hk⟩; refine Hid.out ?_)
  refine Lib.hid ?_
  have HK := Lib.hid hk
  cases b
  · clear hb hk
    go_wp2_with fail
    go_ret
    exact ⟨rfl, HK.out.below (Nat.le_refl _) (by simp)⟩
  have HF := Lib.hid (hb rfl)
  have H5b := Lib.hid (H5.out V HK.out HF.out)
  clear hb hk H5 H4
  go_wp2_with (go_at_call 5; refine H5b.out.mono ?_; rintro e V2 ⟨a, c, t, b, rfl, hb, hk⟩; refine Hid.out ?_)
  refine Lib.hid ?_
  have HK2 := Lib.hid (HK.out.trans hk)
  cases b
  · clear hb hk
    go_wp2_with fail
    go_ret
    exact ⟨rfl, (HK2.out.alloc _).below (Nat.le_refl _) (by simp)⟩
  obtain ⟨hn5, z, j0, h5⟩ := hb rfl
  obtain ⟨S, hS, hsec⟩ := h5.text
  have hcat : t ++ ⟨#[116, 114, 97, 105, 108, 101, 114, 10]⟩ = str (S ++ (trl ++ [10])) := by
    rw [hS, show (⟨#[116, 114, 97, 105, 108, 101, 114, 10]⟩ : ByteArray) = str (trl ++ [10]) from rfl, str_cat]
  have hlen := hsec.length hn5 HF.out.ok
  have hts : t.size ≤ 40000 := by rw [hS, str_size]; omega
  have htold : Told f n z j0 (t ++ ⟨#[116, 114, 97, 105, 108, 101, 114, 10]⟩) := ⟨hn5, HF.out.ok, HF.out.rise, S, hcat, hsec⟩
  have H6 := Lib.hid fun V => section6 a c (t ++ ⟨#[116, 114, 97, 105, 108, 101, 114, 10]⟩) f n z j0 V htold h5.a h5.c h5.j1 h5.jn h5.run
  obtain ⟨Tr, hTr⟩ : ∃ Tr, str trl = Tr := ⟨_, rfl⟩
  have hTl : (Tr.toList == [116, 114, 97, 105, 108, 101, 114]) = true := by rw [← hTr, Lib.toList_data]; rfl
  rw [hTr] at H6
  obtain ⟨X, hX⟩ : ∃ X, t ++ (⟨#[116, 114, 97, 105, 108, 101, 114, 10]⟩ : ByteArray) = X := ⟨_, rfl⟩
  rw [hX] at H6
  clear hb hk hS hsec hcat hlen htold hTr
  have HH5 : Hid True := Lib.hid trivial
  go_wp2_with (go_at_call 6; refine (H6.out _).mono ?_; rintro e V3 ⟨gv, rfl, hE3, hb3⟩; refine Hid.out ?_)
  refine Lib.hid ?_
  obtain ⟨ga, gC, rfl⟩ := hE3.slice
  have HB3 : Hid (Kept [] w V3) := Lib.hid ((HK2.out.alloc _).trans (Kept.of_below hb3 []))
  have HE3 := Lib.hid hE3
  clear hE3 hb3 H6 HH5 hX hts h5
  go_wp2_with fail
  go_loopw [58] (fun i wr2 => ∃ q : Nat, i = .int .i64 (q : Int) ∧ q ≤ n ∧ Hid (Kept [] V3 wr2)) (fun i _ => n - (intOf i).toNat)
  case atStart => exact ⟨0, rfl, by omega, Lib.hid (Kept.refl _ _)⟩
  case round =>
    obtain ⟨q, rfl, hq, HKQ⟩ := hrel
    by_cases hlt2 : q < n
    · obtain ⟨gb, go, hga, hgc⟩ := (HE3.out.kept HKQ.out).cells (by omega)
      obtain ⟨bb, oo, hav, hbc⟩ := (HE.out.kept (HB3.out.trans HKQ.out)).cells (by omega)
      subst hga
      subst hav
      have hg1 := hgc q hlt2
      have hb1 := hbc q hlt2
      have h7 := fun U => same7 (f q) (fun h => by rw [(HF.out.ok q hlt2).comp] at h; exact absurd h.2 (by decide)) U
      obtain ⟨⟨xn, xfr, xcm, xof, xge, xhf, xhg, xst, xix⟩, he⟩ : ∃ e, norm (f q) = e := ⟨_, rfl⟩
      obtain ⟨⟨yn, yfr, ycm, yof, yge, yhf, yhg, yst, yix⟩, hf⟩ : ∃ e, f q = e := ⟨_, rfl⟩
      rw [he] at hg1 h7
      rw [hf] at hb1 h7
      have H7 : Hid (∀ U, Calls Tryz.prog 7 #[.agg #[.int .i64 xn, .bool xfr, .bool xcm, .int .i64 xof, .int .i64 xge, .bool xhf, .bool xhg, .int .i64 xst, .int .i64 xix], .agg #[.int .i64 yn, .bool yfr, .bool ycm, .int .i64 yof, .int .i64 yge, .bool yhf, .bool yhg, .int .i64 yst, .int .i64 yix]] U fun e w' => e = .returned (.bool true) ∧ Below U.heap.size U w') := Lib.hid h7
      have g0 : wr.cell? ⟨gb, go + q * 9, none⟩ = some (.int .i64 xn) := hg1 0 _ rfl
      have g1 : wr.cell? ⟨gb, go + q * 9 + 1, none⟩ = some (.bool xfr) := hg1 1 _ rfl
      have g2 : wr.cell? ⟨gb, go + q * 9 + 2, none⟩ = some (.bool xcm) := hg1 2 _ rfl
      have g3 : wr.cell? ⟨gb, go + q * 9 + 3, none⟩ = some (.int .i64 xof) := hg1 3 _ rfl
      have g4 : wr.cell? ⟨gb, go + q * 9 + 4, none⟩ = some (.int .i64 xge) := hg1 4 _ rfl
      have g5 : wr.cell? ⟨gb, go + q * 9 + 5, none⟩ = some (.bool xhf) := hg1 5 _ rfl
      have g6 : wr.cell? ⟨gb, go + q * 9 + 6, none⟩ = some (.bool xhg) := hg1 6 _ rfl
      have g7 : wr.cell? ⟨gb, go + q * 9 + 7, none⟩ = some (.int .i64 xst) := hg1 7 _ rfl
      have g8 : wr.cell? ⟨gb, go + q * 9 + 8, none⟩ = some (.int .i64 xix) := hg1 8 _ rfl
      have c0 : wr.cell? ⟨bb, oo + q * 9, none⟩ = some (.int .i64 yn) := hb1 0 _ rfl
      have c1 : wr.cell? ⟨bb, oo + q * 9 + 1, none⟩ = some (.bool yfr) := hb1 1 _ rfl
      have c2 : wr.cell? ⟨bb, oo + q * 9 + 2, none⟩ = some (.bool ycm) := hb1 2 _ rfl
      have c3 : wr.cell? ⟨bb, oo + q * 9 + 3, none⟩ = some (.int .i64 yof) := hb1 3 _ rfl
      have c4 : wr.cell? ⟨bb, oo + q * 9 + 4, none⟩ = some (.int .i64 yge) := hb1 4 _ rfl
      have c5 : wr.cell? ⟨bb, oo + q * 9 + 5, none⟩ = some (.bool yhf) := hb1 5 _ rfl
      have c6 : wr.cell? ⟨bb, oo + q * 9 + 6, none⟩ = some (.bool yhg) := hb1 6 _ rfl
      have c7 : wr.cell? ⟨bb, oo + q * 9 + 7, none⟩ = some (.int .i64 yst) := hb1 7 _ rfl
      have c8 : wr.cell? ⟨bb, oo + q * 9 + 8, none⟩ = some (.int .i64 yix) := hb1 8 _ rfl
      clear hgc hbc hg1 hb1 h7 he hf
      go_wp2_with fail
      go_still_tail 8, (by kernel_rfl)
      change wpList _ _ _ _ _ wr.drew
      have kd : Kept [] wr wr.drew := (Kept.refl _ _).drew
      generalize wr.drew = U2 at kd ⊢
      have HKD := Lib.hid kd
      clear kd g0 g1 g2 g3 g4 g5 g6 g7 g8 c0 c1 c2 c3 c4 c5 c6 c7 c8
      go_wp2_with (go_at_call 7; refine (H7.out _).mono ?_; rintro e w3 ⟨rfl, hb3⟩; refine Hid.out ?_)
      refine Lib.hid ?_
      have HB4 := Lib.hid hb3
      clear hb3
      go_wp2_with fail
      go_roundw
      case rel => exact ⟨q + 1, by go_num, by omega, Lib.hid ((HKQ.out.trans HKD.out).trans (Kept.of_below HB4.out _))⟩
      case measure => simp [intOf]; omega
    · go_wp2_with fail
      go_ret
      exact ⟨rfl, (HB3.out.trans HKQ.out).below (Nat.le_refl _) (by simp)⟩
end Go.Proofs.YtoaedibfgegilaaGreatDoor.st
