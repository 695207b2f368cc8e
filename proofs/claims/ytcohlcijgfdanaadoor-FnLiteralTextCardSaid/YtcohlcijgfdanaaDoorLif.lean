/-
  FnLiteralText: spec.LiteralBytes.
-/
import Derived.Test.YtcohlcijgfdanaaDoorLid
namespace Go.Proofs.YtcohlcijgfdanaaDoor.lt
open Go.RowKit
open Go.Proofs.YtcohlcijgfdanaaDoor.esc (RS)

theorem literal23 (text : List UInt8) (h13 : ∀ c ∈ text, c ≠ 13) (hl : text.length ≤ 4096) (w : World) :
    Calls Tryd.prog 23 #[.string (mkS text)] w fun e w' => (∃ (s' : ByteArray) (is : Bool), e = .returned (.tuple #[.string s', .bool is]) ∧ s'.size ≤ 10000 ∧ (is = true → s' = mkS (unesc text))) ∧ Below w.heap.size w w' := by
  obtain ⟨T, hT⟩ : ∃ T : ByteArray, ((⟨#[40]⟩ : ByteArray) ++ mkS text) ++ ⟨#[41]⟩ = T := ⟨_, rfl⟩
  have hTl : T.data.toList = 40 :: (text ++ [41]) := by rw [← hT]; simp [mkS]
  have hsz : (mkS text).size ≤ 8192 := by rw [mkS_size]; omega
  obtain ⟨W, hW⟩ : ∃ W, w.alloc (.cells #[.string T, .int .i64 0, .int .i64 0, .int .i64 0, .bool false, .bool false] 49) = W := ⟨_, rfl⟩
  have hS : LS w.heap.size T 0 (.slice none 0 0) [] W W := by
    rw [← hW]
    exact ⟨⟨by simp [go_sem], by simp [go_sem], by simp [go_sem], by simp [go_sem]⟩, World.ownsRow_nil _ _ _ _, Below.refl _ _, by simp [go_sem], by simp [go_sem], by simp [go_sem], by simp⟩
  have hB : Below w.heap.size w W := by rw [← hW]; exact (Below.refl _ _).alloc (Nat.le_refl _) _
  have hc := Lib.hid (literal44 text h13 hl w.heap.size T hTl W hS)
  have HB := Lib.hid hB
  have HW := Lib.hid hW
  generalize mkS text = S at *
  generalize hU : mkS (unesc text) = U at *
  clear hTl hS hB hW hU
  go_enter Tryd.func23, Tryd.ntmps23
  go_wp2_with (go_at_call 44; rw [HW.out]; refine hc.out.mono ?_; rintro e w1 ⟨s', n', bad, rfl, hss, c0, c1, c2, himp, hb1⟩; replace hss := Lib.hid hss; refine Hid.out ?_)
  refine Lib.hid ?_
  have HB2 := Lib.hid (HB.out.trans hb1)
  have HI := Lib.hid himp
  clear hb1 hc himp
  by_cases hbad : bad = 0
  · subst hbad
    go_wp2_with fail
    go_quiet (fail)
    obtain ⟨W4, hW4⟩ : ∃ Y, w1.drewN nq = Y := ⟨_, rfl⟩
    have hB4 : Below w.heap.size w W4 := by rw [← hW4]; exact ⟨HB2.out.os, HB2.out.tape, HB2.out.output, HB2.out.size, HB2.out.block⟩
    rw [hW4]
    clear hW4
    go_wp2_with fail
    refine bodyPost_ret (v := .tuple #[.string s', .bool (n' == (T.size : Int))]) (by simp [results, Tryd.results23, go_sem]) rfl ⟨⟨s', _, rfl, hss.out, fun h => HI.out trivial (by simpa using h)⟩, hB4⟩
  · have cb : (bad == 0) = false := by simpa using hbad
    go_wp2_with fail
    go_quiet (fail)
    obtain ⟨W4, hW4⟩ : ∃ Y, w1.drewN nq = Y := ⟨_, rfl⟩
    have hB4 : Below w.heap.size w W4 := by rw [← hW4]; exact ⟨HB2.out.os, HB2.out.tape, HB2.out.output, HB2.out.size, HB2.out.block⟩
    rw [hW4]
    clear hW4
    go_wp2_with fail
    refine bodyPost_ret (v := .tuple #[.string s', .bool false]) (by simp [results, Tryd.results23, go_sem]) rfl ⟨⟨s', false, rfl, hss.out, fun h => by cases h⟩, hB4⟩
end Go.Proofs.YtcohlcijgfdanaaDoor.lt
