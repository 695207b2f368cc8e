/-
  spec.Edge at a text of UTF-8.
-/
import Derived.Test.YtcohlcijgfdanaaDoorWdw
import Derived.Test.YtcohlcijgfdanaaDoorU16l
namespace Go.Proofs.YtcohlcijgfdanaaDoor.wd
open Go.RowKit

theorem valid_unmarked (l : List UInt8) (h : Lib.validD l = true) : Go.Proofs.YtcohlcijgfdanaaDoor.u16.mk l = false := by
  match l with
  | [] => rfl
  | [a] => rfl
  | a :: b :: l =>
    show (a == 254 && b == 255) = false
    by_cases ha : a = 254
    · subst ha
      rw [Lib.validD_step _ (by simp)] at h
      have hd : Lib.decodeL (254 :: b :: l) = (65533, 1) := by
        rw [Lib.decodeL_N]
        exact Lib.decodeN_bad _ _ _ _ _ (Or.inr ⟨show 245 ≤ (254 : UInt8).toNat by decide, show (254 : UInt8).toNat < 256 by decide⟩)
      rw [hd] at h
      simp at h
    · have : (a == 254) = false := by simpa using ha
      rw [this]; rfl

theorem edge18 (s : ByteArray) (hm : Go.Proofs.YtcohlcijgfdanaaDoor.u16.mk s.data.toList = false) (w : World) :
    Calls Tryd.prog 18 #[.string s] w fun e w' => e = .returned (.bool (decide (57344 ∈ runes s.data.toList))) ∧ Below w.heap.size w w' := by
  have hc := Go.Proofs.YtcohlcijgfdanaaDoor.u16.marked s w
  rw [hm] at hc
  have HC := Lib.hid hc
  clear hc hm
  go_enter Tryd.func18, Tryd.ntmps18
  go_wp2_with fail
  refine wp_loop_rounds 1 ?_
  rw [rounds_succ]
  go_wp2_with (go_at_call 15; refine HC.out.mono ?_; rintro e w1 ⟨rfl, rfl⟩)
  go_loopw [5] (fun _ wr => ∃ pos : Nat, Hid (57344 ∈ runes (s.data.toList.drop pos) ↔ 57344 ∈ runes s.data.toList) ∧ wr.heap[w.heap.size]? = some (.stringIter s pos) ∧ Hid (Below w.heap.size w wr)) (fun _ wr => s.size - wr.iterPos w.heap.size)
  case atStart => exact ⟨0, Lib.hid (by simp), World.iter_heap w s 0, Lib.hid ((Below.refl _ _).alloc (Nat.le_refl _) _)⟩
  case round =>
    obtain ⟨pos, hpos, hit, HB⟩ := hrel
    by_cases hp : pos < s.size
    · have hnx : ∀ ty, (Instr.next (.pointer (some ⟨w.heap.size, 0, none⟩)) true ty).run Tryd.prog wr = _ := fun ty => Lib.run_next_any_at wr w.heap.size s pos ty hit hp
      have hwd := width_pos s pos
      have hsc := decode_scal s pos
      have hrd := Lib.hid (runes_drop s pos hp)
      have hit2 := Lib.iterAt_heap wr w.heap.size s pos (pos + (Utf8.decode s pos).2) hit
      have hbw2 := Lib.hid (Lib.below_iterAt HB.out (k := w.heap.size) (by omega) s (pos + (Utf8.decode s pos).2))
      generalize (Utf8.decode s pos).1 = c at hnx hsc hrd
      have HWD := Lib.hid hwd
      have HIT := Lib.hid hit
      have HIT2 := Lib.hid hit2
      have HP := Lib.hid hp
      by_cases hc : c = 57344
      · have hd : (c : Int) = 57344 := by omega
        have hmem : Hid (57344 ∈ runes s.data.toList) := Lib.hid (hpos.out.1 (by rw [hrd.out, hc]; simp))
        clear hc hit hit2 hp hwd hsc hrd
        generalize (c : Int) = d at hnx hd
        go_wp2_with fail
        go_ret
        exact ⟨by rw [decide_eq_true hmem.out]; rfl, hbw2.out⟩
      · have hd : ¬ (c : Int) = 57344 := by omega
        have hpos2 : Hid (57344 ∈ runes (s.data.toList.drop (pos + (Utf8.decode s pos).2)) ↔ 57344 ∈ runes s.data.toList) := Lib.hid (by
          rw [← hpos.out, hrd.out, List.mem_cons]
          exact ⟨Or.inr, fun h => h.elim (fun h => absurd h.symm hc) id⟩)
        clear hc hit hit2 hp hwd hsc hrd
        generalize (c : Int) = d at hnx hd
        go_wp2_with fail
        go_roundw
        case rel => exact ⟨pos + (Utf8.decode s pos).2, hpos2, HIT2.out, hbw2⟩
        case measure =>
          have := HP.out
          have := HWD.out
          have hit := HIT.out
          have hit2 := HIT2.out
          simp only [World.iterPos, hit2, hit]
          omega
    · have hnx : ∀ ty, (Instr.next (.pointer (some ⟨w.heap.size, 0, none⟩)) true ty).run Tryd.prog wr = _ := fun ty => Lib.run_next_end_at wr w.heap.size s pos ty hit hp
      have he := runes_end s pos hp
      have hno : Hid (¬ 57344 ∈ runes s.data.toList) := Lib.hid (by rw [← hpos.out, he]; simp)
      clear he hit hp
      go_wp2_with fail
      go_ret
      exact ⟨by rw [decide_eq_false hno.out]; rfl, HB.out⟩
end Go.Proofs.YtcohlcijgfdanaaDoor.wd
