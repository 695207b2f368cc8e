/-
  FnLiteralText: spec.Edge of bytes behind the mark.
-/
import Derived.Test.YtcohlcijgfdanaaDoorNrw
namespace Go.Proofs.YtcohlcijgfdanaaDoor.wd
open Go.RowKit

set_option maxHeartbeats 4000000 in
set_option maxRecDepth 100000 in
theorem edge18m (us : List Nat) (hu : ∀ u ∈ us, u < 65536) (s : ByteArray) (hT : s.data.toList = 254 :: 255 :: bytes us) (hs : s.size ≤ 10000) (w : World) :
    Calls Tryd.prog 18 #[.string s] w fun e w' => (∃ b, e = .returned (.bool b) ∧ (b = false → ¬ 57344 ∈ us)) ∧ Below w.heap.size w w' := by
  have hc := Go.Proofs.YtcohlcijgfdanaaDoor.u16.marked s
  have hmk : Go.Proofs.YtcohlcijgfdanaaDoor.u16.mk s.data.toList = true := by rw [hT]; rfl
  rw [hmk] at hc
  have HC := Lib.hid hc
  have HN : Hid (s.size = 2 + 2 * us.length) := Lib.hid (by rw [Lib.size_eq, hT]; simp only [List.length_cons, bytes_len]; omega)
  have HAT := Lib.hid (at_unit s _ hT hu)
  have HU := Lib.hid hu
  clear hc hmk hT hu
  go_enter Tryd.func18, Tryd.ntmps18
  go_wp2_with fail
  go_loopw [3] (fun i wr => ∃ (k q : Nat), i = .int .i64 (q : Int) ∧ Hid (q = 2 + 2 * k) ∧ Hid (k ≤ us.length) ∧ Hid (¬ 57344 ∈ us.take k) ∧ Hid (Below w.heap.size w wr)) (fun i _ => s.size - (intOf i).toNat)
  case atStart => exact ⟨0, 2, rfl, Lib.hid rfl, Lib.hid (by omega), Lib.hid (by simp), Lib.hid (Below.refl _ _)⟩
  case round =>
    obtain ⟨k, q, rfl, HQ, HK, HNO, HB⟩ := hrel
    by_cases hk : k < us.length
    · obtain ⟨u, hu0⟩ : ∃ u, us[k]? = some u := ⟨_, List.getElem?_eq_getElem hk⟩
      obtain ⟨f0, f1, f2⟩ := HAT.out k u q hu0 HQ.out
      have hq0 : q < s.size := by omega
      have g0 := f1 hq0
      have g1 := f2 f0
      have hlt : (q : Int) + 1 < (s.size : Int) := by omega
      have hmm : Hid (u ∈ us) := Lib.hid (List.mem_of_getElem? hu0)
      have h16 := HU.out u hmm.out
      have HT : Hid (us.take (k + 1) = us.take k ++ [u]) := Lib.hid (by rw [List.take_add_one, hu0]; rfl)
      have hxy : ((u / 256 : Nat) : Int) * 256 + ((u % 256 : Nat) : Int) = (u : Int) := by omega
      have HXY := Lib.hid (And.intro hxy (show (0 : Int) ≤ ((u % 256 : Nat) : Int) ∧ ((u % 256 : Nat) : Int) ≤ 255 by omega))
      have hk2 : Hid (k + 1 ≤ us.length) := Lib.hid hk
      have HQ2 : Hid (q + 2 = 2 + 2 * (k + 1)) := Lib.hid (by have := HQ.out; omega)
      clear f1 f2 hxy h16 hk hu0
      generalize ((u / 256 : Nat) : Int) = x at *
      generalize ((u % 256 : Nat) : Int) = y at *
      have hcc : (x = 224 ∧ y = 0) ∨ (¬ x = 224) ∨ (x = 224 ∧ ¬ y = 0) := by omega
      rcases hcc with ⟨h1, h2⟩ | h1 | ⟨h1, h2⟩
      · have HF : Hid (57344 ∈ us) := Lib.hid (by
          obtain ⟨h3, h5, h6⟩ := HXY.out
          have h4 : u = 57344 := by omega
          rw [← h4]
          exact hmm.out)
        subst h1 h2
        go_wp2_with (go_at_call 15; refine (HC.out _).mono ?_; rintro e w1 ⟨rfl, rfl⟩)
        go_ret
        exact ⟨⟨_, rfl, by simp⟩, HB.out⟩
      all_goals
        have HF : Hid (¬ 57344 ∈ us.take (k + 1)) := Lib.hid (by
          rw [HT.out, List.mem_append, List.mem_singleton]
          rintro (h | h)
          · exact HNO.out h
          · obtain ⟨h3, h5, h6⟩ := HXY.out
            rw [← h] at h3
            omega)
        clear HT HXY
      · have h1' : (x == 224) = false := by simpa using h1
        go_wp2_with (go_at_call 15; refine (HC.out _).mono ?_; rintro e w1 ⟨rfl, rfl⟩)
        go_roundw
        case rel => first | exact ⟨k + 1, q + 2, rfl, HQ2, hk2, HF, HB⟩ | ((repeat apply Exists.intro); refine ⟨?_, rfl⟩; exact ⟨k + 1, q + 2, rfl, HQ2, hk2, HF, HB⟩)
        case measure => simp [intOf]; omega
      · have h2' : (y == 0) = false := by simpa using h2
        subst h1
        go_wp2_with (go_at_call 15; refine (HC.out _).mono ?_; rintro e w1 ⟨rfl, rfl⟩)
        go_roundw
        case rel => first | exact ⟨k + 1, q + 2, rfl, HQ2, hk2, HF, HB⟩ | ((repeat apply Exists.intro); refine ⟨?_, rfl⟩; exact ⟨k + 1, q + 2, rfl, HQ2, hk2, HF, HB⟩)
        case measure => simp [intOf]; omega
    · have hend : ¬ (q : Int) + 1 < (s.size : Int) := by have := HN.out; have := HQ.out; omega
      have hq : q ≤ 10002 := by have := HN.out; have := HQ.out; have := HK.out; omega
      have HF : Hid (¬ 57344 ∈ us) := Lib.hid (by
        have := HNO.out
        rw [List.take_of_length_le (by omega)] at this
        exact this)
      clear hk
      go_wp2_with (go_at_call 15; refine (HC.out _).mono ?_; rintro e w1 ⟨rfl, rfl⟩)
      generalize wr = W0 at *
      go_loopw [5] (fun _ wq => ∃ pos : Nat, wq.heap[W0.heap.size]? = some (.stringIter s pos) ∧ Hid (Below w.heap.size w wq)) (fun _ wq => s.size - wq.iterPos W0.heap.size)
      case atStart => exact ⟨0, World.iter_heap W0 s 0, Lib.hid (HB.out.alloc HB.out.size _)⟩
      case round =>
        obtain ⟨pos, hit, HB2⟩ := hrel
        by_cases hp : pos < s.size
        · have hnx : ∀ ty, (Instr.next (.pointer (some ⟨W0.heap.size, 0, none⟩)) true ty).run Tryd.prog wr = _ := fun ty => Lib.run_next_any_at wr W0.heap.size s pos ty hit hp
          have hwd := width_pos s pos
          have hsc := decode_scal s pos
          have hit2 := Lib.iterAt_heap wr W0.heap.size s pos (pos + (Utf8.decode s pos).2) hit
          have hbw2 := Lib.hid (Lib.below_iterAt HB2.out (k := W0.heap.size) HB.out.size s (pos + (Utf8.decode s pos).2))
          generalize (Utf8.decode s pos).1 = c at hnx hsc
          have HWD := Lib.hid hwd
          have HIT := Lib.hid hit
          have HIT2 := Lib.hid hit2
          have HP := Lib.hid hp
          by_cases hc : c = 57344
          · have hd : (c : Int) = 57344 := by omega
            clear hc hit hit2 hp hwd hsc
            generalize (c : Int) = d at hnx hd
            go_wp2_with fail
            go_ret
            exact ⟨⟨_, rfl, fun _ => HF.out⟩, hbw2.out⟩
          · have hd : ¬ (c : Int) = 57344 := by omega
            clear hc hit hit2 hp hwd hsc
            generalize (c : Int) = d at hnx hd
            go_wp2_with fail
            go_roundw
            case rel => exact ⟨pos + (Utf8.decode s pos).2, HIT2.out, hbw2⟩
            case measure =>
              have := HP.out
              have := HWD.out
              have hit := HIT.out
              have hit2 := HIT2.out
              simp only [World.iterPos, hit2, hit]
              omega
        · have hnx : ∀ ty, (Instr.next (.pointer (some ⟨W0.heap.size, 0, none⟩)) true ty).run Tryd.prog wr = _ := fun ty => Lib.run_next_end_at wr W0.heap.size s pos ty hit hp
          clear hit hp
          go_wp2_with fail
          go_ret
          exact ⟨⟨_, rfl, fun _ => HF.out⟩, HB2.out⟩
end Go.Proofs.YtcohlcijgfdanaaDoor.wd
