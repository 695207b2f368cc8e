/-
  FnIsUTF16: UTF16Of at one letter.
-/
import Derived.Test.YtcohlcijgfdanaaDoorU16e
namespace Go.Proofs.YtcohlcijgfdanaaDoor.u16
open Go.RowKit

set_option maxHeartbeats 1000000 in
set_option maxRecDepth 100000 in
/-- EncodeUTF16String of one letter. -/
theorem enc40 (w : World) : Calls Tryd.prog 40 #[.string ⟨#[97]⟩] w fun e w' => e = .returned (.string ⟨#[254, 255, 0, 97]⟩) ∧ Below w.heap.size w w' := by
  obtain ⟨j0, ji, jz0, jz1, jz2⟩ := info_parts infoU8
  obtain ⟨cap, W, hcv, k0, hB⟩ := runes_a w
  have hc := Lib.hid (encode65 w.heap.size cap W k0)
  clear k0
  have HB := Lib.hid hB
  clear hB
  go_enter Tryd.func40, Tryd.ntmps40
  go_wp2_with (go_at_call 65; refine hc.out.mono ?_; rintro e w1 ⟨g', c', rfl, u0, hb1⟩; refine Hid.out ?_)
  refine Lib.hid ?_
  have hsW := HB.out.size
  have hs1 := hb1.size
  obtain ⟨W2, hW2⟩ : ∃ X, w1.alloc (.cells #[.int .u8 254, .int .u8 255] 5) = X := ⟨_, rfl⟩
  have hB2 : Below w.heap.size w W2 := by rw [← hW2]; exact (HB.out.trans (hb1.mono hsW)).alloc (by omega) _
  have hown : W2.ownsRow w.heap.size 5 1 (.slice (some ⟨w1.heap.size, 0, none⟩) 2 2) 2 [.int .u8 254, .int .u8 255] := by
    rw [← hW2]
    exact World.ownsRow_lit w1 #[.int .u8 254, .int .u8 255] 2 (by omega) (by unfold maxLen; omega) rfl
  have hg' : g' < w1.heap.size := World.block_lt_of_cell? _ _ u0
  have v0 : W2.cell? ⟨g', 0, none⟩ = some (.int .u16 97) := by
    rw [← hW2]
    exact (((Below.refl w1.heap.size w1).alloc (Nat.le_refl _) _).cell (p := ⟨g', 0, none⟩) hg').trans u0
  have HW2 := Lib.hid hW2
  have hs2 := hB2.size
  have HB2 := Lib.hid hB2
  clear hb1 hB2 hW2 HB hc u0
  go_wp2_with fail
  rw [HW2.out]
  refine wp_loop_rounds 2 ?_
  rw [rounds_succ]
  go_wp2_with (at_builtin; refine wpList_append_own _ rfl _ _ 29 rfl w.heap.size 5 j0 (.int .u8 0) 1 1 Tryd.underlying29 ji jz0 jz1 jz2 rfl (by decide) _ _ _ rfl (hown.alloc _) ⟨W2.heap.size, 0, none⟩ 2 2 [Value.int .u8 0, Value.int .u8 97] rfl rfl (cell_two _ _ _ _ _ (by simp)) (by intro u' hu'; simp at hu'; rcases hu' with rfl | rfl <;> rfl) (by unfold maxLen; omega) (by omega) (by simp; omega) ?_; intro v3 w3 hown3 hgrow _; refine Hid.out ?_)
  refine Lib.hid ?_
  have hb3 := (HB2.out.alloc (by omega) (.cells #[.int .u8 0, .int .u8 97] 5)).grown hgrow (by simp; omega) (fun k hk => (hown.lt k hk).1)
  have HB3 := Lib.hid hb3
  rcases hown3.2 with ⟨_, h⟩ | ⟨g3, cap3, cur3, rfl, -, -, -, -, -, -⟩
  · omega
  have hcv3 : (convert 29 9 (.slice (some ⟨g3, 0, none⟩) 4 cap3)).run Tryd.prog w3 = .ok (.string ⟨#[254, 255, 0, 97]⟩) w3 := run_convert_bytes_back (P := Tryd.prog) w3 29 9 5 ⟨g3, 0, none⟩ cap3 [254, 255, 0, 97] Tryd.underlying29 Tryd.underlying5 Tryd.underlying9 (fun j hj => hown3.cells (g := g3) rfl j _ (by
    match j, hj with
    | 0, _ | 1, _ | 2, _ | 3, _ => rfl))
  clear hown3 hgrow hown hb3 v0 hcv
  go_wp2_with fail
  rw [rounds_succ]
  go_wp2_with fail
  go_ret
  exact ⟨rfl, HB3.out⟩

theorem of97 (w : World) : Calls Tryd.prog 20 #[.string ⟨#[97]⟩] w fun e w' => e = .returned (.string ⟨#[254, 255, 0, 97]⟩) ∧ Below w.heap.size w w' := by
  have hc := Lib.hid (enc40 w)
  go_enter Tryd.func20, Tryd.ntmps20
  go_wp2_with (go_at_call 40; refine hc.out.mono ?_; rintro e w1 ⟨rfl, hb1⟩)
  go_ret
  exact ⟨rfl, hb1⟩
end Go.Proofs.YtcohlcijgfdanaaDoor.u16
