/-
  FnIsUTF16: FromUTF16 at its six bytes; UTF16Of at one letter.
-/
import Derived.Test.YtcohlcijgfdanaaDoorU16d
namespace Go.Proofs.YtcohlcijgfdanaaDoor.u16
open Go.RowKit

def six : ByteArray := ⟨#[254, 255, 0, 97, 32, 172]⟩

theorem dec39 (w : World) : Calls Tryd.prog 39 #[.string ⟨#[254, 255, 0, 97, 32, 172]⟩] w fun e w' => e = .returned (.tuple #[.string ⟨#[97, 226, 130, 172]⟩, .nilIface]) ∧ Below w.heap.size w w' := by
  have hcv := Lib.run_convert_string_bytes (P := Tryd.prog) w 9 29 5 six (u := .string) Tryd.underlying9 Tryd.underlying29 Tryd.underlying5
  have hge := grownCap_ge w six.size 0 5
  have hle := grownCap_le_maxLen w six.size 0 5 (by decide)
  have hb := Lib.bytesWorld_below w 5 six
  have k0 := Lib.bytesWorld_cell w 5 six 0 (by decide)
  have k1 := Lib.bytesWorld_cell w 5 six 1 (by decide)
  have k2 := Lib.bytesWorld_cell w 5 six 2 (by decide)
  have k3 := Lib.bytesWorld_cell w 5 six 3 (by decide)
  have k4 := Lib.bytesWorld_cell w 5 six 4 (by decide)
  have k5 := Lib.bytesWorld_cell w 5 six 5 (by decide)
  have hc := Lib.hid (dec64 w.heap.size (grownCap w six.size 0 5) (Lib.bytesWorld w 5 six) hge hle k0 k1 k2 k3 k4 k5)
  have hcv : (convert 9 29 (.string ⟨#[254, 255, 0, 97, 32, 172]⟩)).run Tryd.prog w = .ok (.slice (some ⟨w.heap.size, 0, none⟩) 6 (grownCap w six.size 0 5)) (Lib.bytesWorld w 5 six) := hcv
  generalize Lib.bytesWorld w 5 six = W at hcv hb hc
  generalize grownCap w six.size 0 5 = cap at hcv hc
  clear k0 k1 k2 k3 k4 k5 hge hle
  have HB := Lib.hid hb
  clear hb
  go_enter Tryd.func39, Tryd.ntmps39
  go_wp2_with (go_at_call 64; refine hc.out.mono ?_; rintro e w1 ⟨rfl, hb1⟩)
  go_ret2
  exact ⟨rfl, HB.out.trans (hb1.mono HB.out.size)⟩

theorem from6 (w : World) : Calls Tryd.prog 19 #[.string ⟨#[254, 255, 0, 97, 32, 172]⟩] w fun e w' => e = .returned (.tuple #[.string ⟨#[97, 226, 130, 172]⟩, .bool true]) ∧ Below w.heap.size w w' :=
  fromUTF16 _ _ dec39 w

/-- utf16.Encode of one letter. -/
theorem encode65 (g c : Nat) (w : World) (c0 : w.cell? ⟨g, 0, none⟩ = some (.int .i32 97)) :
    Calls Tryd.prog 65 #[.slice (some ⟨g, 0, none⟩) 1 c] w fun e w' => ∃ g' c', e = .returned (.slice (some ⟨g', 0, none⟩) 1 c') ∧ w'.cell? ⟨g', 0, none⟩ = some (.int .u16 97) ∧ Below w.heap.size w w' := by
  obtain ⟨i0, hi, hz0, hz1, hz2⟩ := info_parts infoU16
  have hg : g < w.heap.size := World.block_lt_of_cell? _ _ c0
  have hmk : ∀ w : World, (Instr.makeSlice 71 (.int .i64 1) (.int .i64 1)).run Tryd.prog w = .ok (.slice (some ⟨w.heap.size, 0, none⟩) 1 1) (w.alloc (.cells (madeCells #[.int .u16 0] 1) 74)) := fun w => by
    have := run_make (P := Tryd.prog) w 71 74 i0 (.int .u16 0) Tryd.underlying71 hi hz0 .i64 .i64 1 1 (by decide) (by decide) (by rw [hz2]; decide) (by decide)
    rw [hz1] at this
    exact this
  have hmc : madeCells #[Value.int .u16 0] 1 = #[.int .u16 0] := Array.toList_inj.1 (by rw [toList_madeCells_one]; rfl)
  rw [hmc] at hmk
  obtain ⟨W, hW⟩ : ∃ W, w.alloc (.cells #[.int .u16 0] 74) = W := ⟨_, rfl⟩
  have hB : Below w.heap.size w W := by rw [← hW]; exact (Below.refl _ _).alloc (Nat.le_refl _) _
  have k0 := (hB.cell (p := ⟨g, 0, none⟩) hg).trans c0
  have m0 : W.cell? ⟨w.heap.size, 0, none⟩ = some (.int .u16 0) := by rw [← hW]; simp [go_sem]
  have f0 : W.frozen? ⟨w.heap.size, 0, none⟩ = false := by rw [← hW]; simp [go_sem]
  have HB := Lib.hid hB
  have HW := Lib.hid hW
  clear hB hW
  go_enter Tryd.func65, Tryd.ntmps65
  go_wp2_with fail
  refine wp_loop_rounds 2 ?_
  rw [rounds_succ]
  go_wp2_with fail
  rw [rounds_succ]
  go_wp2_with fail
  rw [HW.out]
  refine wp_loop_rounds 2 ?_
  rw [rounds_succ]
  go_wp2
  rw [rounds_succ]
  go_wp2
  go_ret
  exact ⟨_, _, rfl, by simp [go_sem, m0, f0], HB.out.setCell (p := ⟨w.heap.size, 0, none⟩) (Nat.le_refl _) _⟩

theorem runes97 : Conv.runesFrom ⟨#[97]⟩ 1 0 #[] = #[.int .i32 97] := by rfl
theorem cell_two (W : World) (x y : Value) (t : TypeId) (k : Nat) (hk : k = W.heap.size) : ∀ j u, [x, y][j]? = some u → (W.alloc (.cells #[x, y] t)).cell? ((⟨k, 0, none⟩ : Addr).add j) = some u := by
  subst hk
  intro j u hj
  match j, hj with
  | 0, hj => simp at hj; subst hj; simp [Addr.add]
  | 1, hj => simp at hj; subst hj; simp [Addr.add]
  | (j + 2), hj => simp at hj

theorem cell_first (W : World) (x : Value) (cs : Array Value) (t : TypeId) : (W.alloc (.cells (#[x] ++ cs) t)).cell? ⟨W.heap.size, 0, none⟩ = some x := by
  rw [World.cell?_alloc_at _ _ _ _ rfl, Array.getElem?_append_left (by simp)]
  rfl
theorem runes_a (w : World) : ∃ cap W, (convert 9 73 (.string ⟨#[97]⟩)).run Tryd.prog w = .ok (.slice (some ⟨w.heap.size, 0, none⟩) 1 cap) W ∧ W.cell? ⟨w.heap.size, 0, none⟩ = some (.int .i32 97) ∧ Below w.heap.size w W := by
  have hcv := run_runes_of_string (P := Tryd.prog) w 9 73 21 ⟨#[97]⟩ Tryd.underlying9 Tryd.underlying73 Tryd.underlying21 (by rw [show (⟨#[97]⟩ : ByteArray).size = 1 from rfl, runes97]; decide)
  rw [show (⟨#[97]⟩ : ByteArray).size = 1 from rfl, runes97] at hcv
  exact ⟨_, _, hcv, cell_first w.drew _ _ _, (Below.refl _ w).drew.alloc (Nat.le_refl _) _⟩
end Go.Proofs.YtcohlcijgfdanaaDoor.u16
