/-
  FnLiteralText: the reader's failure.
-/
import Derived.Test.YtcohlcijgfdanaaDoorLic
namespace Go.Proofs.YtcohlcijgfdanaaDoor.lt
open Go.RowKit

set_option maxHeartbeats 4000000 in
set_option maxRecDepth 100000 in
theorem fail70 (g : Nat) (w : World) (c2 : w.cell? ⟨g, 2, none⟩ = some (.int .i64 0)) (f2 : w.frozen? ⟨g, 2, none⟩ = false) :
    Calls Tryd.prog 70 #[.pointer (some ⟨g, 0, none⟩), .int .i64 1] w fun e w' => (∃ v, e = .returned v) ∧ w'.cell? ⟨g, 2, none⟩ = some (.int .i64 1) ∧ (∀ i, i ≠ 2 → w'.cell? ⟨g, i, none⟩ = w.cell? ⟨g, i, none⟩) ∧ Below g w w' := by
  have hgw := World.block_lt_of_cell? _ _ c2
  simp at hgw
  have hgw' : g < w.heap.size := hgw
  have hne : g ≠ w.heap.size := by omega
  have hsf : ∀ (W : World) (a : Addr) (m : Mode), (store a (.float .f64 0) m).run Tryd.prog W = stored Tryd.prog W a (.float .f64 0) m := fun W a m => run_store Tryd.prog W a _ m rfl
  go_enter Tryd.func70, Tryd.ntmps70
  go_wp2_with fail
  have hB : Below g w ((w.setCell ⟨g, 2, none⟩ (.int .i64 1)).alloc (.cells #[.int .i64 0, .int .i64 0, .int .i64 0, .float .f64 0, .string ⟨#[]⟩, .slice none 0 0, .slice none 0 0] 88)) := ((Below.refl g w).setCell (p := ⟨g, 2, none⟩) (Nat.le_refl _) _).alloc (by simp; omega) _
  refine bodyPost_ret (v := .agg #[.int .i64 0, .int .i64 0, .int .i64 0, .float .f64 0, .string ⟨#[]⟩, .slice none 0 0, .slice none 0 0]) (by simp [results, Tryd.results70, go_sem]) rfl ⟨⟨_, rfl⟩, ?_, ?_, hB⟩
  · rw [World.cell?_alloc_lt _ _ _ (by simp; omega)]
    simp [go_sem, c2, f2]
  · intro i hi
    rw [World.cell?_alloc_lt _ _ _ (by simp; omega)]
    exact World.cell?_setCell_other _ _ _ _ (by simp only [ne_eq, Addr.mk.injEq, and_true, true_and]; omega)
end Go.Proofs.YtcohlcijgfdanaaDoor.lt
