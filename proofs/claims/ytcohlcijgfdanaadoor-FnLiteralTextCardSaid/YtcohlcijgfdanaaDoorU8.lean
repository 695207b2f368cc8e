/-
  FnIsUTF16: small contracts at fixed runes and bytes.
-/
import Derived.Test.YtcohlcijgfdanaaDoorRows
import Derived.WalkKit
import Derived.BigCall
import Derived.BigGuard
import Derived.Below
import Derived.Lib.Hide
import Derived.Laws.Strings2
import Derived.Laws.Strings3
import Derived.Deep.QuietTactic
import Derived.BigQuiet
namespace Go.Proofs.YtcohlcijgfdanaaDoor.u16
open Go.RowKit

theorem isBE (g cap : Nat) (w : World) (h0 : w.cell? ⟨g, 0, none⟩ = some (.int .u8 254)) (h1 : w.cell? ⟨g, 1, none⟩ = some (.int .u8 255)) :
    Calls Tryd.prog 77 #[.slice (some ⟨g, 0, none⟩) 6 cap] w fun e w' => e = .returned (.bool true) ∧ w = w' := by
  go_enter Tryd.func77, Tryd.ntmps77
  go_wp2
  go_ret
  exact ⟨rfl, rfl⟩

theorem enc97 (g : Nat) (w : World) (x : Value) (h0 : w.cell? ⟨g, 0, none⟩ = some x) (f0 : w.frozen? ⟨g, 0, none⟩ = false) :
    Calls Tryd.prog 89 #[.slice (some ⟨g, 0, none⟩) 4 4, .int .i32 97] w fun e w' => e = .returned (.int .i64 1) ∧ w' = w.setCell ⟨g, 0, none⟩ (.int .u8 97) := by
  go_enter Tryd.func89, Tryd.ntmps89
  go_wp2
  go_ret
  exact ⟨rfl, rfl⟩

theorem encEuro' (g : Nat) (w : World) (x0 x1 x2 : Value) (h0 : w.cell? ⟨g, 0, none⟩ = some x0) (h1 : w.cell? ⟨g, 1, none⟩ = some x1) (h2 : w.cell? ⟨g, 2, none⟩ = some x2) (f0 : w.frozen? ⟨g, 0, none⟩ = false) (f1 : w.frozen? ⟨g, 1, none⟩ = false) (f2 : w.frozen? ⟨g, 2, none⟩ = false) :
    Calls Tryd.prog 103 #[.slice (some ⟨g, 0, none⟩) 4 4, .int .i32 8364] w fun e w' => e = .returned (.int .i64 3) ∧ w' = ((w.setCell ⟨g, 0, none⟩ (.int .u8 226)).setCell ⟨g, 1, none⟩ (.int .u8 130)).setCell ⟨g, 2, none⟩ (.int .u8 172) := by
  go_enter Tryd.func103, Tryd.ntmps103
  go_wp2
  go_ret
  exact ⟨rfl, rfl⟩

theorem encEuro (g : Nat) (w : World) (x0 x1 x2 : Value) (h0 : w.cell? ⟨g, 0, none⟩ = some x0) (h1 : w.cell? ⟨g, 1, none⟩ = some x1) (h2 : w.cell? ⟨g, 2, none⟩ = some x2) (f0 : w.frozen? ⟨g, 0, none⟩ = false) (f1 : w.frozen? ⟨g, 1, none⟩ = false) (f2 : w.frozen? ⟨g, 2, none⟩ = false) :
    Calls Tryd.prog 89 #[.slice (some ⟨g, 0, none⟩) 4 4, .int .i32 8364] w fun e w' => e = .returned (.int .i64 3) ∧ w' = ((w.setCell ⟨g, 0, none⟩ (.int .u8 226)).setCell ⟨g, 1, none⟩ (.int .u8 130)).setCell ⟨g, 2, none⟩ (.int .u8 172) := by
  have hc := Lib.hid (encEuro' g w x0 x1 x2 h0 h1 h2 f0 f1 f2)
  clear h0 h1 h2 f0 f1 f2
  go_enter Tryd.func89, Tryd.ntmps89
  go_wp2_with (go_at_call 103; refine hc.out.mono ?_; rintro e w' ⟨rfl, rfl⟩)
  go_ret
  exact ⟨rfl, rfl⟩
end Go.Proofs.YtcohlcijgfdanaaDoor.u16
