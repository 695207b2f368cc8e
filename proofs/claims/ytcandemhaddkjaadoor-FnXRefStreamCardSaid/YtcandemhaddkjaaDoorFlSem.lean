/-
  What the walk lacked on floats: a store of a float into a cell.
-/
import Derived.Laws.Entries
import Derived.Laws.FloatArith
namespace Go.Proofs.YtcandemhaddkjaaDoor
section
variable (P : Program) (w : World) (a : Addr) (m : Mode)
@[go_sem] theorem run_store_float (k : FloatKind) (b : Nat) : (store a (.float k b) m).run P w = stored P w a (.float k b) m := run_store P w a _ m rfl
end
end Go.Proofs.YtcandemhaddkjaaDoor
