/-
  Comparing errors: two pointers to an errorString, and nil.
-/
import Derived.Test.YtmihbmjillcjaaaDoorPpr
import Derived.LaidEql
import Derived.Stop.LaidErr
namespace Go.Proofs.YtmihbmjillcjaaaDoor.up
set_option linter.unusedVariables false
set_option linter.unusedSimpArgs false
open Go.RowKit

theorem comp86 : (Tryd.prog.info? 86).map (·.comparable) = some true := by kernel_rfl
theorem size88 : (Tryd.prog.info? 88).map (·.size) = some 1 := by kernel_rfl
theorem eq_same (a : Addr) (w : World) : (binOp .eql 37 (.iface 86 (.pointer (some a))) (.iface 86 (.pointer (some a)))).run Tryd.prog w = .ok (.bool true) w := by
  obtain ⟨i, hi, hcmp⟩ := Option.map_eq_some_iff.1 comp86
  obtain ⟨j, hj, hjs⟩ := Option.map_eq_some_iff.1 size88
  exact run_eql_iface_ptr_same (P := Tryd.prog) w a Tryd.underlying37 Tryd.underlying86 hi hcmp hj
theorem ne_same (a : Addr) (w : World) : (binOp .neq 37 (.iface 86 (.pointer (some a))) (.iface 86 (.pointer (some a)))).run Tryd.prog w = .ok (.bool false) w := by
  obtain ⟨i, hi, hcmp⟩ := Option.map_eq_some_iff.1 comp86
  obtain ⟨j, hj, hjs⟩ := Option.map_eq_some_iff.1 size88
  simp only [binOp]
  simp [Op.equal, Op.maxDepth, run_equalIn_iface_ptr_same w 9998 a Tryd.underlying37 Tryd.underlying86 hi hcmp hj]
theorem eq_nil_left (v : Value) (w : World) : (binOp .eql 37 .nilIface (.iface 86 v)).run Tryd.prog w = .ok (.bool false) w :=
  run_eql_iface_nil_left (P := Tryd.prog) w 86 v Tryd.underlying37

/-- A pointer to a block that is there. -/
def Ptr (w : World) (a : Addr) : Prop := ∃ c t, w.heap[a.block]? = some (.cells c t (0, 0))
theorem Ptr.lt {w : World} {a : Addr} (h : Ptr w a) : a.block < w.heap.size := by
  obtain ⟨c, t, hc⟩ := h
  exact (Array.getElem?_eq_some_iff.1 hc).1
theorem Ptr.kept {L : List Nat} {w w' : World} {a : Addr} (h : Ptr w a) (k : Kept L w w') (hn : a.block ∉ L) : Ptr w' a := by
  obtain ⟨c, t, hc⟩ := h
  exact ⟨c, t, (k.block _ (Array.getElem?_eq_some_iff.1 hc).1 hn).trans hc⟩
theorem Ptr.bel {B : Nat} {L : List Nat} {w w' : World} {a : Addr} (h : Ptr w a) (k : Bel B L w w') (hB : a.block < B) (hn : a.block ∉ L) : Ptr w' a := by
  obtain ⟨c, t, hc⟩ := h
  exact ⟨c, t, (k.block _ hB hn).trans hc⟩
/-- Two pointers are compared. -/
theorem eq_any (a b : Addr) (w : World) (ha : Ptr w a) (hb : Ptr w b) : ∃ t : Bool, ∀ n, (binOp .eql 37 (.iface 86 (.pointer (some a))) (.iface 86 (.pointer (some b)))).run Tryd.prog (w.drewN n) = .ok (.bool t) (w.drewN n) := by
  by_cases h : a = b
  · subst h
    exact ⟨true, fun n => eq_same a _⟩
  · obtain ⟨i, hi, hcmp⟩ := Option.map_eq_some_iff.1 comp86
    obtain ⟨j, hj, hjs⟩ := Option.map_eq_some_iff.1 size88
    obtain ⟨ca, ta, hca⟩ := ha
    obtain ⟨cb, tb, hcb⟩ := hb
    have hz : j.size ≠ 0 := by rw [hjs]; decide
    exact ⟨false, fun n => run_eql_iface_ptr_other (P := Tryd.prog) (w.drewN n) Tryd.underlying37 Tryd.underlying86 hi hcmp hj hz h (ca := ca) (cb := cb) (ta := ta) (tb := tb) hca hcb⟩

/-- A listed sentinel: its variable holds a pointer to a block that is there. -/
theorem laid_ptr {P : Program} {n nm : String} {text : List UInt8} {r : List (String × DataW Unit)} {W : World} {g : Nat} {ti tp te ts : TypeId} {ms : Array (String × TypeId)} {f : Field}
    (h : laidMet P ((n, .iface nm (.ptr (.agg [.lit (.string text)]))) :: r) W)
    (hg : P.globalNamed n = some g) (ht : (P.globals[g]?).map (·.type) = some ti) (hi : P.underlying ti = some (.interface ms)) (hrow : ∀ u, P.typeName? 3 u = some nm → u = tp)
    (hp : P.underlying tp = some (.pointer te)) (he : P.underlying te = some (.struct #[f])) (hft : f.type = ts) (hfo : f.offset = 0) (hs : P.underlying ts = some .string) (hc : P.cellsOf te = 1) (hcs : P.cellsOf ts = 1) :
    ∃ a : Addr, W.cell? ⟨g, 0, none⟩ = some (.iface tp (.pointer (some a))) ∧ Ptr W a := by
  obtain ⟨ps, ⟨g0, t0, cs0, f0, p0, q0, hg0, ht0, hv0, hd0, _, e0⟩, _, hrows⟩ := h
  obtain rfl := Option.some.inj (hg.symm.trans hg0)
  obtain rfl := Option.some.inj (ht.symm.trans ht0)
  subst e0
  obtain ⟨l0⟩ := cs0
  have ok0 : ∀ u v, l0 = [.iface u v] → Value.okWide P W .any 0 u v := fun u v e => by
    subst e
    exact (hrows g 0 (by simp [MemPlace.row])).2 u v (by simpa using World.var?_cell hg0 hv0 0)
  obtain ⟨a0, s0, rfl, hc0, hs0, hz0, rfl⟩ := errorString_of_trod hi hrow hp he hft hfo hs hc hcs hd0 ok0
  refine ⟨a0, by simpa using World.var?_cell hg0 hv0 0, ?_⟩
  exact (hrows a0.block a0.off (by simp [MemPlace.row])).1
end Go.Proofs.YtmihbmjillcjaaaDoor.up
