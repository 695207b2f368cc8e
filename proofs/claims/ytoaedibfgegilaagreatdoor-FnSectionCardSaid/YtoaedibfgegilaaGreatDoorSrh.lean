/-
  Scanner.Scan where a read comes first.
-/
import Derived.Test.YtoaedibfgegilaaGreatDoorScn
import Derived.Deep.RegionHeld3
namespace Go.Proofs.YtoaedibfgegilaaGreatDoor.st
open Go.RowKit
set_option linter.unusedVariables false
set_option linter.unusedSimpArgs false

theorem nil123 (a : Addr) (w : World) : (nilAhead 315 62 (.pointer (some a)) "Read").run Tryz.prog w = .ok (some false) w := by kernel_rfl
theorem meth123 (a : Addr) (w : World) : (method 315 62 (.pointer (some a)) "Read").run Tryz.prog w = .ok (123, .pointer (some a)) w := by kernel_rfl

theorem inv123 (ad : Addr) (vy : Value) (w : World) : (invoke (Target.fn (Fn.method "Read") #[]) #[Value.iface 62 (.pointer (some ad)), vy]).run Tryz.prog w = .ok (.enter 123 #[.pointer (some ad), vy]) w := by kernel_rfl
/-- The reader's call, as one step of a region that draws. -/
theorem step_read {ops : Array Oper} {o : Oper} {a : Act} {w : World} {K : Act → World → Prop} {Q : Exit → Act → World → Prop} {F : Prop} (hg : o.guard = none) (x y : Operand) (T : TypeId) (hop : o.op = Op.call { callee := Callee.invoke x "Read", args := #[y], argTypes := #[T] })
    (ad : Addr) (vy : Value) (hx : a.eval x = .iface 62 (.pointer (some ad))) (hy : a.eval y = vy) (post : Ending → World → Prop) (hC : Calls Tryz.prog 123 #[.pointer (some ad), vy] w post) (hK : ∀ e w', post e w' → ∃ v, e = .returned v ∧ K (a.put o.dst v) w') :
    if Region.wanted o (yielded ops a.tmps) = true then Oper.wp Tryz.prog o a w K Q else F := by
  have hw : Region.wanted o (yielded ops a.tmps) = true := by simp [Region.wanted, hg]
  rw [if_pos hw]
  unfold Oper.wp
  have e : (execOp a.eval o).run Tryz.prog w = .ok (.enter 123 #[.pointer (some ad), vy]) w := by
    simp [execOp, hop, resolve, hx, hy, Result.andThen]
    exact inv123 ad vy w
  rw [e, Oper.upon_enter]
  refine hC.mono fun e w' hp => ?_
  obtain ⟨v, rfl, hk⟩ := hK e w' hp
  exact hk

/-- What a read leaves. -/
theorem Scn.read {B : Nat} {w V : World} {sc rd : Nat} {T : ByteArray} {p r st en n g : Nat} {tok : Value} {emp : Int} {cl : Bool} {F : Nat → Value} (h : Scn B w sc rd T p r st en tok (.slice (some ⟨g, 0, none⟩) 4096 4096) emp cl)
    (hB : B ≤ g) (hen : en = st + (r - p)) (hF : ∀ i, i < r - p → F (st + i) = bi T (p + i)) (k : Kept [rd, g] w V) (hrd : RdIs V rd T (r + n)) (hrow : V.rowIs g 5 4096 (fun i => if i < en then F i else if i < en + n then bi T (r + (i - en)) else F i)) (hn : r + n ≤ T.size) (hfit : en + n ≤ 4096) :
    Scn B ((V.setCell ⟨sc, 6, none⟩ (.int .i64 ((en + n : Nat) : Int))).setCell ⟨sc, 8, none⟩ (.int .i64 0)) sc rd T p (r + n) st (en + n) tok (.slice (some ⟨g, 0, none⟩) 4096 4096) 0 cl := by
  have hne := h.ne
  have hgs := h.buf_ne rfl
  have h1 : V.heap[sc]? = some (.cells (scC rd tok (.slice (some ⟨g, 0, none⟩) 4096 4096) st en emp cl) 84 (0, 0)) := (k.block sc (Array.getElem?_eq_some_iff.1 h.scs).1 (by simp; exact ⟨hne, fun e => hgs.1 e.symm⟩)).trans h.scs
  have h2 := heap_set (heap_set h1 6 (.int .i64 ((en + n : Nat) : Int))) 8 (.int .i64 0)
  have hk : Kept [sc] V ((V.setCell ⟨sc, 6, none⟩ (.int .i64 ((en + n : Nat) : Int))).setCell ⟨sc, 8, none⟩ (.int .i64 0)) := ((Kept.refl _ _).setCell (by simp) _).setCell (by simp) _
  obtain ⟨pr, hr⟩ := hrd
  refine ⟨h2, ⟨pr, (hk.block rd (Array.getElem?_eq_some_iff.1 hr).1 (by simpa using hne.symm)).trans hr⟩, h.bsc, h.brd, by have := h.le; omega, hn, h.tT, .inr ⟨g, _, rfl, hB, hk.row hrow (by simpa using hgs.1), by have := h.le; omega, hfit, fun i hi => ?_⟩⟩
  have := h.le
  by_cases q : i < r - p
  · rw [if_pos (by omega)]
    exact hF i q
  · rw [if_neg (by omega), if_pos (by omega)]
    congr 1
    omega
theorem Scn.fr_read {B : Nat} {w V : World} {sc rd : Nat} {T : ByteArray} {p r st en g : Nat} {tok : Value} {emp : Int} {cl : Bool} (h : Scn B w sc rd T p r st en tok (.slice (some ⟨g, 0, none⟩) 4096 4096) emp cl) (hB : B ≤ g) (k : Kept [rd, g, sc] w V) : Fr B w V := by
  obtain ⟨pr, hr⟩ := h.rds
  refine Fr.of_busy k h.lt.2.2 (fun x hx => ?_)
  simp at hx
  rcases hx with rfl | rfl | rfl
  · exact ⟨h.brd, fun o ho => by rw [hr] at ho; have := (Option.some.inj ho).symm; subst this; exact .inr (.inr rfl)⟩
  · refine ⟨hB, fun o ho => ?_⟩
    rcases h.buf with ⟨e, _⟩ | ⟨g', F, e, _, hrow, _⟩
    · cases e
    · have : x = g' := by simpa using e
      subst this
      obtain ⟨cs, hcs⟩ := row_block hrow
      rw [hcs] at ho
      have := (Option.some.inj ho).symm
      subst this
      exact .inl rfl
  · exact h.busy

theorem EolAt.in_buf {T : ByteArray} {p i r st en n : Nat} (h : EolAt T p i) (hle : p ≤ r) (hen : en = st + (r - p)) (hst : st ≤ 2048) (hri : r ≤ i) (hn : n = Nat.min (T.size - r) (4096 - en)) : i < r + n := by
  have h1 := h.lt
  have h2 := h.near
  have h3 := h.le
  rcases Nat.le_total (T.size - r) (4096 - en) with h4 | h4
  · have h5 : n = T.size - r := hn.trans (Nat.min_eq_left h4)
    omega
  · have h5 : n = 4096 - en := hn.trans (Nat.min_eq_right h4)
    omega
theorem advance97z (w : World) (sc rd st en : Nat) (tok bufv : Value) (emp : Int) (cl : Bool) (h : ScIs w sc rd tok bufv st en emp cl) (hn : st ≤ en) (hen : en ≤ 100000) :
    Calls Tryz.prog 97 #[.pointer (some ⟨sc, 0, none⟩), .int .i64 0] w fun e w' => e = .returned (.bool true) ∧ ScIs w' sc rd tok bufv st en emp cl ∧ Kept [sc] w w' := by
  have := advance97 w sc rd st en 0 tok bufv emp cl h (by omega) hen
  simpa using this
/-- A copy of which the run is known, as one step of a region that draws. -/
theorem step_copy {ops : Array Oper} {o : Oper} {a : Act} {w : World} {K : Act → World → Prop} {Q : Exit → Act → World → Prop} {F : Prop} (T : TypeId)
    (hg : o.guard = none) (s x : Operand) (hop : o.op = Op.call { callee := Callee.builtin Builtin.copy, args := #[s, x], argTypes := #[T, T] }) (vs vx : Value) (hs : a.eval s = vs) (hx : a.eval x = vx) (v' : Value) (w' : World)
    (hr : (Builtin.copy_ #[T, T] o.type #[vs, vx]).run Tryz.prog w = .ok v' w') (hK : K (a.put o.dst v') w') :
    if Region.wanted o (yielded ops a.tmps) = true then Oper.wp Tryz.prog o a w K Q else F := by
  have hw : Region.wanted o (yielded ops a.tmps) = true := by simp [Region.wanted, hg]
  rw [if_pos hw]
  unfold Oper.wp
  simp [execOp, hop, resolve, invoke, builtin, hs, hx, hr, Result.andThen]
  exact hK
/-- The unread bytes moved to the buffer's head. -/
theorem Scn.shift {B : Nat} {w V : World} {sc rd : Nat} {T : ByteArray} {p r st en g : Nat} {tok : Value} {emp : Int} {cl : Bool} {FX : Nat → Value} (h : Scn B w sc rd T p r st en tok (.slice (some ⟨g, 0, none⟩) 4096 4096) emp cl) (hB : B ≤ g)
    (k : Kept [sc, g] w V) (hsc : ScIs V sc rd tok (.slice (some ⟨g, 0, none⟩) 4096 4096) 0 (r - p) emp cl) (hrow : V.rowIs g 5 4096 FX) (hF : ∀ i, i < r - p → FX i = bi T (p + i)) (hfit : r - p ≤ 4096) :
    Scn B V sc rd T p r 0 (r - p) tok (.slice (some ⟨g, 0, none⟩) 4096 4096) emp cl := by
  have hgs := h.buf_ne rfl
  obtain ⟨pr, hr⟩ := h.rds
  exact ⟨hsc, ⟨pr, (k.block rd (Array.getElem?_eq_some_iff.1 hr).1 (by simp; exact ⟨h.ne.symm, fun e => hgs.2.1 e.symm⟩)).trans hr⟩, h.bsc, h.brd, h.le, h.rT, h.tT, .inr ⟨g, FX, rfl, hB, hrow, by omega, hfit, fun i hi => by rw [Nat.zero_add]; exact hF i hi⟩⟩
end Go.Proofs.YtoaedibfgegilaaGreatDoor.st
