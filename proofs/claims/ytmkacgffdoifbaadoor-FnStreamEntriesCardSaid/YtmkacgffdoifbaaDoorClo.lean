/-
  impl.calm; the closure of impl.StreamEntries.
-/
import Derived.Test.YtmkacgffdoifbaaDoorEnt
import Derived.Defers
import Derived.Recover
namespace Go.Proofs.YtmkacgffdoifbaaDoor.se
open Go.RowKit Go.MapKept Go.ChangeMaps
set_option linter.unusedVariables false
set_option linter.unusedSimpArgs false

theorem info5f' : (Tryd.prog.info? 5).map (fun i => (i.zero, i.size, i.bytes)) = some (some (.int .u8 0), 1, 1) := by kernel_rfl
/-- 'append([]byte{}, data...)'. -/
theorem append_copy (w : World) (k B : Nat) (v : Value) (l : List Nat) (h : w.ownsRow B 5 1 v l.length (bv l)) (hN : l.length ≤ 1000000) (hk : w.heap[k]? = some (.cells #[] 5 (0, 0))) (ty : TypeId) :
    ∃ (a : Option Addr) (n C : Nat) (w' : World), (Builtin.append_ #[27, 27] ty #[.slice (some ⟨k, 0, none⟩) 0 0, v]).run Tryd.prog w = .ok (.slice a n C) w' ∧ Kept [k] w w' ∧ BytesL w' (.slice a n C) l := by
  obtain ⟨i5, hi5, hz5, hsz5, hby5⟩ := info_parts info5f'
  have hks : k < w.heap.size := (Array.getElem?_eq_some_iff.1 hk).1
  have hown : w.ownsRow k 5 1 (.slice (some ⟨k, 0, none⟩) 0 0) 0 [] := ⟨rfl, .inr ⟨k, 0, #[], rfl, Nat.le_refl _, hk, Nat.le_refl _, by unfold maxLen; omega, rfl, rfl⟩⟩
  have hcl := fun g hg => h.cells (g := g) hg
  rcases h.2 with ⟨rfl, h0⟩ | ⟨g, C, cur, rfl, hB, hc, hlC, hCm, r⟩
  · have hl : l = [] := List.length_eq_zero_iff.1 h0
    subst hl
    exact ⟨_, _, _, w, run_append_owned_none (P := Tryd.prog) (w := w) k 27 ty 5 i5 1 Tryd.underlying27 hi5 _ 0 [] hown, Kept.refl _ _, ⟨_, _, rfl, fun h => by simp at h⟩⟩
  · obtain ⟨v', w', hr, ho, hg, hnil⟩ := run_append_own (P := Tryd.prog) (w := w) k 27 ty 5 i5 (.int .u8 0) 1 1 Tryd.underlying27 hi5 hz5 hsz5 hby5 rfl (by decide) _ 0 [] hown ⟨g, 0, none⟩ l.length C (bv l) (by simp [bv])
      (hcl g rfl) (fun u hu => by
        simp [bv] at hu
        obtain ⟨i, _, rfl⟩ := hu
        rfl) (by unfold maxLen; omega) (by omega) (Nat.le_of_lt hks)
    rw [Nat.zero_add, List.nil_append] at ho
    have hcl2 := fun g hg => ho.cells (g := g) hg
    rcases ho.2 with ⟨e, e2⟩ | ⟨g', cap, cur, e, hB, hc2, hn2, hm2, r⟩
    · subst e
      exact ⟨_, _, _, w', hr, Kept.of_grown hg (by simp), ⟨_, _, by rw [e2], fun h => by omega⟩⟩
    · subst e
      exact ⟨_, _, _, w', hr, Kept.of_grown hg (by simp), ⟨_, _, rfl, fun _ => ⟨g', rfl, hn2, hm2, fun i hi => by
        have := hcl2 g' rfl i (.int .u8 ((l.getD i 0 : Nat) : Int)) (by simp [bv, List.getD_eq_getElem?_getD, hi])
        rwa [addr_add, Nat.zero_add] at this⟩⟩⟩

theorem catch_idle (p : Addr) (w : World) :
    CallsD Tryd.prog 15 #[.pointer (some p)] .returning w fun e u' w' => e = .returned (.tuple #[]) ∧ u' = .returning ∧ w' = w := by
  refine callsD_of_wpS Tryd.func15 rfl fun c₀ cs hu => ?_
  apply wpS_seq
  apply wpS_region
  simp [wpOpsS, go_sem, recoverD, hu, Tryd.ntmps15, Exit.thenS]
  refine wpS_cond (t := false) (by simp [Act.eval, Array.replicate]) ?_
  simp only [Bool.false_eq_true, if_false]
  refine wpS_of_wp (wp_skip ?_)
  cases c₀
  simp_all [bodyPostS, results, Tryd.results15]

theorem calm_ok (cap : Array Value) (w : World) (Q : World → Prop)
    (H : Hid (Calls Tryd.prog 10 cap (w.alloc (.cells #[.bool false] 4)) fun e W' => e = .returned (.tuple #[]) ∧ W'.cell? ⟨w.heap.size, 0, none⟩ = some (.bool false) ∧ W'.frozen? ⟨w.heap.size, 0, none⟩ = false ∧ Q W')) :
    Calls Tryd.prog 9 #[.func (.func 10) #[] cap] w fun e w' => e = .returned (.bool true) ∧ ∃ W', Q W' ∧ w' = W'.setCell ⟨w.heap.size, 0, none⟩ (.bool true) := by
  have hmf : ∀ (fn : Fn) (first cap : Array Value) (w : World), (Instr.makeFunc fn first cap).run Tryd.prog w = .ok (.func fn first cap) w := fun _ _ _ _ => rfl
  go_enter_defers Tryd.func9, Tryd.ntmps9
  go_wp2_with (go_at_call 10; refine H.out.mono ?_; rintro e W1 ⟨rfl, hc, hz, hq⟩)
  refine leaves_cons (f := 15) (args := #[.pointer (some ⟨w.heap.size, 0, none⟩)]) (by simp) (by simp [go_sem]) ?_
  refine (catch_idle ⟨w.heap.size, 0, none⟩ _).mono ?_
  rintro e u' w'' ⟨rfl, rfl, rfl⟩
  simp [Leaves, settle, results, Tryd.results9, go_sem, hc]
  exact ⟨W1, hq, rfl⟩

/-- An append of which the run is known, as one step of a region that draws. -/
theorem step_append_run {ops : Array Oper} {o : Oper} {a : Act} {w : World} {K : Act → World → Prop} {Q : Exit → Act → World → Prop} {F : Prop} (T : TypeId)
    (hg : o.guard = none) (s x : Operand) (hop : o.op = Op.call { callee := Callee.builtin Builtin.append, args := #[s, x], argTypes := #[T, T] }) (vs vx : Value) (hs : a.eval s = vs) (hx : a.eval x = vx) (v' : Value) (w' : World)
    (hr : (Builtin.append_ #[T, T] o.type #[vs, vx]).run Tryd.prog w = .ok v' w') (hK : K (a.put o.dst v') w') :
    if Region.wanted o (yielded ops a.tmps) = true then Oper.wp Tryd.prog o a w K Q else F := by
  have hw : Region.wanted o (yielded ops a.tmps) = true := by simp [Region.wanted, hg]
  rw [if_pos hw]
  unfold Oper.wp
  simp [execOp, hop, resolve, invoke, builtin, hs, hx, hr, Result.andThen]
  exact hK

theorem zz11 (v : Value) (xsd ctx xt rc m s : Nat) (objs : Value) (w0 w1 w2 : Nat) (f : Nat → Ent) (n : Nat) (w : World) (hn : n ≤ 500) (h0 : w0 ≤ 2) (h1 : 1 ≤ w1) (h1' : w1 ≤ 6) (h2 : w2 ≤ 3)
    (hH : Handed w xsd ctx xt rc m s objs w0 w1 w2 f n) (hb : BytesL w v (dataB w0 w1 w2 f n)) (hF : ∀ i, i < n → Fits (f i) w0 w1 w2) (hR : ∀ i j, i < j → j < n → (f i).num < (f j).num) (hms : m ≠ s) (hM : NoCells w [m, s]) (hE : ESt w w m s f 0) :
    Calls Tryd.prog 11 #[v, .int .i64 0, .pointer (some ⟨xsd, 0, none⟩), .pointer (some ⟨ctx, 0, none⟩), .int .i64 0] w fun e w' => e = .returned .nilIface ∧ ESt w w' m s f n := by
  have H := Lib.hid (extract16 v xsd ctx xt rc m s objs w0 w1 w2 f n w hn h0 h1 h1' h2 hH hb hF hR hms hM hE)
  clear hH hb hF hR hM hE hn h0 h1 h1' h2
  go_enter Tryd.func11, Tryd.ntmps11
  go_wp2_with (go_at_call 16; refine H.out.mono ?_; rintro e W1 ⟨rfl, hE⟩; refine Hid.out ?_)
  refine Lib.hid ?_
  have HE := Lib.hid hE
  clear hE
  go_wp2_with fail
  go_ret
  exact ⟨rfl, HE.out⟩

theorem TabM.kept_err {V V' : World} {m er : Nat} {f : Nat → Ent} {n : Nat} (h : TabM V m f n) (hr : V.heap[er]? = some (.cells #[.nilIface] 67 (0, 0))) (k : Kept [er] V V') : TabM V' m f n := by
  obtain ⟨b, hb, he⟩ := h.ex
  have hm : m ≠ er := fun e => by
    rw [e, hr] at hb
    cases hb
  have hc := cellsOf hr 0
  refine ⟨b, (k.block m (Array.getElem?_eq_some_iff.1 hb).1 (by simpa using hm)).trans hb, fun i hi => ?_⟩
  obtain ⟨q, r, h1, h2, h3⟩ := he i hi
  have n1 : b i ≠ er := fun e => by
    rw [e, hr] at h1
    simp at h1
  have n2 : q ≠ er := fun e => by
    rw [e, hc] at h2
    cases h2
  have n3 : r ≠ er := fun e => by
    rw [e, hc] at h3
    cases h3
  exact ⟨q, r, (k.block _ (Array.getElem?_eq_some_iff.1 h1).1 (by simpa using n1)).trans h1, k.cell h2 (by simpa using n2), k.cell h3 (by simpa using n3)⟩

/-- What the closure is handed. -/
structure Room (w : World) (db eb xv cv er B : Nat) (v : Value) (xsd ctx xt rc m s : Nat) (objs : Value) (w0 w1 w2 : Nat) (f : Nat → Ent) (n : Nat) : Prop where
  d : w.cell? ⟨db, 0, none⟩ = some v
  own : w.ownsRow B 5 1 v (dataB w0 w1 w2 f n).length (bv (dataB w0 w1 w2 f n))
  e : w.cell? ⟨eb, 0, none⟩ = some (.int .i64 0)
  x : w.cell? ⟨xv, 0, none⟩ = some (.pointer (some ⟨xsd, 0, none⟩))
  c : w.cell? ⟨cv, 0, none⟩ = some (.pointer (some ⟨ctx, 0, none⟩))
  r : w.heap[er]? = some (.cells #[.nilIface] 67 (0, 0))
  hand : Handed w xsd ctx xt rc m s objs w0 w1 w2 f n
  tab : TabM w m f 0
  set : SetM w s []
  ms : m ≠ s
structure CloIs (w w' : World) (m s er : Nat) (f : Nat → Ent) (n : Nat) : Prop where
  tab : TabM w' m f n
  set : SetM w' s (streams f n)
  kept : Kept [m, s, er] w w'
  err : w'.cell? ⟨er, 0, none⟩ = some .nilIface
theorem Room.no {w : World} {db eb xv cv er B : Nat} {v : Value} {xsd ctx xt rc m s : Nat} {objs : Value} {w0 w1 w2 : Nat} {f : Nat → Ent} {n : Nat} (h : Room w db eb xv cv er B v xsd ctx xt rc m s objs w0 w1 w2 f n) : NoCells w [m, s] := by
  obtain ⟨b, hm, _⟩ := h.tab.ex
  obtain ⟨es, c, hs, _⟩ := h.set.ex
  intro x hx c t z e
  simp at hx
  rcases hx with rfl | rfl
  · rw [hm] at e
    cases e
  · rw [hs] at e
    cases e
theorem NoCells.kept {w w' : World} {m s : Nat} (h : NoCells w [m, s]) (k : Kept [] w w') (hm : m < w.heap.size) (hs : s < w.heap.size) : NoCells w' [m, s] := by
  intro x hx c t z e
  have hx' := hx
  simp at hx'
  have hl : x < w.heap.size := by rcases hx' with rfl | rfl <;> assumption
  rw [k.block x hl (by simp)] at e
  exact h x hx c t z e

set_option maxHeartbeats 8000000 in
set_option maxRecDepth 100000 in
theorem clos10 (db eb xv cv er B : Nat) (v : Value) (xsd ctx xt rc m s : Nat) (objs : Value) (w0 w1 w2 : Nat) (f : Nat → Ent) (n : Nat) (w : World) (hn : n ≤ 500) (h0 : w0 ≤ 2) (h1 : 1 ≤ w1) (h1' : w1 ≤ 6) (h2 : w2 ≤ 3)
    (h : Room w db eb xv cv er B v xsd ctx xt rc m s objs w0 w1 w2 f n) (hF : ∀ i, i < n → Fits (f i) w0 w1 w2) (hR : ∀ i j, i < j → j < n → (f i).num < (f j).num) :
    Calls Tryd.prog 10 #[.pointer (some ⟨db, 0, none⟩), .pointer (some ⟨eb, 0, none⟩), .pointer (some ⟨xv, 0, none⟩), .pointer (some ⟨cv, 0, none⟩), .pointer (some ⟨er, 0, none⟩)] w fun e w' => e = .returned (.tuple #[]) ∧ CloIs w w' m s er f n := by
  have hlen : (dataB w0 w1 w2 f n).length ≤ 1000000 := by
    rw [dataB_length]
    have : n * (w0 + w1 + w2) ≤ 500 * 11 := Nat.mul_le_mul hn (by omega)
    omega
  have hml : m < w.heap.size := by
    obtain ⟨b, hm, _⟩ := h.tab.ex
    exact (Array.getElem?_eq_some_iff.1 hm).1
  have hsl : s < w.heap.size := by
    obtain ⟨es, c, hs, _⟩ := h.set.ex
    exact (Array.getElem?_eq_some_iff.1 hs).1
  have herl : er < w.heap.size := (Array.getElem?_eq_some_iff.1 h.r).1
  have hem : er ≠ m := fun e => h.no m (by simp) _ _ _ (e ▸ h.r)
  have hes : er ≠ s := fun e => h.no s (by simp) _ _ _ (e ▸ h.r)
  obtain ⟨D0, hD0⟩ : ∃ D0, (w.alloc (.cells #[] 5)).drew = D0 := ⟨_, rfl⟩
  have k0 : Kept [] w D0 := by rw [← hD0]; exact ((Kept.refl _ _).alloc _).drew
  have hb0 : D0.heap[w.heap.size]? = some (.cells #[] 5 (0, 0)) := by rw [← hD0]; exact heap_alloc_new w _
  obtain ⟨a, N, C, D, hrun, hkD, hby⟩ := append_copy D0 w.heap.size B v _ (own_kept h.own k0 (by simp)) hlen hb0 27
  have kD : Kept [] w D := ((k0.mono (L' := [w.heap.size]) (by simp)).trans hkD).cut (by simp)
  have H11 := Lib.hid (zz11 (.slice a N C) xsd ctx xt rc m s objs w0 w1 w2 f n D hn h0 h1 h1' h2 (h.hand.kept kD (fun x hx => by simp at hx)) hby hF hR h.ms (h.no.kept kD hml hsl) ⟨h.tab.kept kD (fun x hx => by simp at hx) (by simp), by have := h.set.kept kD (by simp); simpa [streams] using this, Kept.refl _ _⟩)
  obtain ⟨va, vn, vC, hv⟩ : ∃ va vn vC, v = .slice va vn vC := by
    obtain ⟨va, vC, hv⟩ := own_slice h.own
    exact ⟨va, _, vC, hv⟩
  have d0 := h.d
  have e0 := h.e
  have x0 := h.x
  have c0 := h.c
  have kA : Kept [] w (w.alloc (.cells #[] 5)) := (Kept.refl _ _).alloc _
  have d1 := kA.cell d0 (by simp)
  have e1 := kA.cell e0 (by simp)
  have x1 := kA.cell x0 (by simp)
  have c1 := kA.cell c0 (by simp)
  have d2 := kD.cell d0 (by simp)
  have e2 := kD.cell e0 (by simp)
  have x2 := kD.cell x0 (by simp)
  have c2 := kD.cell c0 (by simp)
  have r2 := (kD.block er herl (by simp)).trans h.r
  have HKD := Lib.hid (And.intro kD (And.intro r2 (And.intro hem hes)))
  have HRL := Lib.hid herl
  rw [← hD0] at hrun
  subst hv
  clear h hF hR hlen hml hsl kA hD0 k0 hb0 hkD kD hby r2 hem hes herl hn h0 h1 h1' h2
  go_enter Tryd.func10, Tryd.ntmps10
  go_wp2_with fail
  go_region_law (first
    | (refine step_append_run 27 rfl (.tmp 5) (.tmp 6) rfl (.slice (some ⟨w.heap.size, 0, none⟩) 0 0) (.slice va vn vC) (by simp [Act.eval, Act.put]) (by simp [Act.eval, Act.put]) _ _ hrun ?_)
    | (go_simp; go_at_call 11; refine H11.out.mono ?_; rintro e V ⟨rfl, hE⟩; (have hrV := (hE.kept.block er (Array.getElem?_eq_some_iff.1 HKD.out.2.1).1 (by have := HKD.out.2.2; simp [this.1, this.2])).trans HKD.out.2.1); (have rc0 := cellsOf hrV 0); (have rf0 := frozenOf hrV 0); (have HX := Lib.hid (And.intro hE hrV)); clear hE hrV)
    | fail)
  all_goals
    go_end0
    obtain ⟨hE, hrV⟩ := HX.out
    have kS : Kept [er] V (V.setCell ⟨er, 0, none⟩ .nilIface) := (Kept.refl _ _).setCell (by simp) _
    refine ⟨rfl, ?_, ?_, ?_, ?_⟩
    · exact hE.tab.kept_err hrV kS
    · exact hE.set.kept kS (by simp; exact fun e => HKD.out.2.2.2 e.symm)
    · exact (HKD.out.1.mono (by simp)).trans ((hE.kept.mono (by simp)).trans (kS.mono (by simp)))
    · rw [cellsOf (heap_set hrV 0 _)]
      rfl
end Go.Proofs.YtmkacgffdoifbaaDoor.se
