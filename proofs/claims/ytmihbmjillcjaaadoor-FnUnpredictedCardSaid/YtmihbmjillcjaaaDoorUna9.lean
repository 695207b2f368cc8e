/-
  impl.Unpredicted's closure: a copy of the data is handed to the package.
-/
import Derived.Test.YtmihbmjillcjaaaDoorRwk
import Derived.Deep.RegionLaw
namespace Go.Proofs.YtmihbmjillcjaaaDoor.up
set_option linter.unusedVariables false
set_option linter.unusedSimpArgs false
open Go.RowKit

/-- What a call of the package is told, as it belongs together. -/
structure Env (p : Int) (colors : Nat) (bits : Int) (columns size bpp h : Nat) (z : Nat → Int) (N K : Nat) : Prop where
  CF : Cfg p colors columns size bpp h
  hp : p ∈ [(2 : Int), 10, 11, 12, 13, 14, 15]
  hbits : bits ∈ [(1 : Int), 2, 4, 8, 16]
  hsz : (bits * colors * columns + 7) / 8 = (size : Int)
  hbpp : (bits * colors + 7) / 8 = (bpp : Int)
  hz : Bytes z
  htag : ∀ r, r < K → TagH h (tg z h size r)
  hN : N = K * (size + h)
  hN2 : N ≤ 100000

/-- A slice that reads as the first N of z. -/
def DataV (w : World) (v : Value) (N : Nat) (z : Nat → Int) : Prop :=
  (v = .slice none 0 0 ∧ N = 0) ∨ ∃ (a : Addr) (C : Nat), v = .slice (some a) N C ∧ N ≤ C ∧ C ≤ maxLen ∧ a.block < w.heap.size ∧ ∀ i, i < N → w.cell? (a.add i) = some (.int .u8 (z i))
theorem DataV.kept {w w' : World} {v : Value} {N : Nat} {z : Nat → Int} {L : List Nat} (h : DataV w v N z) (k : Kept L w w') (hL : ∀ x ∈ L, w.heap.size ≤ x) : DataV w' v N z := by
  rcases h with h | ⟨a, C, h1, h2, h3, h4, h5⟩
  · exact .inl h
  · refine .inr ⟨a, C, h1, h2, h3, Nat.lt_of_lt_of_le h4 k.size, fun i hi => k.cell (h5 i hi) (fun e => ?_)⟩
    have := hL _ e
    rw [Lib.block_add] at this
    omega

/-- 'append([]byte{}, data...)'. -/
theorem append_copy (w : World) (k : Nat) (v : Value) (N : Nat) (z : Nat → Int) (h : DataV w v N z) (hN : N ≤ 100000) (hk : w.heap[k]? = some (.cells #[] 5 (0, 0))) (ty : TypeId) :
    ∃ (g C : Nat) (w' : World), (Builtin.append_ #[22, 22] ty #[.slice (some ⟨k, 0, none⟩) 0 0, v]).run Tryd.prog w = .ok (.slice (some ⟨g, 0, none⟩) N C) w' ∧ w'.ownsRow k 5 1 (.slice (some ⟨g, 0, none⟩) N C) N (bs8 N z) ∧ Kept [k] w w' := by
  obtain ⟨i5, hi5, hz5, hsz5, hby5⟩ := info_parts info5f
  have hown : w.ownsRow k 5 1 (.slice (some ⟨k, 0, none⟩) 0 0) 0 [] := ⟨rfl, .inr ⟨k, 0, #[], rfl, Nat.le_refl _, hk, Nat.le_refl _, by unfold maxLen; omega, rfl, rfl⟩⟩
  rcases h with ⟨rfl, rfl⟩ | ⟨a, C, rfl, hC, hm, hb, hcells⟩
  · exact ⟨k, 0, w, run_append_owned_none (P := Tryd.prog) (w := w) k 22 ty 5 i5 1 Tryd.underlying22 hi5 _ 0 [] hown, hown, Kept.refl _ _⟩
  · have hks : k < w.heap.size := (Array.getElem?_eq_some_iff.1 hk).1
    obtain ⟨v', w', hr, ho, hg, hnil⟩ := run_append_own (P := Tryd.prog) (w := w) k 22 ty 5 i5 (.int .u8 0) 1 1 Tryd.underlying22 hi5 hz5 hsz5 hby5 rfl (by decide) _ 0 [] hown a N C (bs8 N z) (by rw [bs8_length]; omega)
      (fun j u hj => by obtain ⟨hj2, rfl⟩ := bs8_inv hj; exact hcells j hj2) bs8_one (by unfold maxLen; omega) (by omega) (Nat.le_of_lt hks)
    rw [Nat.zero_add, List.nil_append] at ho
    rcases ho.2 with ⟨e, _⟩ | ⟨g, cap, cur, e, r⟩
    · have := (hnil.1 e).1
      cases this
    · subst e
      exact ⟨g, cap, w', hr, ho, Kept.of_grown hg (by simp)⟩

/-- An append of which the run is known, as one step of a region that draws. -/
theorem step_append_run {ops : Array Oper} {o : Oper} {a : Act} {w : World} {K : Act → World → Prop} {Q : Exit → Act → World → Prop} {F : Prop}
    (hg : o.guard = none) (s x : Operand) (hop : o.op = Op.call { callee := Callee.builtin Builtin.append, args := #[s, x], argTypes := #[22, 22] }) (vs vx : Value) (hs : a.eval s = vs) (hx : a.eval x = vx) (v' : Value) (w' : World)
    (hr : (Builtin.append_ #[22, 22] o.type #[vs, vx]).run Tryd.prog w = .ok v' w') (hK : K (a.put o.dst v') w') :
    if Region.wanted o (yielded ops a.tmps) = true then Oper.wp Tryd.prog o a w K Q else F := by
  have hw : Region.wanted o (yielded ops a.tmps) = true := by simp [Region.wanted, hg]
  rw [if_pos hw]
  unfold Oper.wp
  simp [execOp, hop, resolve, invoke, builtin, hs, hx, hr, Result.andThen]
  exact hK

theorem own_cells {w : World} {B g N C : Nat} {z : Nat → Int} (h : w.ownsRow B 5 1 (.slice (some ⟨g, 0, none⟩) N C) N (bs8 N z)) : (∀ i, i < N → w.cell? ⟨g, i, none⟩ = some (.int .u8 (z i))) ∧ g < w.heap.size ∧ B ≤ g ∧ N ≤ C := by
  have h2 := fun j u hj => h.cells (g := g) rfl j u hj
  rcases h.2 with ⟨e, _⟩ | ⟨g', cap, cur, e, hB, hc, hn, r⟩
  · cases e
  · cases e
    refine ⟨fun i hi => ?_, (Array.getElem?_eq_some_iff.1 hc).1, hB, hn⟩
    have := h2 i _ (bs8_get hi)
    rwa [addr_add, Nat.zero_add] at this

set_option maxHeartbeats 4000000 in
set_option maxRecDepth 100000 in
theorem clos9 (p : Int) (colors : Nat) (bits : Int) (columns size bpp h : Nat) (z : Nat → Int) (N K : Nat) (E : Env p colors bits columns size bpp h z N K) (m0 d0 mb : Nat) (v : Value) (ea eu : Addr) (w : World) (hm : w.cell? ⟨m0, 0, none⟩ = some (.map (some mb))) (hd : w.cell? ⟨d0, 0, none⟩ = some v) (hD : DataV w v N z)
    (hM : Parms w mb p colors bits columns) (hE : w.cell? ⟨0, 0, none⟩ = some (.iface 86 (.pointer (some ea)))) (hU : w.cell? ⟨2, 0, none⟩ = some (.iface 86 (.pointer (some eu)))) (hPa : Ptr w ea) (hPu : Ptr w eu) :
    Calls Tryd.prog 9 #[.pointer (some ⟨m0, 0, none⟩), .pointer (some ⟨d0, 0, none⟩)] w fun e w' =>
      ∃ b : Nat, e = .returned (.tuple #[.iface 67 (.pointer (some ⟨b, 0, none⟩)), .nilIface]) ∧ Hid (w.heap.size ≤ b ∧ Lib.IsBuffer 82 5 b b (outV z h size bpp K) w' ∧ Below w.heap.size w w') := by
  obtain ⟨s0, hs0⟩ : ∃ s0, w.heap.size = s0 := ⟨_, rfl⟩
  obtain ⟨W0, hW0⟩ : ∃ W0, (w.alloc (.cells #[] 5)).drew = W0 := ⟨_, rfl⟩
  have k0 : Kept [] w W0 := by rw [← hW0]; exact ((Kept.refl _ _).alloc _).drew
  have hk : W0.heap[s0]? = some (.cells #[] 5 (0, 0)) := by rw [← hW0, ← hs0]; exact heap_alloc_new w _
  obtain ⟨g, C, w1, hrun, hown, hk1⟩ := append_copy W0 s0 v N z (hD.kept k0 (by simp)) E.hN2 hk 22
  obtain ⟨hc, hg, hsg, hNC⟩ := own_cells hown
  have kw : Kept [s0] w w1 := (k0.mono (by simp)).trans hk1
  have hlt : ∀ {k : Nat} {x : Value}, w.cell? ⟨k, 0, none⟩ = some x → k ≠ s0 := fun h => by have := World.block_lt_of_cell? _ _ h; simp at this; omega
  have hz := Lib.hid (zz10 p colors columns size bpp h E.CF bits E.hp E.hbits E.hsz E.hbpp z E.hz K E.htag g N C E.hN E.hN2 hNC mb ea eu w1 hc hg (hM.kept (kw.block mb hM.lt (by have := hM.lt; simp; omega)))
    (kw.cell hE (by have := hlt hE; simpa using this)) (kw.cell hU (by have := hlt hU; simpa using this)) (hPa.kept kw (by have := hPa.lt; simp; omega)) (hPu.kept kw (by have := hPu.lt; simp; omega)))
  have hm0 := k0.cell hm (by simp)
  have hd0 := k0.cell hd (by simp)
  have hm1 := kw.cell hm (by have := hlt hm; simpa using this)
  have HS0 := Lib.hid hs0
  have HKW := Lib.hid kw
  clear hD hM hE hU hPa hPu k0 hk hown hk1 hc hg hsg hNC kw hlt E
  go_enter Tryd.func9, Tryd.ntmps9
  go_wp2_with fail
  go_region_law (first | (refine step_append_run rfl (.tmp 5) (.tmp 6) rfl (.slice (some ⟨s0, 0, none⟩) 0 0) v (by simp [Act.eval, Act.put]) (by simp [Act.eval, Act.put]) _ _ hrun ?_) | (go_simp; (go_at_call 10); refine hz.out.mono ?_; rintro e w2 ⟨b, rfl, hb⟩))
  all_goals
    go_wp2_with fail
    go_ret2
    obtain ⟨h1, h2, h3⟩ := hb.out
    have hsz := HKW.out.size
    rw [HS0.out] at hsz
    refine ⟨b, rfl, Lib.hid ⟨by rw [HS0.out]; omega, h2, ?_⟩⟩
    rw [HS0.out]
    exact (HKW.out.below (B := s0) (by rw [HS0.out]; exact Nat.le_refl _) (by simp)).trans (h3.mono hsz)
end Go.Proofs.YtmihbmjillcjaaaDoor.up
