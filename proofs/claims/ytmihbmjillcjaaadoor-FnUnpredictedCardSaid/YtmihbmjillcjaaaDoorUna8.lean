/-
  impl.calm where the function that it is given returns; impl.all; impl.Unpredicted.
-/
import Derived.Test.YtmihbmjillcjaaaDoorUna9
import Derived.Defers
import Derived.Recover
namespace Go.Proofs.YtmihbmjillcjaaaDoor.up
set_option linter.unusedVariables false
set_option linter.unusedSimpArgs false
open Go.RowKit
open Go.Maps Go.WideMaps

theorem catch_idle (p : Addr) (w : World) :
    CallsD Tryd.prog 22 #[.pointer (some p)] .returning w fun e u' w' => e = .returned (.tuple #[]) ∧ u' = .returning ∧ w' = w := by
  refine callsD_of_wpS Tryd.func22 rfl fun c₀ cs hu => ?_
  apply wpS_seq
  apply wpS_region
  simp [wpOpsS, go_sem, recoverD, hu, Tryd.ntmps22, Exit.thenS]
  refine wpS_cond (t := false) (by simp [Act.eval, Array.replicate]) ?_
  simp only [Bool.false_eq_true, if_false]
  refine wpS_of_wp (wp_skip ?_)
  cases c₀
  simp_all [bodyPostS, results, Tryd.results22]

theorem calm_ok (cap : Array Value) (w : World) (Q : World → Prop)
    (H : Hid (Calls Tryd.prog 15 cap (w.alloc (.cells #[.bool false] 4)) fun e W' => e = .returned (.tuple #[]) ∧ W'.cell? ⟨w.heap.size, 0, none⟩ = some (.bool false) ∧ W'.frozen? ⟨w.heap.size, 0, none⟩ = false ∧ Q W')) :
    Calls Tryd.prog 14 #[.func (.func 15) #[] cap] w fun e w' => e = .returned (.bool true) ∧ ∃ W', Q W' ∧ w' = W'.setCell ⟨w.heap.size, 0, none⟩ (.bool true) := by
  have hmf : ∀ (fn : Fn) (first cap : Array Value) (w : World), (Instr.makeFunc fn first cap).run Tryd.prog w = .ok (.func fn first cap) w := fun _ _ _ _ => rfl
  go_enter_defers Tryd.func14, Tryd.ntmps14
  go_wp2_with (go_at_call 15; refine H.out.mono ?_; rintro e W1 ⟨rfl, hc, hz, hq⟩)
  refine leaves_cons (f := 22) (args := #[.pointer (some ⟨w.heap.size, 0, none⟩)]) (by simp) (by simp [go_sem]) ?_
  refine (catch_idle ⟨w.heap.size, 0, none⟩ _).mono ?_
  rintro e u' w'' ⟨rfl, rfl, rfl⟩
  simp [Leaves, settle, results, Tryd.results14, go_sem, hc]
  exact ⟨W1, hq, rfl⟩

/-- The rows as a function of the place. -/
def outF (z : Nat → Int) (h size bpp K : Nat) : Nat → Int := fun i => (outL z h size bpp K).getD i 0
theorem outV_eq (z : Nat → Int) (h size bpp K : Nat) : outV z h size bpp K = bs8 (K * size) (outF z h size bpp K) := by
  apply List.ext_getElem?
  intro i
  have hl := outL_length z h size bpp K
  rcases Nat.lt_or_ge i (K * size) with h1 | h1
  · rw [bs8_get h1]
    unfold outV outF
    rw [List.getElem?_map, List.getElem?_eq_getElem (by omega), Option.map_some, List.getD_eq_getElem?_getD, List.getElem?_eq_getElem (by omega), Option.getD_some]
  · rw [List.getElem?_eq_none (by rw [outV_length]; omega), List.getElem?_eq_none (by rw [bs8_length]; omega)]

theorem bufRd_of {w : World} {b : Nat} {z : Nat → Int} {N : Nat} (h : Lib.IsBuffer 82 5 b b (bs8 N z) w) (hb : 0 < b) (hN : N ≤ 100000) : ∃ g, BufRd w b g N z 0 ∧ g < w.heap.size ∧ (g = 0 ∨ b ≤ g) := by
  have hlt := h.lt
  obtain ⟨_, v, lr, hc, hown, hne⟩ := h
  rw [bs8_length] at hown
  have h2 := fun g hg j u hj => hown.cells (g := g) hg j u hj
  rcases hown.2 with ⟨rfl, rfl⟩ | ⟨g, cap, cur, rfl, hB, hg, hn, hm, r⟩
  · exact ⟨0, ⟨⟨_, lr, hc, .inl ⟨rfl, rfl⟩⟩, fun i hi => by omega, by omega, Nat.le_refl _, by omega⟩, by omega, .inl rfl⟩
  · refine ⟨g, ⟨⟨_, lr, hc, .inr ⟨cap, rfl, hn, hm⟩⟩, fun i hi => ?_, fun e => hne (by rw [← e]; rfl), Nat.zero_le _, hN⟩, (Array.getElem?_eq_some_iff.1 hg).1, .inr hB⟩
    have := h2 g rfl i _ (bs8_get hi)
    rwa [addr_add, Nat.zero_add] at this

/-- What a call hands back: a slice that reads as the first N of z. -/
def Got (w w' : World) (N : Nat) (z : Nat → Int) (v : Value) : Prop := ∃ f c : Nat, v = .slice (some ⟨f, 0, none⟩) N c ∧ w.heap.size ≤ f ∧ N ≤ c ∧ ∀ i, i < N → w'.cell? ⟨f, i, none⟩ = some (.int .u8 (z i))

set_option maxHeartbeats 4000000 in
set_option maxRecDepth 100000 in
theorem clos15 (p : Int) (colors : Nat) (bits : Int) (columns size bpp h : Nat) (z : Nat → Int) (N K : Nat) (E : Env p colors bits columns size bpp h z N K) (f0 e0 o0 m0 d0 mb : Nat) (v xo xe : Value) (ea eu : Addr) (w : World) (hf : w.cell? ⟨f0, 0, none⟩ = some (.func (.func 9) #[] #[.pointer (some ⟨m0, 0, none⟩), .pointer (some ⟨d0, 0, none⟩)]))
    (he0 : w.cell? ⟨e0, 0, none⟩ = some xe) (ho0 : w.cell? ⟨o0, 0, none⟩ = some xo) (fe0 : w.frozen? ⟨e0, 0, none⟩ = false) (fo0 : w.frozen? ⟨o0, 0, none⟩ = false) (hne : e0 ≠ o0) (hm : w.cell? ⟨m0, 0, none⟩ = some (.map (some mb))) (hd : w.cell? ⟨d0, 0, none⟩ = some v) (hD : DataV w v N z)
    (hM : Parms w mb p colors bits columns) (hE : w.cell? ⟨0, 0, none⟩ = some (.iface 86 (.pointer (some ea)))) (hU : w.cell? ⟨2, 0, none⟩ = some (.iface 86 (.pointer (some eu)))) (hPa : Ptr w ea) (hPu : Ptr w eu) (hz0 : 0 ≠ e0) (hz1 : 0 ≠ o0) :
    Calls Tryd.prog 15 #[.pointer (some ⟨f0, 0, none⟩), .pointer (some ⟨e0, 0, none⟩), .pointer (some ⟨o0, 0, none⟩)] w fun e w' =>
      e = .returned (.tuple #[]) ∧ ∃ x, Hid (Got w w' (K * size) (outF z h size bpp K) x ∧ w'.cell? ⟨o0, 0, none⟩ = some x ∧ w'.cell? ⟨e0, 0, none⟩ = some .nilIface ∧ w'.frozen? ⟨o0, 0, none⟩ = false ∧ Kept [o0, e0] w w') := by
  have h9 := Lib.hid (clos9 p colors bits columns size bpp h z N K E m0 d0 mb v ea eu w hm hd hD hM hE hU hPa hPu)
  have le0 := World.block_lt_of_cell? _ _ he0
  have lo0 := World.block_lt_of_cell? _ _ ho0
  have HLT := Lib.hid (And.intro le0 lo0)
  have hKs : Hid (K * size ≤ 100000) := Lib.hid (Nat.le_trans (Nat.mul_le_mul_left K (Nat.le_add_right size h)) (by rw [← E.hN]; exact E.hN2))
  have HE := Lib.hid hE
  have HO := Lib.hid (And.intro he0 (And.intro ho0 (And.intro fe0 fo0)))
  have hw0 : 0 < w.heap.size := by have := World.block_lt_of_cell? _ _ hE; exact this
  have HW0 := Lib.hid hw0
  clear E hm hd hD hM hE hU hPa hPu he0 ho0 fe0 fo0 le0 lo0 hw0
  go_enter Tryd.func15, Tryd.ntmps15
  go_wp2_with (go_at_call 9; refine h9.out.mono ?_; rintro e w1 ⟨b, rfl, hb⟩; refine Hid.out ?_)
  refine Lib.hid ?_
  obtain ⟨hb1, hb2, hb3⟩ := hb.out
  have c1 : w1.cell? ⟨e0, 0, none⟩ = some xe := (hb3.cell (p := ⟨e0, 0, none⟩) HLT.out.1).trans HO.out.1
  have c2 : w1.frozen? ⟨e0, 0, none⟩ = false := (hb3.frozen (p := ⟨e0, 0, none⟩) HLT.out.1).trans HO.out.2.2.1
  rw [outV_eq] at hb2
  obtain ⟨g, hbr, hg, hgb⟩ := bufRd_of hb2 (by have := HW0.out; omega) hKs.out
  have hs1 := hb3.size
  have hbe : b ≠ e0 ∧ b ≠ o0 ∧ g ≠ e0 ∧ g ≠ o0 ∧ 0 ≠ b := by have := HLT.out; have := HW0.out; omega
  obtain ⟨w2, hw2⟩ : ∃ w2, w1.setCell ⟨e0, 0, none⟩ .nilIface = w2 := ⟨_, rfl⟩
  have k2 : Kept [e0] w1 w2 := by rw [← hw2]; exact (Kept.refl _ _).setCell (by simp) _
  have kw1 : Kept [] w w1 := Kept.of_below hb3 []
  have kw2 : Kept [e0] w w2 := (kw1.mono (by simp)).trans k2
  have d1 : w2.cell? ⟨e0, 0, none⟩ = some .nilIface := by rw [← hw2]; simp [go_sem, c1]
  have d2 : w2.frozen? ⟨e0, 0, none⟩ = false := by rw [← hw2]; simp [go_sem, c2]
  have hra := Lib.hid (readAll16 w2 b g (K * size) (outF z h size bpp K) ea (hbr.kept k2 (by simp; exact hbe.1) (by simp; exact hbe.2.2.1)) (Nat.lt_of_lt_of_le hg k2.size) (kw2.cell HE.out (by simpa using hz0)) hbe.2.2.2.2)
  have HW2 := Lib.hid hw2
  have KW2 := Lib.hid kw2
  have HBE := Lib.hid hbe
  have HD := Lib.hid (And.intro d1 d2)
  have hbn : Hid (w.heap.size ≤ b) := Lib.hid hb1
  clear hb1 hb2 hb3 hbr hg hgb hs1 hbe k2 kw1 kw2 d2 h9 hb
  go_wp2_with (go_at_call 16; refine hra.out.mono ?_; rintro e w3 ⟨f, c, rfl, hx⟩; refine Hid.out ?_)
  refine Lib.hid ?_
  obtain ⟨x1, x2, x3, x4⟩ := hx.out
  have hfe : f ≠ e0 ∧ f ≠ o0 := by have := HLT.out; have := KW2.out.size; omega
  have y1 := x4.cell HD.out.1 (by simp; exact fun e => HBE.out.1 e.symm)
  have kw3 : Kept [b, e0] w w3 := (KW2.out.mono (by simp)).trans (x4.mono (by simp))
  have y2 : w3.frozen? ⟨e0, 0, none⟩ = false := (World.frozen?_of_block (x4.block e0 (Nat.lt_of_lt_of_le HLT.out.1 KW2.out.size) (by simp; exact fun e => HBE.out.1 e.symm))).trans HD.out.2
  have y3 : w3.cell? ⟨o0, 0, none⟩ = some xo := kw3.cell HO.out.2.1 (by simp; exact ⟨fun e => HBE.out.2.1 e.symm, fun e => hne e.symm⟩)
  have y4 : w3.frozen? ⟨o0, 0, none⟩ = false := (World.frozen?_of_block (kw3.block o0 HLT.out.2 (by simp; exact ⟨fun e => HBE.out.2.1 e.symm, fun e => hne e.symm⟩))).trans HO.out.2.2.2
  have HX := Lib.hid (And.intro x1 (And.intro x2 x3))
  have KW3 := Lib.hid kw3
  have HFE := Lib.hid hfe
  clear x1 x2 x3 x4 kw3 hfe hx hra c1 c2 d1 hw2
  go_wp2_with fail
  go_end0
  refine ⟨rfl, .slice (some ⟨f, 0, none⟩) (K * size) c, Lib.hid ⟨⟨f, c, rfl, Nat.le_trans KW2.out.size HX.out.2.1, HX.out.2.2, fun i hi => ?_⟩, ?_, ?_, by simp [go_sem, y4], ?_⟩⟩
  · rw [World.cell?_setCell_other _ _ _ _ (by simp only [ne_eq, Addr.mk.injEq, and_true]; have := HFE.out; omega), World.cell?_setCell_other _ _ _ _ (by simp only [ne_eq, Addr.mk.injEq, and_true]; have := HFE.out; omega)]
    exact HX.out.1 i hi
  · rw [World.cell?_setCell_other _ _ _ _ (by simp only [ne_eq, Addr.mk.injEq, and_true]; omega)]
    simp [go_sem, y3]
  · have : ((w3.setCell ⟨o0, 0, none⟩ (.slice (some ⟨f, 0, none⟩) (K * size) c))).cell? ⟨e0, 0, none⟩ = some .nilIface := by
      rw [World.cell?_setCell_other _ _ _ _ (by simp only [ne_eq, Addr.mk.injEq, and_true]; omega)]
      exact y1
    simp [go_sem, this]
  · refine Kept.cut (L := [b, o0, e0]) ?_ (by simp; exact .inr hbn.out)
    exact ((KW3.out.mono (by simp)).setCell (by simp) _).setCell (by simp) _

set_option maxHeartbeats 4000000 in
set_option maxRecDepth 100000 in
theorem all8 (p : Int) (colors : Nat) (bits : Int) (columns size bpp h : Nat) (z : Nat → Int) (N K : Nat) (E : Env p colors bits columns size bpp h z N K) (m0 d0 mb : Nat) (v : Value) (ea eu : Addr) (w : World) (hm : w.cell? ⟨m0, 0, none⟩ = some (.map (some mb))) (hd : w.cell? ⟨d0, 0, none⟩ = some v) (hD : DataV w v N z)
    (hM : Parms w mb p colors bits columns) (hE : w.cell? ⟨0, 0, none⟩ = some (.iface 86 (.pointer (some ea)))) (hU : w.cell? ⟨2, 0, none⟩ = some (.iface 86 (.pointer (some eu)))) (hPa : Ptr w ea) (hPu : Ptr w eu) :
    Calls Tryd.prog 8 #[.func (.func 9) #[] #[.pointer (some ⟨m0, 0, none⟩), .pointer (some ⟨d0, 0, none⟩)]] w fun e w' =>
      ∃ x, e = .returned (.tuple #[x, .bool true]) ∧ Hid (Got w w' (K * size) (outF z h size bpp K) x ∧ Below w.heap.size w w') := by
  have hmf : ∀ (fn : Fn) (first cap : Array Value) (w : World), (Instr.makeFunc fn first cap).run Tryd.prog w = .ok (.func fn first cap) w := fun _ _ _ _ => rfl
  obtain ⟨s0, hs0⟩ : ∃ s0, w.heap.size = s0 := ⟨_, rfl⟩
  obtain ⟨W, hW⟩ : ∃ W, ((w.alloc (.cells #[.func (.func 9) #[] #[.pointer (some ⟨m0, 0, none⟩), .pointer (some ⟨d0, 0, none⟩)]] 40)).alloc (.cells #[.slice none 0 0] 22)).alloc (.cells #[.nilIface] 37) = W := ⟨_, rfl⟩
  obtain ⟨V, hV⟩ : ∃ V, W.alloc (.cells #[.bool false] 4) = V := ⟨_, rfl⟩
  have hsW : W.heap.size = s0 + 1 + 1 + 1 := by rw [← hW, ← hs0]; simp
  have kV : Kept [] w V := by rw [← hV, ← hW]; exact ((((Kept.refl _ _).alloc _).alloc _).alloc _).alloc _
  have v0 : V.cell? ⟨s0, 0, none⟩ = some (.func (.func 9) #[] #[.pointer (some ⟨m0, 0, none⟩), .pointer (some ⟨d0, 0, none⟩)]) := by rw [← hV, ← hW, ← hs0]; simp [go_sem]
  have v1 : V.cell? ⟨s0 + 1, 0, none⟩ = some (.slice none 0 0) := by rw [← hV, ← hW, ← hs0]; simp [go_sem]
  have v2 : V.cell? ⟨s0 + 1 + 1, 0, none⟩ = some .nilIface := by rw [← hV, ← hW, ← hs0]; simp [go_sem]
  have v3 : V.cell? ⟨s0 + 1 + 1 + 1, 0, none⟩ = some (.bool false) := by rw [← hV, ← hsW]; simp [go_sem]
  have g1 : V.frozen? ⟨s0 + 1, 0, none⟩ = false := by rw [← hV, ← hW, ← hs0]; simp [go_sem]
  have g2 : V.frozen? ⟨s0 + 1 + 1, 0, none⟩ = false := by rw [← hV, ← hW, ← hs0]; simp [go_sem]
  have g3 : V.frozen? ⟨s0 + 1 + 1 + 1, 0, none⟩ = false := by rw [← hV, ← hsW]; simp [go_sem]
  have hlt0 : 0 < s0 := by have := World.block_lt_of_cell? _ _ hE; rw [hs0] at this; exact this
  have h15 := clos15 p colors bits columns size bpp h z N K E s0 (s0 + 1 + 1) (s0 + 1) m0 d0 mb v _ _ ea eu V v0 v2 v1 g2 g1 (by omega) (kV.cell hm (by simp)) (kV.cell hd (by simp)) (hD.kept kV (by simp)) (hM.kept (kV.block mb hM.lt (by simp))) (kV.cell hE (by simp)) (kV.cell hU (by simp)) (hPa.kept kV (by simp)) (hPu.kept kV (by simp)) (by omega) (by omega)
  have hsV : V.heap.size = s0 + 4 := by rw [← hV]; simp [hsW]
  have hcalm := calm_ok #[.pointer (some ⟨s0, 0, none⟩), .pointer (some ⟨s0 + 1 + 1, 0, none⟩), .pointer (some ⟨s0 + 1, 0, none⟩)] W (fun w' => ∃ x, Hid (Got V w' (K * size) (outF z h size bpp K) x ∧ w'.cell? ⟨s0 + 1, 0, none⟩ = some x ∧ w'.cell? ⟨s0 + 1 + 1, 0, none⟩ = some .nilIface ∧ w'.frozen? ⟨s0 + 1, 0, none⟩ = false ∧ Kept [s0 + 1, s0 + 1 + 1] V w'))
    (Lib.hid (by
      rw [hV, hsW]
      refine h15.mono ?_
      rintro e w' ⟨rfl, x, hx⟩
      obtain ⟨x1, x2, x3, xf, x4⟩ := hx.out
      refine ⟨rfl, x4.cell v3 (by simp; omega), ?_, x, hx⟩
      exact (World.frozen?_of_block (x4.block (s0 + 1 + 1 + 1) (by omega) (by simp; omega))).trans g3))
  rw [hsW] at hcalm
  have HC := Lib.hid hcalm
  have KV := Lib.hid kV
  have HG1 := Lib.hid g1
  have HSV := Lib.hid hsV
  have HS0 := Lib.hid hs0
  have HW := Lib.hid hW
  clear hcalm h15 kV v0 v1 v2 v3 g1 g2 g3 hsV hsW hV hm hd hD hM hE hU hPa hPu E hlt0
  go_enter Tryd.func8, Tryd.ntmps8
  go_wp2_with (go_at_call 14; refine HC.out.mono ?_; rintro e w1 ⟨rfl, W1, ⟨x, hx⟩, rfl⟩; refine Hid.out ?_)
  refine Lib.hid ?_
  obtain ⟨x1, x2, x3, xf, x4⟩ := hx.out
  obtain ⟨f, c, rfl, z1, z2, z3⟩ := x1
  have y2 : (W1.setCell ⟨s0 + 1 + 1 + 1, 0, none⟩ (.bool true)).cell? ⟨s0 + 1, 0, none⟩ = some (.slice (some ⟨f, 0, none⟩) (K * size) c) := by
    rw [World.cell?_setCell_other _ _ _ _ (by simp only [ne_eq, Addr.mk.injEq, and_true]; omega)]; exact x2
  have y3 : (W1.setCell ⟨s0 + 1 + 1 + 1, 0, none⟩ (.bool true)).cell? ⟨s0 + 1 + 1, 0, none⟩ = some .nilIface := by
    rw [World.cell?_setCell_other _ _ _ _ (by simp only [ne_eq, Addr.mk.injEq, and_true]; omega)]; exact x3
  have y4 : (W1.setCell ⟨s0 + 1 + 1 + 1, 0, none⟩ (.bool true)).frozen? ⟨s0 + 1, 0, none⟩ = false := by simp [go_sem, xf]
  have HX := Lib.hid (And.intro z1 (And.intro z2 (And.intro z3 x4)))
  clear z1 z2 z3 x2 x3 x4 xf hx hW hs0
  obtain ⟨U, hU⟩ : ∃ U, W1.setCell ⟨s0 + 1 + 1 + 1, 0, none⟩ (.bool true) = U := ⟨_, rfl⟩
  rw [hU] at y2 y3 y4 ⊢
  have HU := Lib.hid hU
  clear hU
  go_wp2_with fail
  obtain ⟨z1, z2, z3, x4⟩ := HX.out
  have hsv := HSV.out
  have hs0 := HS0.out
  refine bodyPost_ret (v := .tuple #[.slice (some ⟨f, 0, none⟩) (K * size) c, .bool true]) (by simp [results, Tryd.results8, go_sem, y2]) rfl ⟨_, rfl, Lib.hid ⟨⟨f, c, rfl, by omega, z2, fun i hi => ?_⟩, ?_⟩⟩
  · rw [World.cell?_setCell_other _ _ _ _ (by simp only [ne_eq, Addr.mk.injEq, and_true]; omega), ← HU.out, World.cell?_setCell_other _ _ _ _ (by simp only [ne_eq, Addr.mk.injEq, and_true]; omega)]
    exact z3 i hi
  · refine Kept.below (L := [s0 + 1, s0 + 1 + 1, s0 + 1 + 1 + 1]) ?_ (Nat.le_refl _) (by rw [hs0]; simp; omega)
    rw [← HU.out]
    exact (((KV.out.mono (by simp)).trans (x4.mono (by simp))).setCell (by simp) _).setCell (by simp) _

/-- Four parameters, in a map of the call's own. -/
theorem parms_made (W : World) (mb : Nat) (p c b n : Int) (h : W.heap[mb]? = some (.map #[] 0)) (hp : (Lit.int .i64 p).wf = true) (hc : (Lit.int .i64 c).wf = true) (hb : (Lit.int .i64 b).wf = true) (hn : (Lit.int .i64 n).wf = true) :
    ∃ w1 w2 w3 w4, (Instr.mapUpdate 32 (.map (some mb)) (.string kPred) (.int .i64 p)).run Tryd.prog W = .ok () w1 ∧ (Instr.mapUpdate 32 (.map (some mb)) (.string kCol) (.int .i64 c)).run Tryd.prog w1 = .ok () w2 ∧
      (Instr.mapUpdate 32 (.map (some mb)) (.string kBits) (.int .i64 b)).run Tryd.prog w2 = .ok () w3 ∧ (Instr.mapUpdate 32 (.map (some mb)) (.string kCols) (.int .i64 n)).run Tryd.prog w3 = .ok () w4 ∧ Parms w4 mb p c b n ∧ Kept [mb] W w4 := by
  have h0 : W.ownsMap (H := Unit) Tryd.prog 9 (plainElem Tryd.prog 3) mb 0 (.map []) := by
    obtain ⟨es, clock, hb, F, hs, hD⟩ := World.ownsMap_made (H := Unit) W Tryd.prog 9 (plainElem Tryd.prog 3)
    rw [heap_alloc_new] at hb
    cases hb
    exact ⟨#[], 0, h, F, hs, hD⟩
  obtain ⟨w1, r1, o1, g1⟩ := h0.update law9 Tryd.underlying32 (by unfold maxLen; omega) (keyOf_string_mk Tryd.underlying9 (s := kPred) (by decide)) (plainElem_int Tryd.underlying3 hp)
  obtain ⟨w2, r2, o2, g2⟩ := o1.update law9 Tryd.underlying32 (by unfold maxLen; omega) (keyOf_string_mk Tryd.underlying9 (s := kCol) (by decide)) (plainElem_int Tryd.underlying3 hc)
  obtain ⟨w3, r3, o3, g3⟩ := o2.update law9 Tryd.underlying32 (by unfold maxLen; omega) (keyOf_string_mk Tryd.underlying9 (s := kBits) (by decide)) (plainElem_int Tryd.underlying3 hb)
  obtain ⟨w4, r4, o4, g4⟩ := o3.update law9 Tryd.underlying32 (by unfold maxLen; omega) (keyOf_string_mk Tryd.underlying9 (s := kCols) (by decide)) (plainElem_int Tryd.underlying3 hn)
  exact ⟨w1, w2, w3, w4, r1, r2, r3, r4, ⟨_, o4⟩, (((Kept.of_grown g1 (by simp)).trans (Kept.of_grown g2 (by simp))).trans (Kept.of_grown g3 (by simp))).trans (Kept.of_grown g4 (by simp))⟩

set_option maxHeartbeats 4000000 in
set_option maxRecDepth 100000 in
theorem unp4 (p : Int) (colors : Nat) (bits : Int) (columns size bpp h : Nat) (z : Nat → Int) (N K : Nat) (E : Env p colors bits columns size bpp h z N K) (v : Value) (ea eu : Addr) (w : World) (hD : DataV w v N z)
    (hE : w.cell? ⟨0, 0, none⟩ = some (.iface 86 (.pointer (some ea)))) (hU : w.cell? ⟨2, 0, none⟩ = some (.iface 86 (.pointer (some eu)))) (hPa : Ptr w ea) (hPu : Ptr w eu) :
    Calls Tryd.prog 4 #[v, .int .i64 p, .int .i64 colors, .int .i64 bits, .int .i64 columns] w fun e w' =>
      ∃ x, e = .returned (.tuple #[x, .bool true]) ∧ Hid (Got w w' (K * size) (outF z h size bpp K) x ∧ Below w.heap.size w w') := by
  have hmf : ∀ (fn : Fn) (first cap : Array Value) (w : World), (Instr.makeFunc fn first cap).run Tryd.prog w = .ok (.func fn first cap) w := fun _ _ _ _ => rfl
  have hmm := @run_makeMap Tryd.prog
  obtain ⟨s0, hs0⟩ : ∃ s0, w.heap.size = s0 := ⟨_, rfl⟩
  obtain ⟨a, n, C, rfl⟩ : ∃ a n C, v = .slice a n C := by
    rcases hD with ⟨rfl, _⟩ | ⟨a, C, rfl, _⟩
    · exact ⟨_, _, _, rfl⟩
    · exact ⟨_, _, _, rfl⟩
  obtain ⟨W, hW⟩ : ∃ W, (w.alloc (.cells #[.slice a n C] 22)).alloc (.map #[] 0) = W := ⟨_, rfl⟩
  have kW : Kept [] w W := by rw [← hW]; exact ((Kept.refl _ _).alloc _).alloc _
  have hmW : W.heap[s0 + 1]? = some (.map #[] 0) := by
    have := heap_alloc_new (w.alloc (.cells #[.slice a n C] 22)) (.map #[] 0)
    rw [hW] at this
    simpa [hs0] using this
  have hw : ∀ x : Int, -1000000 ≤ x → x ≤ 1000000 → (Lit.int .i64 x).wf = true := fun x h1 h2 => WalkArith.wf_i64 (by omega)
  have hp := E.hp
  have hb := E.hbits
  have hc1 := E.CF.c2
  have hd1 := E.CF.d2
  simp at hp hb
  obtain ⟨w1, w2, w3, w4, r1, r2, r3, r4, hM, hK⟩ := parms_made W (s0 + 1) p colors bits columns hmW (hw _ (by omega) (by omega)) (hw _ (by omega) (by omega)) (hw _ (by omega) (by omega)) (hw _ (by omega) (by omega))
  unfold kPred at r1
  unfold kCol at r2
  unfold kBits at r3
  unfold kCols at r4
  have hd0 : W.cell? ⟨s0, 0, none⟩ = some (.slice a n C) := by rw [← hW, ← hs0]; simp [go_sem]
  have k4 : Kept [s0 + 1] w w4 := (kW.mono (by simp)).trans hK
  obtain ⟨V, hV⟩ : ∃ V, w4.alloc (.cells #[.map (some (s0 + 1))] 32) = V := ⟨_, rfl⟩
  have kV : Kept [s0 + 1] w V := by rw [← hV]; exact k4.alloc _
  obtain ⟨s4, hs4⟩ : ∃ s4, w4.heap.size = s4 := ⟨_, rfl⟩
  have hlt : ∀ {k : Nat} {x : Value}, w.cell? ⟨k, 0, none⟩ = some x → k ≠ s0 + 1 := fun h => by have := World.block_lt_of_cell? _ _ h; simp at this; omega
  have h8 := Lib.hid (all8 p colors bits columns size bpp h z N K E s4 s0 (s0 + 1) (.slice a n C) ea eu V (by rw [← hV, ← hs4]; simp [go_sem]) (by rw [← hV]; exact (Kept.refl [] w4).alloc _ |>.cell (hK.cell hd0 (by simp)) (by simp)) (hD.kept kV (by simp; omega)) (hM.kept (w' := V) (by rw [← hV]; exact heap_alloc_old w4 _ hM.lt))
    (kV.cell hE (by simp)) (kV.cell hU (by have := hlt hU; simp; omega)) (hPa.kept kV (by have := hPa.lt; simp; omega)) (hPu.kept kV (by have := hPu.lt; simp; omega)))
  have KV := Lib.hid kV
  have HS0 := Lib.hid hs0
  clear hp hb hc1 hd1 hD hE hU hPa hPu hlt hM hK k4 kV kW hw E hmW
  go_enter Tryd.func4, Tryd.ntmps4
  go_wp2_with (go_at_call 8; refine h8.out.mono ?_; rintro e w5 ⟨x, rfl, hx⟩)
  go_ret2
  obtain ⟨⟨f, c, rfl, z1, z2, z3⟩, hb⟩ := hx.out
  have hsz := KV.out.size
  refine ⟨_, rfl, Lib.hid ⟨⟨f, c, rfl, by omega, z2, z3⟩, ?_⟩⟩
  exact (KV.out.below (Nat.le_refl _) (by rw [HS0.out]; simp)).trans (hb.mono hsz)
end Go.Proofs.YtmihbmjillcjaaaDoor.up
