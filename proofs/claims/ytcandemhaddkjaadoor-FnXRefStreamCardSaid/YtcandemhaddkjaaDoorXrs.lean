/-
  impl.XRefStream.
-/
import Derived.Test.YtcandemhaddkjaaDoorStm
namespace Go.Proofs.YtcandemhaddkjaaDoor.xs
open Go.RowKit Go.MapKept Go.ChangeMaps
set_option linter.unusedVariables false
set_option linter.unusedSimpArgs false

theorem iv_one {l : List Int} : ∀ u ∈ iv l, u.oneCell' = true := by
  intro u hu
  simp [iv] at hu
  obtain ⟨i, _, rfl⟩ := hu
  rfl
/-- 'append([]int{}, objs...)'. -/
theorem append_ints (w : World) (k : Nat) (v : Value) (l : List Int) (B : Nat) (h : w.ownsRow B 3 1 v l.length (iv l)) (hN : l.length ≤ 1000000) (hk : w.heap[k]? = some (.cells #[] 3 (0, 0))) (ty : TypeId) :
    ∃ (a : Option Addr) (C : Nat) (w' : World), (Builtin.append_ #[22, 22] ty #[.slice (some ⟨k, 0, none⟩) 0 0, v]).run Tryd.prog w = .ok (.slice a l.length C) w' ∧ w'.ownsRow k 3 1 (.slice a l.length C) l.length (iv l) ∧ Kept [k] w w' := by
  obtain ⟨i, hi, hz, hs, hb⟩ := info_parts info3f
  have hown : w.ownsRow k 3 1 (.slice (some ⟨k, 0, none⟩) 0 0) 0 [] := ⟨rfl, .inr ⟨k, 0, #[], rfl, Nat.le_refl _, hk, Nat.le_refl _, by unfold maxLen; omega, rfl, rfl⟩⟩
  have hks : k < w.heap.size := (Array.getElem?_eq_some_iff.1 hk).1
  have hcells := fun g hg j u hj => h.cells (g := g) hg j u hj
  rcases h.2 with ⟨rfl, hl⟩ | ⟨g, cap, cur, rfl, hB, hc, hn, hm, r⟩
  · have hl0 : l = [] := List.length_eq_zero_iff.1 hl
    subst hl0
    exact ⟨_, _, w, run_append_owned_none (P := Tryd.prog) (w := w) k 22 ty 3 i 1 Tryd.underlying22 hi _ 0 [] hown, hown, Kept.refl _ _⟩
  · obtain ⟨v', w', hr, ho, hg, hnil⟩ := run_append_own (P := Tryd.prog) (w := w) k 22 ty 3 i (.int .i64 0) 1 8 Tryd.underlying22 hi hz hs hb rfl (by decide) _ 0 [] hown ⟨g, 0, none⟩ l.length cap (iv l) (by simp [iv])
      (fun j u hj => hcells g rfl j u hj) iv_one (by unfold maxLen; omega) (by omega) (Nat.le_of_lt hks)
    rw [Nat.zero_add, List.nil_append] at ho
    obtain ⟨a, C', rfl⟩ := own_slice ho
    exact ⟨a, C', w', hr, ho, Kept.of_grown hg (by simp)⟩

def HasP (prev : Int) (has : Bool) (pv : Int) : Prop := (has = true ∧ 0 ≤ prev ∧ pv = prev) ∨ (has = false ∧ prev < 0 ∧ pv = 0)
def XrsE (w : World) (size : Int) (l : List Int) (a b c prev : Int) (e : Ending) (w' : World) : Prop :=
  ∃ objs pv has, e = .returned (.tuple #[.int .i64 size, objs, .agg #[.int .i64 a, .int .i64 b, .int .i64 c], .int .i64 pv, .bool has, .bool true]) ∧ HasP prev has pv ∧ w'.ownsRow w.heap.size 3 1 objs l.length (iv l) ∧ Below w.heap.size w w'

set_option maxHeartbeats 4000000 in
set_option maxRecDepth 100000 in
theorem xrefStream5 (sz N : Nat) (z : Nat → Int) (a b c prev : Int) (K : Nat) (z' : Nat → Int) (kv ov : Value) (os : List (Array Value)) (v : Value) (n : Nat) (f : Nat → Int) (w : World)
    (hlen : os.length = (enOf sz N z a b c prev).length) (hk : Strs w kv ((enOf sz N z a b c prev).map (·.1))) (ho : Rows w ov os)
    (hob : ∀ (i : Nat) (s : ByteArray) (t : Thing) (o : Array Value), (enOf sz N z a b c prev)[i]? = some (s, t) → os[i]? = some o → t.obj w o) (hv : BytesV w v n f) (hn : n ≤ 1000000)
    (heff : Eff (sz : Int) N z K z') (hok : OkK (sz : Int) z' K) (hlo : 1 ≤ sz) (hhi : sz ≤ 5000) (ha : 0 ≤ a) (hb : 0 ≤ b) (hc : 0 ≤ c) :
    Calls Tryd.prog 5 #[.agg (dictO kv ov), v] w fun e w' => XrsE w sz (outK z' K) a b c prev e w' := by
  have hl5 : (outK z' K).length ≤ 5000 := by
    have := hok.bound (by omega) K (Nat.le_refl _)
    omega
  obtain ⟨kg, kC, rfl, hk'⟩ := hk
  obtain ⟨og, oC, rfl, ho'⟩ := ho
  obtain ⟨va, vC, rfl⟩ : ∃ a C, v = .slice a n C := by
    rcases hv with ⟨rfl, rfl⟩ | ⟨g, C, rfl, _⟩
    · exact ⟨_, _, rfl⟩
    · exact ⟨_, _, rfl⟩
  obtain ⟨W0, hW0⟩ : ∃ W, (w.alloc (.cells (dictO (.slice (some ⟨kg, 0, none⟩) ((enOf sz N z a b c prev).map (·.1)).length kC) (.slice (some ⟨og, 0, none⟩) os.length oC)) 33)).alloc (.cells #[.int .i64 0, .int .i64 0, .int .i64 0] 23) = W := ⟨_, rfl⟩
  have k0 : Kept [] w W0 := by rw [← hW0]; exact ((Kept.refl _ _).alloc _).alloc _
  have hr0 : W0.heap[w.heap.size + 1]? = some (.cells #[.int .i64 0, .int .i64 0, .int .i64 0] 23 (0, 0)) := by
    rw [← hW0]
    have := heap_alloc_new (w.alloc (.cells (dictO (.slice (some ⟨kg, 0, none⟩) ((enOf sz N z a b c prev).map (·.1)).length kC) (.slice (some ⟨og, 0, none⟩) os.length oC)) 33)) (.cells #[.int .i64 0, .int .i64 0, .int .i64 0] 23)
    simpa using this
  have H7 := Lib.hid (stream7 sz N z a b c prev _ _ os _ n f W0 hlen (Strs.kept ⟨kg, kC, rfl, hk'⟩ k0) (Rows.kept ⟨og, oC, rfl, ho'⟩ k0) (fun i s t o h1 h2 => Thing.obj_kept (hob i s t o h1 h2) k0) (hv.kept k0) hn)
  have K0 := Lib.hid k0
  have HR0 := Lib.hid hr0
  have HKN := Lib.hid (And.intro heff (And.intro hok (And.intro hlo (And.intro hhi (And.intro ha (And.intro hb hc))))))
  have HL5 := Lib.hid hl5
  generalize ((enOf sz N z a b c prev).map (·.1)).length = lk at hW0 H7 ⊢
  clear hlen hk' ho' hob hv hn k0 hr0 heff hok hlo hhi ha hb hc hl5
  subst hW0
  unfold dictO at H7 HR0 K0 ⊢
  have hmf : ∀ (fn : Fn) (first cap : Array Value) (w : World), (Instr.makeFunc fn first cap).run Tryd.prog w = .ok (.func fn first cap) w := fun _ _ _ _ => rfl
  go_enter Tryd.func5, Tryd.ntmps5
  go_wp2_with (go_at_call 7; refine H7.out.mono ?_; rintro e w1 ⟨sb, m, ca, cn, cc, rfl, hsd, hb1⟩; refine Hid.out ?_)
  refine Lib.hid ?_
  have k1 := Kept.of_below hb1 []
  obtain ⟨n1, hn1⟩ : ∃ n1, w1.heap.size = n1 := ⟨_, rfl⟩
  obtain ⟨W, hW⟩ : ∃ W, ((w1.alloc (.cells #[.pointer (some ⟨sb, 0, none⟩)] 36)).alloc (.cells #[.pointer none] 39)).alloc (.cells #[.nilIface] 41) = W := ⟨_, rfl⟩
  obtain ⟨V, hV⟩ : ∃ V, W.alloc (.cells #[.bool false] 4) = V := ⟨_, rfl⟩
  have hsW : W.heap.size = n1 + 1 + 1 + 1 := by rw [← hW, ← hn1]; simp
  have kW : Kept [] w1 W := by rw [← hW]; exact (((Kept.refl _ _).alloc _).alloc _).alloc _
  have kV : Kept [] w1 V := by rw [← hV]; exact kW.alloc _
  have kWV : Kept [] W V := by rw [← hV]; exact (Kept.refl _ _).alloc _
  have v0 : W.heap[n1]? = some (.cells #[.pointer (some ⟨sb, 0, none⟩)] 36 (0, 0)) := by
    rw [← hW, ← hn1]
    exact ((heap_alloc_old _ _ (by simp <;> omega)).trans (heap_alloc_old _ _ (by simp <;> omega))).trans (heap_alloc_new w1 _)
  have v1 : W.heap[n1 + 1]? = some (.cells #[.pointer none] 39 (0, 0)) := by
    rw [← hW, ← hn1]
    refine (heap_alloc_old _ _ (by simp <;> omega)).trans ?_
    have := heap_alloc_new (w1.alloc (.cells #[.pointer (some ⟨sb, 0, none⟩)] 36)) (.cells #[.pointer none] 39)
    simpa using this
  have v2 : W.heap[n1 + 1 + 1]? = some (.cells #[.nilIface] 41 (0, 0)) := by
    rw [← hW, ← hn1]
    have := heap_alloc_new ((w1.alloc (.cells #[.pointer (some ⟨sb, 0, none⟩)] 36)).alloc (.cells #[.pointer none] 39)) (.cells #[.nilIface] 41)
    simpa using this
  have v3 : V.heap[n1 + 1 + 1 + 1]? = some (.cells #[.bool false] 4 (0, 0)) := by rw [← hV, ← hsW]; exact heap_alloc_new W _
  obtain ⟨q1, q2, q3, q4, q5, q6, q7⟩ := HKN.out
  have hclo := clos9 V ⟨hsd.kept kV, q1, q2, q3, q4, q5, q6, q7⟩ n1 (n1 + 1) (n1 + 1 + 1) (cellsOf ((kWV.block n1 (by omega) (by simp)).trans v0) 0) ((kWV.block _ (by omega) (by simp)).trans v1) ((kWV.block _ (by omega) (by simp)).trans v2)
  have hsV : V.heap.size = n1 + 4 := by rw [← hV]; simp [hsW]
  have hcalm := calm_ok #[.pointer (some ⟨n1, 0, none⟩), .pointer (some ⟨n1 + 1, 0, none⟩), .pointer (some ⟨n1 + 1 + 1, 0, none⟩)] W (fun w' => CloIs V m ca cn cc sz (outK z' K) a b c prev (n1 + 1) (n1 + 1 + 1) w')
    (Lib.hid (by
      rw [hV, hsW]
      refine hclo.mono ?_
      rintro e w' ⟨rfl, hx⟩
      have h3 := (hx.kept.block (n1 + 1 + 1 + 1) (by omega) (by simp <;> omega)).trans v3
      exact ⟨rfl, cellsOf h3 0, frozenOf h3 0, hx⟩))
  rw [hsW] at hcalm
  rw [← hW] at hcalm
  have HC := Lib.hid hcalm
  have HV3 := Lib.hid v3
  have HN1 := Lib.hid (And.intro hn1 hsV)
  have HLO : Hid (w.heap.size + 2 ≤ n1) := Lib.hid (by have := k1.size; simp at this; omega)
  have K1 := Lib.hid (K0.out.trans (k1.trans kV))
  have HRV := Lib.hid (((k1.trans kV).block _ (by simp <;> omega) (by simp)).trans HR0.out)
  clear hcalm hclo v0 v1 v2 v3 kW kV kWV hsV hsW hV hW k1 hb1 hsd q1 q2 q3 q4 q5 q6 q7
  go_wp2_with (go_at_call 8; refine HC.out.mono ?_; rintro e w2 ⟨rfl, W2, hx, rfl⟩; refine Hid.out ?_)
  refine Lib.hid ?_
  obtain ⟨⟨xb, p, objs, y1, y2, y3, y4, y5⟩, y6, y7⟩ := hx
  obtain ⟨hn1', hsV⟩ := HN1.out
  rw [hsV] at y4 y5
  obtain ⟨U, hU⟩ : ∃ U, W2.setCell ⟨n1 + 1 + 1 + 1, 0, none⟩ (.bool true) = U := ⟨_, rfl⟩
  have kU : Kept [n1 + 1 + 1 + 1] W2 U := by rw [← hU]; exact (Kept.refl _ _).setCell (by simp) _
  have hs2 : n1 + 4 ≤ W2.heap.size := by have := y7.size; omega
  have z1 := kU.cell y1 (by simp <;> omega)
  have z6 := kU.cell y6 (by simp <;> omega)
  have zx := (kU.block xb (Array.getElem?_eq_some_iff.1 y2).1 (by simp <;> omega)).trans y2
  have zo := own_kept y5 kU (fun g hg => by have := (own_block y5 g hg).1; simp; omega)
  have hsU : n1 + 4 ≤ U.heap.size := by have := kU.size; omega
  have hw1 : w.heap.size + 2 ≤ n1 := by have := HLO.out; omega
  have zr := (kU.block (w.heap.size + 1) (by omega) (by simp <;> omega)).trans ((y7.block _ (by omega) (by simp <;> omega)).trans HRV.out)
  have zp : PrevIs U prev (.pointer p) := by
    rcases y3 with y3 | ⟨h1, q, h2, h3⟩
    · exact .inl y3
    · refine .inr ⟨h1, q, h2, ?_⟩
      have hq : q ≠ n1 + 1 + 1 + 1 := fun e => by
        rw [e, cellsOf ((y7.block (n1 + 1 + 1 + 1) (by omega) (by simp <;> omega)).trans HV3.out) 0] at h3
        cases h3
      exact kU.cell h3 (by simpa using hq)
  have kUw : Hid (Kept [n1 + 1, n1 + 1 + 1, n1 + 1 + 1 + 1] w U) := Lib.hid ((K1.out.mono (by simp)).trans ((y7.mono (by simp)).trans (kU.mono (by simp))))
  obtain ⟨oa, oc, hobj⟩ := own_slice zo
  obtain ⟨lo, hlo⟩ : ∃ lo, (outK z' K).length = lo := ⟨_, rfl⟩
  rw [hlo] at hobj
  subst hobj
  obtain ⟨fa, fc, w3, hrun, how, hk3⟩ := append_ints ((U.alloc (.cells #[] 3)).drew) U.heap.size _ (outK z' K) _ (own_kept zo (((Kept.refl [] U).alloc _).drew) (by simp)) (by have := HL5.out; omega) (heap_alloc_new U _) 22
  rw [hlo] at hrun
  have k3 : Kept [] U w3 := ((((Kept.refl [] U).alloc _).drew).mono (by simp) |>.trans hk3).cut (by simp)
  have x9 : U.cell? ⟨xb, 9, none⟩ = some (.int .i64 (sz : Int)) := cellsOf zx 9
  have x10 : U.cell? ⟨xb, 10, none⟩ = some (.slice oa lo oc) := cellsOf zx 10
  have x11 : U.cell? ⟨xb, 11, none⟩ = some (.int .i64 a) := cellsOf zx 11
  have x12 : U.cell? ⟨xb, 12, none⟩ = some (.int .i64 b) := cellsOf zx 12
  have x13 : U.cell? ⟨xb, 13, none⟩ = some (.int .i64 c) := cellsOf zx 13
  have x14 : U.cell? ⟨xb, 14, none⟩ = some (.pointer p) := cellsOf zx 14
  have zr3 := (k3.block _ (by omega) (by simp)).trans zr
  have r0 : w3.cell? ⟨w.heap.size + 1, 0, none⟩ = some (.int .i64 0) := cellsOf zr3 0
  have r1 : w3.cell? ⟨w.heap.size + 1, 1, none⟩ = some (.int .i64 0) := cellsOf zr3 1
  have r2 : w3.cell? ⟨w.heap.size + 1, 2, none⟩ = some (.int .i64 0) := cellsOf zr3 2
  have f0 : w3.frozen? ⟨w.heap.size + 1, 0, none⟩ = false := frozenOf zr3 0
  have f1 : w3.frozen? ⟨w.heap.size + 1, 1, none⟩ = false := frozenOf zr3 1
  have f2 : w3.frozen? ⟨w.heap.size + 1, 2, none⟩ = false := frozenOf zr3 2
  have g1 := k3.cell z1 (by simp)
  have g9 := k3.cell x9 (by simp)
  have g10 := k3.cell x10 (by simp)
  have g11 := k3.cell x11 (by simp)
  have g12 := k3.cell x12 (by simp)
  have g13 := k3.cell x13 (by simp)
  have hfar1 : n1 + 1 ≠ w.heap.size + 1 := by omega
  have hfar2 : xb ≠ w.heap.size + 1 := by omega
  have HFIN : Hid (∀ W', Kept [w.heap.size + 1] w3 W' → W'.ownsRow w.heap.size 3 1 (.slice fa (outK z' K).length fc) (outK z' K).length (iv (outK z' K)) ∧ Below w.heap.size w W') := Lib.hid fun W' k => by
    refine ⟨own_mono (own_kept how k (fun g hg => ?_)) (by omega), (kUw.out.below (Nat.le_refl _) (by simp; omega)).trans ((k3.below (by omega) (by simp)).trans (k.below (by have := k3.size; omega) (by simp)))⟩
    have := (own_block how g hg).1
    simp
    omega
  have HZP := Lib.hid zp
  have HLO2 := Lib.hid hlo
  clear zx zo zr zr3 y1 y2 y4 y5 y6 y7 y3 kU hs2 hk3 how k3 hlo hsV hn1'
  rw [hU]
  clear hU
  by_cases hp : 0 ≤ prev
  · obtain ⟨q, rfl, hq⟩ : ∃ q, p = some ⟨q, 0, none⟩ ∧ U.cell? ⟨q, 0, none⟩ = some (.int .i64 prev) := by
      rcases HZP.out with ⟨h, _⟩ | ⟨_, q, h2, h3⟩
      · omega
      · exact ⟨q, by simpa using h2, h3⟩
    clear zp
    go_wp2_with fail
    go_region_held3 (fun w' => w'.cell? ⟨n1 + 1, 0, none⟩ = some (.pointer (some ⟨xb, 0, none⟩)) ∧ w'.cell? ⟨xb, 9, none⟩ = some (.int .i64 (sz : Int)) ∧ w'.cell? ⟨xb, 10, none⟩ = some (.slice oa lo oc) ∧ w'.cell? ⟨xb, 11, none⟩ = some (.int .i64 a) ∧ w'.cell? ⟨xb, 12, none⟩ = some (.int .i64 b) ∧ w'.cell? ⟨xb, 13, none⟩ = some (.int .i64 c))
      (((try dsimp only); (repeat' apply And.intro) <;> ((repeat (with_reducible refine (cell_setCell_far _ (by assumption)).trans ?_)); first | with_reducible assumption | (rw [World.cell?_drew]; with_reducible assumption) | (refine ((Kept.refl [] _).alloc _).cell (by with_reducible assumption) (by simp)) | (rw [World.cell?_drew]; refine ((Kept.refl [] _).alloc _).cell (by with_reducible assumption) (by simp)) | fail)))
      (first | (refine step_append_run 22 rfl (.tmp 45) (.tmp 49) rfl (.slice (some ⟨U.heap.size, 0, none⟩) 0 0) (.slice oa lo oc) (by simp [Act.eval, Act.put]) (by simp [Act.eval, Act.put]) _ _ hrun ?_) | fail)
    go_wp2_with fail
    have hfin := HFIN.out
    rw [HLO2.out] at hfin
    refine bodyPost_ret (v := .tuple #[.int .i64 (sz : Int), .slice fa lo fc, .agg #[.int .i64 a, .int .i64 b, .int .i64 c], .int .i64 prev, .bool true, .bool true]) ?_ rfl ⟨_, _, _, rfl, .inl ⟨rfl, hp, rfl⟩, ?_⟩
    · have hres : Tryd.f5.results = #[.tmp 4, .tmp 5, .cell 6 23, .tmp 7, .tmp 8, .tmp 9] := by kernel_rfl
      simp only [results, hres]
      go_simp
    · rw [HLO2.out]
      refine hfin _ ?_
      repeat' (first | with_reducible exact Kept.refl _ _ | (with_reducible refine Kept.setCell ?_ (by simp) _))
  · obtain rfl : p = none := by
      rcases HZP.out with ⟨_, h⟩ | ⟨h, _⟩
      · simpa using h
      · omega
    clear zp
    go_wp2_with fail
    go_region_held3 (fun w' => w'.cell? ⟨n1 + 1, 0, none⟩ = some (.pointer (some ⟨xb, 0, none⟩)) ∧ w'.cell? ⟨xb, 9, none⟩ = some (.int .i64 (sz : Int)) ∧ w'.cell? ⟨xb, 10, none⟩ = some (.slice oa lo oc) ∧ w'.cell? ⟨xb, 11, none⟩ = some (.int .i64 a) ∧ w'.cell? ⟨xb, 12, none⟩ = some (.int .i64 b) ∧ w'.cell? ⟨xb, 13, none⟩ = some (.int .i64 c))
      (((try dsimp only); (repeat' apply And.intro) <;> ((repeat (with_reducible refine (cell_setCell_far _ (by assumption)).trans ?_)); first | with_reducible assumption | (rw [World.cell?_drew]; with_reducible assumption) | (refine ((Kept.refl [] _).alloc _).cell (by with_reducible assumption) (by simp)) | (rw [World.cell?_drew]; refine ((Kept.refl [] _).alloc _).cell (by with_reducible assumption) (by simp)) | fail)))
      (first | (refine step_append_run 22 rfl (.tmp 45) (.tmp 49) rfl (.slice (some ⟨U.heap.size, 0, none⟩) 0 0) (.slice oa lo oc) (by simp [Act.eval, Act.put]) (by simp [Act.eval, Act.put]) _ _ hrun ?_) | fail)
    go_wp2_with fail
    have hfin := HFIN.out
    rw [HLO2.out] at hfin
    refine bodyPost_ret (v := .tuple #[.int .i64 (sz : Int), .slice fa lo fc, .agg #[.int .i64 a, .int .i64 b, .int .i64 c], .int .i64 0, .bool false, .bool true]) ?_ rfl ⟨_, _, _, rfl, .inr ⟨rfl, by omega, rfl⟩, ?_⟩
    · have hres : Tryd.f5.results = #[.tmp 4, .tmp 5, .cell 6 23, .tmp 7, .tmp 8, .tmp 9] := by kernel_rfl
      simp only [results, hres]
      go_simp
    · rw [HLO2.out]
      refine hfin _ ?_
      repeat' (first | with_reducible exact Kept.refl _ _ | (with_reducible refine Kept.setCell ?_ (by simp) _))
end Go.Proofs.YtcandemhaddkjaaDoor.xs
