/-
  impl.stream; impl.calm; impl.XRefStream's closure.
-/
import Derived.Test.YtcandemhaddkjaaDoorPrq
import Derived.Defers
import Derived.Recover
namespace Go.Proofs.YtcandemhaddkjaaDoor.xs
open Go.RowKit Go.MapKept Go.ChangeMaps
set_option linter.unusedVariables false
set_option linter.unusedSimpArgs false

/-- A slice of n bytes that can be read. -/
def BytesV (w : World) (v : Value) (n : Nat) (f : Nat → Int) : Prop := (v = .slice none 0 0 ∧ n = 0) ∨ ∃ (g C : Nat), v = .slice (some ⟨g, 0, none⟩) n C ∧ n ≤ C ∧ C ≤ maxLen ∧ ∀ i, i < n → w.cell? ⟨g, i, none⟩ = some (.int .u8 (f i))
theorem BytesV.kept {w w' : World} {v : Value} {n : Nat} {f : Nat → Int} (h : BytesV w v n f) (k : Kept [] w w') : BytesV w' v n f := by
  rcases h with h | ⟨g, C, h1, h2, h3, h4⟩
  · exact .inl h
  · exact .inr ⟨g, C, h1, h2, h3, fun i hi => k.cell (h4 i hi) (by simp)⟩
theorem info5f : (Tryd.prog.info? 5).map (fun i => (i.zero, i.size, i.bytes)) = some (some (.int .u8 0), 1, 1) := by kernel_rfl
def bsv (n : Nat) (f : Nat → Int) : List Value := (List.range n).map fun i => .int .u8 (f i)
/-- 'append([]byte{}, content...)'. -/
theorem append_copy (w : World) (k : Nat) (v : Value) (N : Nat) (f : Nat → Int) (h : BytesV w v N f) (hN : N ≤ 1000000) (hk : w.heap[k]? = some (.cells #[] 5 (0, 0))) (ty : TypeId) :
    ∃ (a : Option Addr) (n C : Nat) (w' : World), (Builtin.append_ #[26, 26] ty #[.slice (some ⟨k, 0, none⟩) 0 0, v]).run Tryd.prog w = .ok (.slice a n C) w' ∧ Kept [k] w w' := by
  obtain ⟨i5, hi5, hz5, hsz5, hby5⟩ := info_parts info5f
  have hown : w.ownsRow k 5 1 (.slice (some ⟨k, 0, none⟩) 0 0) 0 [] := ⟨rfl, .inr ⟨k, 0, #[], rfl, Nat.le_refl _, hk, Nat.le_refl _, by unfold maxLen; omega, rfl, rfl⟩⟩
  rcases h with ⟨rfl, rfl⟩ | ⟨g, C, rfl, hC, hm, hcells⟩
  · exact ⟨_, _, _, w, run_append_owned_none (P := Tryd.prog) (w := w) k 26 ty 5 i5 1 Tryd.underlying26 hi5 _ 0 [] hown, Kept.refl _ _⟩
  · have hks : k < w.heap.size := (Array.getElem?_eq_some_iff.1 hk).1
    obtain ⟨v', w', hr, ho, hg, hnil⟩ := run_append_own (P := Tryd.prog) (w := w) k 26 ty 5 i5 (.int .u8 0) 1 1 Tryd.underlying26 hi5 hz5 hsz5 hby5 rfl (by decide) _ 0 [] hown ⟨g, 0, none⟩ N C (bsv N f) (by simp [bsv])
      (fun j u hj => by
        have hj2 : j < N := by
          have := (List.getElem?_eq_some_iff.1 hj).1
          simpa [bsv] using this
        have hu : u = .int .u8 (f j) := by
          simp [bsv, hj2] at hj
          exact hj.symm
        rw [addr_add, Nat.zero_add, hu]
        exact hcells j hj2) (fun u hu => by
        simp [bsv] at hu
        obtain ⟨i, _, rfl⟩ := hu
        rfl) (by unfold maxLen; omega) (by omega) (Nat.le_of_lt hks)
    obtain ⟨a, C', rfl⟩ := own_slice ho
    exact ⟨a, _, C', w', hr, Kept.of_grown hg (by simp)⟩

def StmE (w : World) (size : Int) (N : Nat) (z : Nat → Int) (a b c prev : Int) (e : Ending) (w' : World) : Prop :=
  ∃ sb m ca cn cc, e = .returned (.tuple #[.pointer (some ⟨sb, 0, none⟩), .bool true]) ∧ SdIs w' sb m ca cn cc size N z a b c prev ∧ Below w.heap.size w w'

set_option maxHeartbeats 4000000 in
set_option maxRecDepth 100000 in
theorem stream7 (size : Int) (N : Nat) (z : Nat → Int) (a b c prev : Int) (kv ov : Value) (os : List (Array Value)) (v : Value) (n : Nat) (f : Nat → Int) (w : World)
    (hlen : os.length = (enOf size N z a b c prev).length) (hk : Strs w kv ((enOf size N z a b c prev).map (·.1))) (ho : Rows w ov os)
    (hob : ∀ (i : Nat) (s : ByteArray) (t : Thing) (o : Array Value), (enOf size N z a b c prev)[i]? = some (s, t) → os[i]? = some o → t.obj w o) (hv : BytesV w v n f) (hn : n ≤ 1000000) :
    Calls Tryd.prog 7 #[.agg (dictO kv ov), v] w fun e w' => StmE w size N z a b c prev e w' := by
  have hel : (enOf size N z a b c prev).length ≤ 1000 := by unfold enOf; simp; split <;> split <;> simp
  obtain ⟨kg, kC, rfl, hk'⟩ := hk
  obtain ⟨og, oC, rfl, ho'⟩ := ho
  obtain ⟨va, vC, rfl⟩ : ∃ a C, v = .slice a n C := by
    rcases hv with ⟨rfl, rfl⟩ | ⟨g, C, rfl, _⟩
    · exact ⟨_, _, rfl⟩
    · exact ⟨_, _, rfl⟩
  obtain ⟨W0, hW0⟩ : ∃ W, w.alloc (.cells (dictO (.slice (some ⟨kg, 0, none⟩) ((enOf size N z a b c prev).map (·.1)).length kC) (.slice (some ⟨og, 0, none⟩) os.length oC)) 33) = W := ⟨_, rfl⟩
  have k0 : Kept [] w W0 := by rw [← hW0]; exact (Kept.refl _ _).alloc _
  have hb0 : W0.heap[w.heap.size]? = some (.cells (dictO (.slice (some ⟨kg, 0, none⟩) ((enOf size N z a b c prev).map (·.1)).length kC) (.slice (some ⟨og, 0, none⟩) os.length oC)) 33 (0, 0)) := by rw [← hW0]; exact heap_alloc_new w _
  have H15 := Lib.hid (dict15 (enOf size N z a b c prev) os _ _ W0 (keys_en ..) hlen hel (Strs.kept ⟨kg, kC, rfl, hk'⟩ k0) (Rows.kept ⟨og, oC, rfl, ho'⟩ k0) (fun i s t o h1 h2 => Thing.obj_kept (hob i s t o h1 h2) k0))
  have HV := Lib.hid (hv.kept k0)
  have HN := Lib.hid hn
  have K0 := Lib.hid k0
  have HB0 := Lib.hid hb0
  generalize ((enOf size N z a b c prev).map (·.1)).length = lk at hW0 H15 HB0 ⊢
  clear hlen hk' ho' hob hv hn k0 hb0 hel
  subst hW0
  unfold dictO at H15 HB0 HV K0 ⊢
  go_enter Tryd.func7, Tryd.ntmps7
  go_wp2_with (go_at_call 15; refine H15.out.mono ?_; rintro e w1 ⟨m, rfl, hd, hm, hb⟩; refine Hid.out ?_)
  refine Lib.hid ?_
  have kk := Kept.of_below hb []
  have hob1 := (kk.block w.heap.size (by simp) (by simp)).trans HB0.out
  have c0 : w1.cell? ⟨w.heap.size, 0, none⟩ = some (.int .i64 8) := cellsOf hob1 0
  obtain ⟨W2, hW2⟩ : ∃ W, (w1.alloc (.cells #[] 5)).drew = W := ⟨_, rfl⟩
  have k2 : Kept [] w1 W2 := by rw [← hW2]; exact ((Kept.refl _ _).alloc _).drew
  obtain ⟨aa, an, aC, w3, hrun, hk3⟩ := append_copy W2 w1.heap.size _ n f ((HV.out.kept kk).kept k2) HN.out (by rw [← hW2]; exact heap_alloc_new w1 _) 26
  have hd1 : w.heap.size < w1.heap.size := by have := kk.size; simp at this; omega
  have k13 : Kept [] w1 w3 := (k2.mono (by simp)).trans hk3 |>.cut (by simp)
  have c3 := k13.cell c0 (by simp)
  have c1 : (w1.alloc (.cells #[] 5)).cell? ⟨w.heap.size, 0, none⟩ = some (.int .i64 8) := ((Kept.refl [] w1).alloc _).cell c0 (by simp)
  have hlt3 : w.heap.size < w3.heap.size := by have := k13.size; omega
  have HD := Lib.hid (hd.kept k13)
  have K03 := Lib.hid ((K0.out.trans kk).trans k13)
  rw [← hW2] at hrun
  clear hob1 hW2 k2 hk3 kk hb hd k13
  go_wp2_with fail
  go_region_law (first | (refine step_append_run 26 rfl (.tmp 17) (.tmp 18) rfl (.slice (some ⟨w1.heap.size, 0, none⟩) 0 0) (.slice va n vC) (by simp [Act.eval, Act.put]) (by simp [Act.eval, Act.put]) _ _ hrun ?_) | fail)
  all_goals
    go_wp2_with fail
    go_ret2
    exact ⟨w3.heap.size, m, aa, an, aC, rfl, ⟨heap_alloc_new w3 _, HD.out.kept ((Kept.refl _ _).alloc _)⟩, (K03.out.alloc _).below (Nat.le_refl _) (by simp)⟩

theorem catch_idle (p : Addr) (w : World) :
    CallsD Tryd.prog 16 #[.pointer (some p)] .returning w fun e u' w' => e = .returned (.tuple #[]) ∧ u' = .returning ∧ w' = w := by
  refine callsD_of_wpS Tryd.func16 rfl fun c₀ cs hu => ?_
  apply wpS_seq
  apply wpS_region
  simp [wpOpsS, go_sem, recoverD, hu, Tryd.ntmps16, Exit.thenS]
  refine wpS_cond (t := false) (by simp [Act.eval, Array.replicate]) ?_
  simp only [Bool.false_eq_true, if_false]
  refine wpS_of_wp (wp_skip ?_)
  cases c₀
  simp_all [bodyPostS, results, Tryd.results16]

theorem calm_ok (cap : Array Value) (w : World) (Q : World → Prop)
    (H : Hid (Calls Tryd.prog 9 cap (w.alloc (.cells #[.bool false] 4)) fun e W' => e = .returned (.tuple #[]) ∧ W'.cell? ⟨w.heap.size, 0, none⟩ = some (.bool false) ∧ W'.frozen? ⟨w.heap.size, 0, none⟩ = false ∧ Q W')) :
    Calls Tryd.prog 8 #[.func (.func 9) #[] cap] w fun e w' => e = .returned (.bool true) ∧ ∃ W', Q W' ∧ w' = W'.setCell ⟨w.heap.size, 0, none⟩ (.bool true) := by
  have hmf : ∀ (fn : Fn) (first cap : Array Value) (w : World), (Instr.makeFunc fn first cap).run Tryd.prog w = .ok (.func fn first cap) w := fun _ _ _ _ => rfl
  go_enter_defers Tryd.func8, Tryd.ntmps8
  go_wp2_with (go_at_call 9; refine H.out.mono ?_; rintro e W1 ⟨rfl, hc, hz, hq⟩)
  refine leaves_cons (f := 16) (args := #[.pointer (some ⟨w.heap.size, 0, none⟩)]) (by simp) (by simp [go_sem]) ?_
  refine (catch_idle ⟨w.heap.size, 0, none⟩ _).mono ?_
  rintro e u' w'' ⟨rfl, rfl, rfl⟩
  simp [Leaves, settle, results, Tryd.results8, go_sem, hc]
  exact ⟨W1, hq, rfl⟩

/-- What the closure leaves. -/
structure CloIs (w : World) (m : Nat) (ca : Option Addr) (cn cc : Nat) (size : Int) (l : List Int) (a b c prev : Int) (o er : Nat) (w' : World) : Prop where
  ex : ∃ xb p objs, w'.cell? ⟨o, 0, none⟩ = some (.pointer (some ⟨xb, 0, none⟩)) ∧ w'.heap[xb]? = some (.cells (xsdC m ca cn cc size objs a b c (.pointer p)) 56 (0, 0)) ∧ PrevIs w' prev (.pointer p) ∧ w.heap.size ≤ xb ∧ w'.ownsRow w.heap.size 3 1 objs l.length (iv l)
  err : w'.cell? ⟨er, 0, none⟩ = some .nilIface
  kept : Kept [o, er] w w'

theorem clo_fin {w w1 w2 : World} {m : Nat} {ca : Option Addr} {cn cc : Nat} {size : Int} {l : List Int} {a b c prev : Int} {o er xb : Nat} {p : Option Addr} {objs : Value} (hne : o ≠ er) (hol : o < w.heap.size) (hel : er < w.heap.size)
    (hx : w2.heap[xb]? = some (.cells (xsdC m ca cn cc size objs a b c (.pointer p)) 56 (0, 0))) (hp : PrevIs w2 prev (.pointer p)) (hlo : w1.heap.size ≤ xb) (how : w2.ownsRow w1.heap.size 3 1 objs l.length (iv l)) (k1 : w.heap.size ≤ w1.heap.size) (k2 : Kept [] w w2) (o2 : w2.heap[o]? = some (.cells #[.pointer none] 39 (0, 0))) (e2 : w2.heap[er]? = some (.cells #[.nilIface] 41 (0, 0))) :
    CloIs w m ca cn cc size l a b c prev o er ((w2.setCell ⟨o, 0, none⟩ (.pointer (some ⟨xb, 0, none⟩))).setCell ⟨er, 0, none⟩ .nilIface) := by
  have kk : Kept [o, er] w2 ((w2.setCell ⟨o, 0, none⟩ (.pointer (some ⟨xb, 0, none⟩))).setCell ⟨er, 0, none⟩ .nilIface) := ((Kept.refl _ _).setCell (by simp) _).setCell (by simp) _
  have oc : w2.cell? ⟨o, 0, none⟩ = some (.pointer none) := cellsOf o2 0
  have ec : w2.cell? ⟨er, 0, none⟩ = some .nilIface := cellsOf e2 0
  refine ⟨⟨xb, p, objs, ?_, (kk.block xb (Array.getElem?_eq_some_iff.1 hx).1 (by simp; omega)).trans hx, ?_, by omega, own_mono (own_kept how kk (fun g hg => ?_)) k1⟩, ?_, (k2.mono (by simp)).trans kk⟩
  · rw [cell_setCell_far _ hne, cellsOf (heap_set o2 0 _)]
    rfl
  · rcases hp with hp | ⟨h1, q, h2, h3⟩
    · exact .inl hp
    · refine .inr ⟨h1, q, h2, kk.cell h3 ?_⟩
      simp
      refine ⟨fun e => ?_, fun e => ?_⟩
      · rw [e, oc] at h3
        cases h3
      · rw [e, ec] at h3
        cases h3
  · have := (own_block how g hg).1
    simp
    omega
  · rw [cellsOf (heap_set (c := #[.nilIface]) (t := 41) (by rw [Go.Deep.blk_setCell_other _ _ _ _ hne.symm]; exact e2) 0 _)]
    rfl

set_option maxHeartbeats 4000000 in
set_option maxRecDepth 100000 in
theorem clos9 {sb m : Nat} {ca : Option Addr} {cn cc sz N : Nat} {z : Nat → Int} {a b c prev : Int} {K : Nat} {z' : Nat → Int} (w : World) (h : Know w sb m ca cn cc sz N z a b c prev K z') (s o er : Nat) (hs : w.cell? ⟨s, 0, none⟩ = some (.pointer (some ⟨sb, 0, none⟩))) (ho : w.heap[o]? = some (.cells #[.pointer none] 39 (0, 0))) (he : w.heap[er]? = some (.cells #[.nilIface] 41 (0, 0))) :
    Calls Tryd.prog 9 #[.pointer (some ⟨s, 0, none⟩), .pointer (some ⟨o, 0, none⟩), .pointer (some ⟨er, 0, none⟩)] w fun e w' => e = .returned (.tuple #[]) ∧ CloIs w m ca cn cc sz (outK z' K) a b c prev o er w' := by
  have HK := Lib.hid h
  have hne : o ≠ er := fun e => by
    rw [e, he] at ho
    cases ho
  have H11 := Lib.hid (limits11 w.drew)
  have HO := Lib.hid ho
  have HE := Lib.hid he
  have hol : o < w.heap.size := (Array.getElem?_eq_some_iff.1 ho).1
  have hel : er < w.heap.size := (Array.getElem?_eq_some_iff.1 he).1
  clear h ho he
  unfold lim at H11
  go_enter Tryd.func9, Tryd.ntmps9
  go_wp2_with fail
  go_region_law (first
    | (go_simp; go_at_call 11; refine H11.out.mono ?_; rintro e w1 ⟨rfl, hb1⟩; (have k1 : Kept [] w w1 := (Kept.refl [] w).drew.trans (Kept.of_below hb1 [])); (have s1 := k1.cell hs (by simp)); (have K1 := Lib.hid k1); (have H10 := Lib.hid (parse10 (HK.out.kept k1))); unfold lim at H10)
    | (go_simp; go_at_call 10; refine H10.out.mono ?_; rintro e w2 ⟨xb, p, objs, rfl, hx, hp, hlo, how, hb2⟩; (have k2 : Kept [] w w2 := K1.out.trans (Kept.of_below hb2 [])); (have o2 := (k2.block o hol (by simp)).trans HO.out); (have e2 := (k2.block er hel (by simp)).trans HE.out); (have oc := cellsOf o2 0); (have ec := cellsOf e2 0); (have of := frozenOf o2 0); (have ef := frozenOf e2 0); (have HX := Lib.hid (clo_fin hne hol hel hx hp hlo how K1.out.size k2 o2 e2)); clear hx hp hlo how k2 o2 e2)
    | fail)
  all_goals
    go_end0
    exact ⟨rfl, HX.out⟩
end Go.Proofs.YtcandemhaddkjaaDoor.xs
