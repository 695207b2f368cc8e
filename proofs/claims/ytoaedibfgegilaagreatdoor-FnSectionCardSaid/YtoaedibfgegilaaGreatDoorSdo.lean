/-
  ZzParseXRefTableSubSection; impl.calm; the closure of impl.Section.
-/
import Derived.Test.YtoaedibfgegilaaGreatDoorSsd
import Derived.Defers
import Derived.Recover
import Derived.Laws.EntriesVeiled
import Derived.Deep.RegionLaw
namespace Go.Proofs.YtoaedibfgegilaaGreatDoor.st
open Go.RowKit Go.MapKept Go.ChangeMaps
set_option linter.unusedVariables false
set_option linter.unusedSimpArgs false

theorem reader19 (T : ByteArray) (w : World) : Calls Tryz.prog 19 #[.string T] w fun e w' => e = .returned (.pointer (some ⟨w.heap.size, 0, none⟩)) ∧ w' = w.alloc (.cells #[.string T, .int .i64 0, .int .i64 (-1)] 86) := by
  go_enter Tryz.func19, Tryz.ntmps19
  go_wp2_with fail
  go_ret
  exact ⟨rfl, rfl⟩
def sc0 (rd : Nat) (fn : Fn) : Array Value := #[.iface 62 (.pointer (some ⟨rd, 0, none⟩)), .func fn #[] #[], .int .i64 65536, .slice none 0 0, .slice none 0 0, .int .i64 0, .int .i64 0, .nilIface, .int .i64 0, .bool false, .bool false]
theorem scanner18 (rd : Nat) (w : World) : Calls Tryz.prog 18 #[.iface 62 (.pointer (some ⟨rd, 0, none⟩))] w fun e w' => e = .returned (.pointer (some ⟨w.heap.size, 0, none⟩)) ∧ w' = w.alloc (.cells (sc0 rd (.func 28)) 84) := by
  unfold sc0
  go_enter Tryz.func18, Tryz.ntmps18
  go_wp2_with fail
  go_ret
  exact ⟨rfl, rfl⟩
theorem split20 (sc rd : Nat) (w : World) (h : w.heap[sc]? = some (.cells (sc0 rd (.func 28)) 84 (0, 0))) : Calls Tryz.prog 20 #[.pointer (some ⟨sc, 0, none⟩), .func (.func 21) #[] #[]] w fun e w' => e = .returned (.tuple #[]) ∧ w'.heap[sc]? = some (.cells (sc0 rd (.func 21)) 84 (0, 0)) ∧ Kept [sc] w w' := by
  have c1 : w.cell? ⟨sc, 1, none⟩ = some (.func (.func 28) #[] #[]) := cellsOf h 1
  have c9 : w.cell? ⟨sc, 9, none⟩ = some (.bool false) := cellsOf h 9
  have z1 := frozenOf h 1
  have hs := heap_set h 1 (.func (.func 21) #[] #[])
  have HS := Lib.hid (And.intro hs ((Kept.refl [sc] w).setCell (p := ⟨sc, 1, none⟩) (by simp) (.func (.func 21) #[] #[])))
  clear h hs
  go_enter Tryz.func20, Tryz.ntmps20
  go_wp2_with fail
  go_end0
  exact ⟨rfl, HS.out.1, HS.out.2⟩

/-- What the table's text and its caller hold to. -/
structure Told (f : Nat → Ent) (n z j0 : Nat) (T : ByteArray) : Prop where
  le : n ≤ 500
  ok : ∀ i, i < n → Ok (f i)
  rise : ∀ i j, i < j → j < n → (f i).num < (f j).num
  text : ∃ S, T = str (S ++ (trl ++ [10])) ∧ Sec f n z 0 j0 S
theorem kept_bel {L : List Nat} {a b c : World} (h : Kept L a b) (k : Bel a.heap.size L b c) : Kept L a c :=
  ⟨k.os.trans h.os, k.tape.trans h.tape, k.output.trans h.output, Nat.le_trans h.size k.size, fun i hi hn => (k.block i hi hn).trans (h.block i hi hn)⟩
theorem str_append_size (a b : List UInt8) : (str (a ++ b)).size = a.length + b.length := by rw [str_size, List.length_append]
/-- A scanner that has read nothing yet. -/
theorem here_new {f : Nat → Ent} {n z j0 : Nat} {T : ByteArray} (h : Told f n z j0 T) (B : Nat) (w : World) (sc rd : Nat) (h1 : w.heap[sc]? = some (.cells (sc0 rd (.func 21)) 84 (0, 0))) (h2 : w.heap[rd]? = some (.cells #[.string T, .int .i64 0, .int .i64 (-1)] 86 (0, 0))) (hb : B ≤ sc) (hr : B ≤ rd) :
    Here B w sc rd T f n z 0 j0 := by
  obtain ⟨S, rfl, hS⟩ := h.text
  have hl := hS.length h.le h.ok
  have hn := h.le
  have htl : (trl ++ [10]).length = 8 := rfl
  refine ⟨0, 0, S, ⟨0, 0, 0, .slice none 0 0, .slice none 0 0, 0, false, h1, ⟨-1, h2⟩, hb, hr, Nat.le_refl _, Nat.zero_le _, ?_, .inl ⟨rfl, rfl, rfl, rfl⟩⟩, .inl rfl, ?_, hS⟩
  · rw [str_append_size, htl]
    omega
  · unfold Rest
    rw [str_list, List.drop_zero]

def Sub13 (w : World) (m : Nat) (f : Nat → Ent) (n : Nat) (w' : World) : Prop := TabM w' m f n ∧ Kept [m] w w'
set_option maxHeartbeats 2000000 in
set_option maxRecDepth 100000 in
theorem sub13 (xt m : Nat) (T : ByteArray) (f : Nat → Ent) (n z j0 g0 C0 : Nat) (w : World) (h : Told f n z j0 T) (hx : w.cell? ⟨xt, 0, none⟩ = some (.map (some m))) (ht : TabM w m f 0) (hH : Head22 w g0 f n 0 j0) :
    Calls Tryz.prog 13 #[.pointer (some ⟨xt, 0, none⟩), .string T, .slice (some ⟨g0, 0, none⟩) 2 C0, .int .i64 0, .int .i64 0] w fun e w' => e = .returned (.tuple #[.string (str trl), .nilIface]) ∧ Sub13 w m f n w' := by
  have hxl := World.block_lt_of_cell? _ _ hx
  have hml : m < w.heap.size := by
    obtain ⟨b, hm, _⟩ := ht.ex
    exact (Array.getElem?_eq_some_iff.1 hm).1
  have hxm : xt ≠ m := fun e => by
    obtain ⟨b, hm, _⟩ := ht.ex
    rw [e] at hx
    simp [World.cell?, hm] at hx
  obtain ⟨V1, hV1⟩ : ∃ V, w.alloc (.cells #[.string T, .int .i64 0, .int .i64 (-1)] 86) = V := ⟨_, rfl⟩
  obtain ⟨V2, hV2⟩ : ∃ V, V1.alloc (.cells (sc0 w.heap.size (.func 28)) 84) = V := ⟨_, rfl⟩
  have s1 : V1.heap.size = w.heap.size + 1 := by rw [← hV1]; simp
  have b1 : V1.heap[w.heap.size]? = some (.cells #[.string T, .int .i64 0, .int .i64 (-1)] 86 (0, 0)) := by rw [← hV1]; exact heap_alloc_new w _
  have b2 : V2.heap[V1.heap.size]? = some (.cells (sc0 w.heap.size (.func 28)) 84 (0, 0)) := by rw [← hV2]; exact heap_alloc_new V1 _
  have k1 : Kept [] w V1 := by rw [← hV1]; exact (Kept.refl _ _).alloc _
  have k2 : Kept [] V1 V2 := by rw [← hV2]; exact (Kept.refl _ _).alloc _
  have H19 : Hid (Calls Tryz.prog 19 #[.string T] w fun e w' => e = .returned (.pointer (some ⟨w.heap.size, 0, none⟩)) ∧ w' = V1) := Lib.hid (by rw [← hV1]; exact reader19 T w)
  have H18 : Hid (Calls Tryz.prog 18 #[.iface 62 (.pointer (some ⟨w.heap.size, 0, none⟩))] V1 fun e w' => e = .returned (.pointer (some ⟨V1.heap.size, 0, none⟩)) ∧ w' = V2) := Lib.hid (by rw [← hV2]; exact scanner18 w.heap.size V1)
  have H20 := Lib.hid (split20 V1.heap.size w.heap.size V2 b2)
  have HS : Hid (∀ V3 : World, V3.heap[V1.heap.size]? = some (.cells (sc0 w.heap.size (.func 21)) 84 (0, 0)) → Kept [V1.heap.size] V2 V3 → Calls Tryz.prog 22 #[.pointer (some ⟨xt, 0, none⟩), .pointer (some ⟨V1.heap.size, 0, none⟩), .slice (some ⟨g0, 0, none⟩) 2 C0, .int .i64 0, .int .i64 0] V3 fun e w' => e = .returned (.tuple #[.string (str trl), .nilIface]) ∧ Sub13 w m f n w') := Lib.hid fun V3 hb hk => by
    have kk : Kept [] w V3 := (((k1.trans k2).mono (by simp)).trans hk).cut (by simp; omega)
    have hr : V3.heap[w.heap.size]? = some (.cells #[.string T, .int .i64 0, .int .i64 (-1)] 86 (0, 0)) := (hk.block _ (by have := k2.size; omega) (by simp; omega)).trans ((k2.block _ (by omega) (by simp)).trans b1)
    have hh := here_new h w.heap.size V3 V1.heap.size w.heap.size hb hr (by omega) (Nat.le_refl _)
    refine (sub22 w.heap.size V1.heap.size w.heap.size xt m T f n z j0 g0 C0 V3 h.le h.ok h.rise hxl hxm (kk.cell hx (by simp)) ⟨ht.keep (KeepT.of_kept kk), Bel.refl _ _ _, hh⟩ ⟨hH.kj, hH.jn, hH.run, kk.cell hH.c0 (by simp), kk.cell hH.c1 (by simp)⟩).mono ?_
    rintro e w' ⟨rfl, hd⟩
    exact ⟨rfl, hd.tab, kept_bel (kk.mono (by simp)) hd.bel⟩
  generalize V1.heap.size = s at *
  clear h hx ht hH hxl hml hxm hV1 hV2 s1 b1 b2 k1 k2
  go_enter Tryz.func13, Tryz.ntmps13
  go_wp2_with (first | (go_at_call 19; refine H19.out.mono ?_; rintro e V ⟨rfl, hv⟩; obtain rfl := hv.symm) | (go_at_call 18; refine H18.out.mono ?_; rintro e V ⟨rfl, hv⟩; obtain rfl := hv.symm) | (go_at_call 20; refine H20.out.mono ?_; rintro e V3 ⟨rfl, hb, hk⟩; refine Hid.out ?_))
  refine Lib.hid ?_
  have H22 := Lib.hid (HS.out V3 hb hk)
  clear hb hk HS
  go_wp2_with (go_at_call 22; refine H22.out.mono ?_; rintro e V4 ⟨rfl, hf⟩; refine Hid.out ?_)
  refine Lib.hid ?_
  have HF := Lib.hid hf
  clear hf
  go_wp2_with fail
  go_ret2
  exact ⟨rfl, HF.out⟩

theorem catch_idle (p : Addr) (w : World) :
    CallsD Tryz.prog 17 #[.pointer (some p)] .returning w fun e u' w' => e = .returned (.tuple #[]) ∧ u' = .returning ∧ w' = w := by
  refine callsD_of_wpS Tryz.func17 rfl fun c₀ cs hu => ?_
  apply wpS_seq
  apply wpS_region
  simp [wpOpsS, go_sem, recoverD, hu, Tryz.ntmps17, Exit.thenS]
  refine wpS_cond (t := false) (by simp [Act.eval, Array.replicate]) ?_
  simp only [Bool.false_eq_true, if_false]
  refine wpS_of_wp (wp_skip ?_)
  cases c₀
  simp_all [bodyPostS, results, Tryz.results17]

theorem calm_ok (cap : Array Value) (w : World) (Q : World → Prop)
    (H : Hid (Calls Tryz.prog 12 cap (w.alloc (.cells #[.bool false] 4)) fun e W' => e = .returned (.tuple #[]) ∧ W'.cell? ⟨w.heap.size, 0, none⟩ = some (.bool false) ∧ W'.frozen? ⟨w.heap.size, 0, none⟩ = false ∧ Q W')) :
    Calls Tryz.prog 11 #[.func (.func 12) #[] cap] w fun e w' => e = .returned (.bool true) ∧ ∃ W', Q W' ∧ w' = W'.setCell ⟨w.heap.size, 0, none⟩ (.bool true) := by
  have hmf : ∀ (fn : Fn) (first cap : Array Value) (w : World), (Instr.makeFunc fn first cap).run Tryz.prog w = .ok (.func fn first cap) w := fun _ _ _ _ => rfl
  go_enter_defers Tryz.func11, Tryz.ntmps11
  go_wp2_with (go_at_call 12; refine H.out.mono ?_; rintro e W1 ⟨rfl, hc, hz, hq⟩)
  refine leaves_cons (f := 17) (args := #[.pointer (some ⟨w.heap.size, 0, none⟩)]) (by simp) (by simp [go_sem]) ?_
  refine (catch_idle ⟨w.heap.size, 0, none⟩ _).mono ?_
  rintro e u' w'' ⟨rfl, rfl, rfl⟩
  simp [Leaves, settle, results, Tryz.results11, go_sem, hc]
  exact ⟨W1, hq, rfl⟩

/-- Writes to blocks that hold no entry. -/
theorem TabM.kept_blk {V V' : World} {m : Nat} {L : List Nat} {f : Nat → Ent} {n : Nat} (h : TabM V m f n) (k : Kept L V V') (hL : ∀ x ∈ L, ∃ c t z, V.heap[x]? = some (.cells c t z) ∧ t ≠ 72 ∧ t ≠ 2 ∧ t ≠ 3) : TabM V' m f n := by
  obtain ⟨b, hb, he⟩ := h.ex
  have no : ∀ (x : Nat) (c : Array Value) (t : TypeId) (z : Nat × Nat), V.heap[x]? = some (.cells c t z) → (t = 72 ∨ t = 2 ∨ t = 3) → x ∉ L := fun x c t z hx ht hm => by
    obtain ⟨c', t', z', h1, h2, h3, h4⟩ := hL x hm
    rw [hx] at h1
    obtain ⟨_, rfl, _⟩ : c = c' ∧ t = t' ∧ z = z' := by simpa using h1
    rcases ht with rfl | rfl | rfl
    · exact h2 rfl
    · exact h3 rfl
    · exact h4 rfl
  refine ⟨b, (k.block m (Array.getElem?_eq_some_iff.1 hb).1 (fun hm => ?_)).trans hb, fun i hi => ?_⟩
  · obtain ⟨c', t', z', h1, _⟩ := hL m hm
    rw [hb] at h1
    cases h1
  · obtain ⟨q, r, h1, h2, h3⟩ := he i hi
    exact ⟨q, r, (k.block _ (Array.getElem?_eq_some_iff.1 h1).1 (no _ _ _ _ h1 (by simp))).trans h1, (k.block _ (Array.getElem?_eq_some_iff.1 h2).1 (no _ _ _ _ h2 (by simp))).trans h2, (k.block _ (Array.getElem?_eq_some_iff.1 h3).1 (no _ _ _ _ h3 (by simp))).trans h3⟩

/-- What the closure is handed. -/
structure Room (w : World) (xb nb hb ob rb er xt m : Nat) (T : ByteArray) (f : Nat → Ent) (n j0 : Nat) : Prop where
  x : w.cell? ⟨xb, 0, none⟩ = some (.pointer (some ⟨xt, 0, none⟩))
  t : w.cell? ⟨nb, 0, none⟩ = some (.string T)
  o : w.cell? ⟨ob, 0, none⟩ = some (.int .i64 0)
  r : w.heap[rb]? = some (.cells #[.string ⟨#[]⟩] 9 (0, 0))
  e : w.heap[er]? = some (.cells #[.nilIface] 53 (0, 0))
  ne : rb ≠ er
  xt : w.cell? ⟨xt, 0, none⟩ = some (.map (some m))
  tab : TabM w m f 0
  head : Head22 w hb f n 0 j0
structure CloIs (w w' : World) (m rb er : Nat) (f : Nat → Ent) (n : Nat) : Prop where
  tab : TabM w' m f n
  kept : Kept [m, rb, er] w w'
  ret : w'.heap[rb]? = some (.cells #[.string (str trl)] 9 (0, 0))
  err : w'.cell? ⟨er, 0, none⟩ = some .nilIface

set_option maxHeartbeats 4000000 in
set_option maxRecDepth 100000 in
theorem clos12 (xb nb hb ob rb er xt m : Nat) (T : ByteArray) (f : Nat → Ent) (n z j0 : Nat) (w : World) (h : Told f n z j0 T) (hr : Room w xb nb hb ob rb er xt m T f n j0) :
    Calls Tryz.prog 12 #[.pointer (some ⟨xb, 0, none⟩), .pointer (some ⟨nb, 0, none⟩), .pointer (some ⟨hb, 0, none⟩), .pointer (some ⟨ob, 0, none⟩), .pointer (some ⟨rb, 0, none⟩), .pointer (some ⟨er, 0, none⟩)] w fun e w' => e = .returned (.tuple #[]) ∧ CloIs w w' m rb er f n := by
  have kd : Kept [] w w.drew := (Kept.refl _ _).drew
  have H13 : Hid (Calls Tryz.prog 13 #[.pointer (some ⟨xt, 0, none⟩), .string T, .slice (some ⟨hb, 0, none⟩) 2 2, .int .i64 0, .int .i64 0] w.drew fun e w' => e = .returned (.tuple #[.string (str trl), .nilIface]) ∧ Sub13 w m f n w') := Lib.hid (by
    refine (sub13 xt m T f n z j0 hb 2 w.drew h (kd.cell hr.xt (by simp)) (hr.tab.keep (KeepT.of_kept kd)) ⟨hr.head.kj, hr.head.jn, hr.head.run, kd.cell hr.head.c0 (by simp), kd.cell hr.head.c1 (by simp)⟩).mono ?_
    rintro e w' ⟨rfl, h1, h2⟩
    exact ⟨rfl, h1, (kd.mono (by simp)).trans h2⟩)
  clear kd
  have x0 := hr.x
  have t0 := hr.t
  have o0 := hr.o
  have hR : Hid (w.heap[rb]? = some (.cells #[.string ⟨#[]⟩] 9 (0, 0)) ∧ w.heap[er]? = some (.cells #[.nilIface] 53 (0, 0)) ∧ rb ≠ er ∧ rb ≠ m ∧ er ≠ m) := Lib.hid ⟨hr.r, hr.e, hr.ne, (by
      intro e
      obtain ⟨b, hm, _⟩ := hr.tab.ex
      have := hr.r
      rw [e, hm] at this
      cases this), (by
      intro e
      obtain ⟨b, hm, _⟩ := hr.tab.ex
      have := hr.e
      rw [e, hm] at this
      cases this)⟩
  clear h hr
  go_enter Tryz.func12, Tryz.ntmps12
  go_wp2_with fail
  go_region_law (first
    | (go_simp; go_at_call 13; refine H13.out.mono ?_; rintro e V ⟨rfl, htV, hkV⟩; (have hrV := (hkV.block rb (Array.getElem?_eq_some_iff.1 hR.out.1).1 (by simpa using hR.out.2.2.2.1)).trans hR.out.1); (have heV := (hkV.block er (Array.getElem?_eq_some_iff.1 hR.out.2.1).1 (by simpa using hR.out.2.2.2.2)).trans hR.out.2.1); (have rc0 := cellsOf hrV 0); (have rf0 := frozenOf hrV 0); (have ec0 := ((Kept.refl [rb] V).setCell (p := ⟨rb, 0, none⟩) (by simp) (.string (str trl))).block er (Array.getElem?_eq_some_iff.1 heV).1 (by simpa using hR.out.2.2.1.symm)); rw [heV] at ec0; (have ef0 := frozenOf ec0 0); (have ec0 := cellsOf ec0 0); (have HX := Lib.hid (And.intro htV (And.intro hkV (And.intro hrV heV)))); clear htV hkV hrV heV)
    | fail)
  all_goals
    go_end0
    obtain ⟨htV, hkV, hrV, heV⟩ := HX.out
    have kS : Kept [rb, er] V ((V.setCell ⟨rb, 0, none⟩ (.string (str trl))).setCell ⟨er, 0, none⟩ .nilIface) := ((Kept.refl _ _).setCell (by simp) _).setCell (by simp) _
    refine ⟨rfl, htV.kept_blk kS ?_, (hkV.mono (by simp)).trans (kS.mono (by simp)), ?_, ?_⟩
    · intro x hx
      simp only [List.mem_cons, List.not_mem_nil, or_false] at hx
      rcases hx with rfl | rfl
      · exact ⟨_, _, _, hrV, by decide, by decide, by decide⟩
      · exact ⟨_, _, _, heV, by decide, by decide, by decide⟩
    · rw [Go.Deep.blk_setCell_other _ _ _ _ hR.out.2.2.1, heap_set hrV 0 _]
      rfl
    · have hb2 := ((Kept.refl [rb] V).setCell (p := ⟨rb, 0, none⟩) (by simp) (.string (str trl))).block er (Array.getElem?_eq_some_iff.1 heV).1 (by simpa using hR.out.2.2.1.symm)
      rw [heV] at hb2
      rw [cellsOf (heap_set hb2 0 _)]
      rfl
end Go.Proofs.YtoaedibfgegilaaGreatDoor.st
