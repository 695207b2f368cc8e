/-
  impl.entries: the table told in the order of its numbers.
-/
import Derived.Test.YtoaedibfgegilaaGreatDoorSen
namespace Go.Proofs.YtoaedibfgegilaaGreatDoor.st
open Go.RowKit Go.MapKept Go.ChangeMaps
set_option linter.unusedVariables false
set_option linter.unusedSimpArgs false

structure SortE (w w' : World) (B Bs : Nat) (v : Value) (L : List Ent) : Prop where
  bel : Bel B [] w w'
  ents : EntsV w' v L.length (fun i => L.getD i default)
  cell : w'.cell? ⟨Bs, 0, none⟩ = some v
/-- What is needed of sort.Slice. -/
def Sort25 : Prop := ∀ (B Bs : Nat) (v : Value) (d L : List Ent) (w : World), d.length ≤ 1000000 → w.ownsRow B 32 9 v d.length (flatE d) → w.cell? ⟨Bs, 0, none⟩ = some v → Bs < B → B ≤ w.heap.size → L.Perm d → (L.Pairwise fun x y => x.num < y.num) →
  Calls Tryz.prog 25 #[.iface 22 v, .func (.func 26) #[] #[.pointer (some ⟨Bs, 0, none⟩)]] w fun e w' => e = .returned (.tuple #[]) ∧ SortE w w' B Bs v L

def outE (f : Nat → Ent) (J : List Nat) : List Ent := J.map fun i => norm (f i)
/-- How far the range is. -/
structure NSt (w wr : World) (m : Nat) (f : Nat → Ent) (b : Nat → Nat) (n : Nat) (J : List Nat) (v : Value) (seen : Array Nat) : Prop where
  box : wr.heap[w.heap.size]? = some (.cells #[v] 22 (0, 0))
  it : wr.heap[w.heap.size + 1]? = some (.mapIter (some m) n seen n)
  own : wr.ownsRow (w.heap.size + 2) 32 9 v (outE f J).length (flatE (outE f J))
  below : Below w.heap.size w wr
  perm : (J ++ (leftOf (tabE f b n) seen).toList.map (·.born)).Perm (List.range n)
  size : w.heap.size + 2 ≤ wr.heap.size

theorem tab_nodup (f : Nat → Ent) (b : Nat → Nat) (n : Nat) : ((tabE f b n).toList.map (·.born)).Nodup := by
  have : (tabE f b n).toList.map (·.born) = List.range n := by
    simp [tabE, List.map_map, Function.comp_def]
  rw [this]
  exact List.nodup_range
theorem tab_old (f : Nat → Ent) (b : Nat → Nat) (n : Nat) : ∀ x ∈ (tabE f b n).toList, x.born < n := fun x hx => by
  obtain ⟨i, hi, rfl⟩ := tabE_mem hx
  exact hi
theorem left_mem {es : Array MapEntry} {seen : Array Nat} {e : MapEntry} (h : e ∈ (leftOf es seen).toList) : e ∈ es.toList := by
  simp [leftOf] at h
  simpa using h.1

def EntriesE (w : World) (n : Nat) (f : Nat → Ent) (e : Ending) (w' : World) : Prop := ∃ v, e = .returned v ∧ EntsV w' v n (fun i => norm (f i)) ∧ Below w.heap.size w w'

/-- The step of the range, told. -/
theorem NSt.next {w wr : World} {m : Nat} {f : Nat → Ent} {b : Nat → Nat} {n : Nat} {J : List Nat} {v : Value} {seen : Array Nat} (h : NSt w wr m f b n J v seen) (hm : w.heap[m]? = some (.map (tabE f b n) n)) (he : ∀ i, i < n → EntAt w (b i) (f i)) (ty : TypeId) :
    ((leftOf (tabE f b n) seen).size = 0 ∧ J.Perm (List.range n) ∧ (Instr.next (.pointer (some ⟨w.heap.size + 1, 0, none⟩)) false ty).run Tryz.prog wr = .ok (.tuple #[.bool false]) wr) ∨
    ∃ j W, j < n ∧ (Instr.next (.pointer (some ⟨w.heap.size + 1, 0, none⟩)) false ty).run Tryz.prog wr = .ok (.tuple #[.bool true, .int .i64 (f j).num, .pointer (some ⟨b j, 0, none⟩)]) W ∧
      (Instr.entry (.pointer (some ⟨w.heap.size + 1, 0, none⟩))).run Tryz.prog W = .ok (.tuple #[.int .i64 (f j).num, .pointer (some ⟨b j, 0, none⟩)]) W ∧ EntAt W (b j) (f j) ∧ b j < w.heap.size ∧
      W.heap[w.heap.size]? = some (.cells #[v] 22 (0, 0)) ∧ W.heap[w.heap.size + 1]? = some (.mapIter (some m) n (seen.push j) n) ∧ W.ownsRow (w.heap.size + 2) 32 9 v (outE f J).length (flatE (outE f J)) ∧ Below w.heap.size w W ∧ w.heap.size + 2 ≤ W.heap.size ∧
      ((J ++ [j]) ++ (leftOf (tabE f b n) (seen.push j)).toList.map (·.born)).Perm (List.range n) ∧ (leftOf (tabE f b n) (seen.push j)).size < (leftOf (tabE f b n) seen).size := by
  have hmr : wr.heap[m]? = some (.map (tabE f b n) n) := (h.below.block m (Array.getElem?_eq_some_iff.1 hm).1).trans hm
  rcases run_next_at (P := Tryz.prog) wr ty (w.heap.size + 1) m n n seen (tabE f b n) n h.it hmr (tab_old f b n) (Nat.le_refl _) with ⟨h1, hrun⟩ | ⟨e, hel, w1, hw1, hrun⟩
  · left
    refine ⟨h1, ?_, hrun⟩
    have hp := h.perm
    have : leftOf (tabE f b n) seen = #[] := Array.eq_empty_of_size_eq_zero h1
    rw [this] at hp
    simpa using hp
  · right
    have hmem := left_mem hel
    have hsh := left_shrinks (tabE f b n) seen e hel
    have hlp := left_perm (tabE f b n) seen e hel (tab_nodup f b n)
    obtain ⟨j, hj, rfl⟩ := tabE_mem hmem
    simp only at hsh hlp hrun
    obtain ⟨W, hW⟩ : ∃ W, setBlock w1 (w.heap.size + 1) (.mapIter (some m) n (seen.push j) n) = W := ⟨_, rfl⟩
    rw [hW] at hrun
    have k1 : Kept [] wr w1 := by
      rcases hw1 with rfl | rfl
      · exact Kept.refl _ _
      · exact (Kept.refl _ _).drew
    have hlt1 : w.heap.size + 1 < w1.heap.size := by have := k1.size; have := h.size; omega
    have kW : Kept [w.heap.size + 1] w1 W := by
      rw [← hW]
      exact ⟨rfl, rfl, rfl, by simp [setBlock], fun k hk hn => by simp [setBlock]; rw [Array.getElem?_setIfInBounds_ne (fun e => hn (by simp [e]))]⟩
    have kk : Kept [w.heap.size + 1] wr W := (k1.mono (by simp)).trans kW
    have hiW : W.heap[w.heap.size + 1]? = some (.mapIter (some m) n (seen.push j) n) := by
      rw [← hW]
      simp [setBlock, hlt1]
    have hb0 := h.size
    have hbW : Below w.heap.size w W := h.below.trans (kk.below (by omega) (by simp))
    have hmW : W.heap[m]? = some (.map (tabE f b n) n) := (hbW.block m (Array.getElem?_eq_some_iff.1 hm).1).trans hm
    have hent := run_entry_at (P := Tryz.prog) W (w.heap.size + 1) m n seen (tabE f b n) n _ hiW hmW hmem (tab_nodup f b n)
    have hbj : b j < w.heap.size := by
      obtain ⟨q, r, hb, _⟩ := he j hj
      exact (Array.getElem?_eq_some_iff.1 hb).1
    refine ⟨j, W, hj, hrun, hent, (he j hj).keep (KeepT.of_kept (Kept.of_below hbW [])), hbj, (kk.block _ (by omega) (by simp)).trans h.box, hiW, own_kept h.own kk (fun g hg => ?_), hbW, by have := kk.size; omega, ?_, hsh⟩
    · have := (own_block h.own g hg).1
      simp
      omega
    · refine List.Perm.trans ?_ h.perm
      rw [List.append_assoc]
      exact (List.Perm.append_left J hlp).symm

/-- The round's last step: the entry appended, told to the box. -/
theorem NSt.app {w W V D : World} {m : Nat} {f : Nat → Ent} {b : Nat → Nat} {n j : Nat} {J : List Nat} {v v' : Value} {seen : Array Nat} (hbox : W.heap[w.heap.size]? = some (.cells #[v] 22 (0, 0))) (hit : W.heap[w.heap.size + 1]? = some (.mapIter (some m) n (seen.push j) n))
    (hb : Below w.heap.size w W) (hsz : w.heap.size + 2 ≤ W.heap.size) (hp : ((J ++ [j]) ++ (leftOf (tabE f b n) (seen.push j)).toList.map (·.born)).Perm (List.range n))
    (hk : Kept [] W V) (hbel : Bel (w.heap.size + 2) [] V D) (hown : D.ownsRow (w.heap.size + 2) 32 9 v' (outE f J ++ [norm (f j)]).length (flatE (outE f J ++ [norm (f j)]))) :
    NSt w (D.setCell ⟨w.heap.size, 0, none⟩ v') m f b n (J ++ [j]) v' (seen.push j) := by
  have hbD : D.heap[w.heap.size]? = some (.cells #[v] 22 (0, 0)) := (hbel.block _ (by omega) (by simp)).trans ((hk.block _ (by omega) (by simp)).trans hbox)
  have hiD : D.heap[w.heap.size + 1]? = some (.mapIter (some m) n (seen.push j) n) := (hbel.block _ (by omega) (by simp)).trans ((hk.block _ (by omega) (by simp)).trans hit)
  have e1 : outE f (J ++ [j]) = outE f J ++ [norm (f j)] := by simp [outE]
  have kS : Kept [w.heap.size] D (D.setCell ⟨w.heap.size, 0, none⟩ v') := (Kept.refl _ _).setCell (by simp) _
  refine ⟨?_, ?_, ?_, ?_, hp, ?_⟩
  · rw [heap_set hbD]
    rfl
  · exact (kS.block _ (Array.getElem?_eq_some_iff.1 hiD).1 (by simp)).trans hiD
  · rw [e1]
    refine own_kept hown kS (fun g hg => ?_)
    have := (own_block hown g hg).1
    simp
    omega
  · exact hb.trans ((hk.below (by omega) (by simp)).trans ((hbel.below' (by omega)).trans (kS.below (by have := hbel.size; have := hk.size; omega) (by simp))))
  · have := hbel.size
    have := hk.size
    simp
    omega

theorem outE_nums {f : Nat → Ent} {n : Nat} (hR : ∀ i j, i < j → j < n → (f i).num < (f j).num) : (outE f (List.range n)).Pairwise fun x y => x.num < y.num := by
  unfold outE
  rw [List.pairwise_map]
  have hnum : ∀ e, (norm e).num = e.num := fun e => by unfold norm; split <;> rfl
  simp only [hnum]
  rw [List.pairwise_iff_getElem]
  intro i j hi hj hij
  simp at hi hj ⊢
  exact hR i j hij hj
theorem outE_get {f : Nat → Ent} {n i : Nat} (hi : i < n) : (outE f (List.range n)).getD i default = norm (f i) := by
  simp [outE, List.getD_eq_getElem?_getD, hi]
theorem outE_length (f : Nat → Ent) (n : Nat) : (outE f (List.range n)).length = n := by simp [outE]
theorem ents_out {w : World} {v : Value} {f : Nat → Ent} {n : Nat} (h : EntsV w v (outE f (List.range n)).length (fun i => (outE f (List.range n)).getD i default)) : EntsV w v n (fun i => norm (f i)) := by
  rw [outE_length] at h
  rcases h with h | ⟨b, o, C, h1, h2, h3, h4⟩
  · exact .inl h
  · refine .inr ⟨b, o, C, h1, h2, h3, fun i hi => ?_⟩
    have h5 := h4 i hi
    simp only [outE_get hi] at h5
    exact h5
theorem run_range {mty : TypeId} {kt et : TypeId} (hu : Tryz.prog.underlying mty = some (.map kt et)) (w : World) (m : Nat) (es : Array MapEntry) (clock : Nat) (h : w.heap[m]? = some (.map es clock)) : (Instr.range mty (.map (some m))).run Tryz.prog w = .ok (.pointer (some ⟨w.heap.size, 0, none⟩)) (w.alloc (.mapIter (some m) clock #[] clock)) := by
  simp [Instr.range, run_underlying hu, MapKept.run_getObj_map h, Result.andThen, newObj, Sem.run]
theorem own_len {w : World} {B e s n len C : Nat} {a : Option Addr} {xs : List Value} (h : n = len) (h2 : w.ownsRow B e s (.slice a n C) n xs) : w.ownsRow B e s (.slice a len C) n xs := by
  subst h
  exact h2
theorem app32V (V w0 : World) (E base : Nat) (v : Value) (d : List Ent) (e : Ent) (k : Nat) (hk : k = w0.heap.size) (hV : Kept [E] V w0) (hE : base ≤ E) (hB : base ≤ V.heap.size) (hown : w0.ownsRow base 32 9 v d.length (flatE d)) (hn : d.length ≤ 1000000) :
    ∃ a C N w', (Builtin.append_ #[22, 22] 22 #[v, .slice (some ⟨k, 0, none⟩) 1 1]).run Tryz.prog (w0.alloc (.cells (entC e) 32)) = .ok (.slice a N C) w' ∧ w'.ownsRow base 32 9 (.slice a N C) (d ++ [e]).length (flatE (d ++ [e])) ∧ Bel base [] V w' := by
  have hb : base ≤ w0.heap.size := Nat.le_trans hB hV.size
  obtain ⟨a, C, w', h1, h2, h3⟩ := app32 w0 base v d e k hk hown hn hb
  refine ⟨a, C, _, w', h1, h2, Bel.trans ?_ h3⟩
  exact ⟨hV.os, hV.tape, hV.output, hV.size, fun k hk _ => hV.block k (by omega) (by simp; omega)⟩

set_option maxHeartbeats 8000000 in
set_option maxRecDepth 100000 in
theorem entries14 (H25 : Sort25) (m : Nat) (f : Nat → Ent) (n : Nat) (w : World) (hn : n ≤ 500) (h : TabM w m f n) (hO : ∀ i, i < n → ¬ (f i).comp = true) (hR : ∀ i j, i < j → j < n → (f i).num < (f j).num) :
    Calls Tryz.prog 14 #[.map (some m)] w fun e w' => EntriesE w n f e w' := by
  obtain ⟨b, hm, he⟩ := h.ex
  have hml : m < w.heap.size := (Array.getElem?_eq_some_iff.1 hm).1
  have hm0 : (w.alloc (.cells #[.slice none 0 0] 22)).heap[m]? = some (.map (tabE f b n) n) := (heap_alloc_old w _ hml).trans hm
  have hrg : (Instr.range 38 (.map (some m))).run Tryz.prog (w.alloc (.cells #[.slice none 0 0] 22)) = .ok (.pointer (some ⟨w.heap.size + 1, 0, none⟩)) ((w.alloc (.cells #[.slice none 0 0] 22)).alloc (.mapIter (some m) n #[] n)) := by
    have := run_range Tryz.underlying38 _ m _ _ hm0
    simpa using this
  have h0 : NSt w ((w.alloc (.cells #[.slice none 0 0] 22)).alloc (.mapIter (some m) n #[] n)) m f b n [] (.slice none 0 0) #[] := by
    refine ⟨?_, ?_, ⟨rfl, .inl ⟨rfl, rfl⟩⟩, ((Below.refl _ _).alloc (Nat.le_refl _) _).alloc (by simp) _, ?_, by simp⟩
    · exact (heap_alloc_old (w.alloc (.cells #[.slice none 0 0] 22)) _ (by simp)).trans (heap_alloc_new w _)
    · have := heap_alloc_new (w.alloc (.cells #[.slice none 0 0] 22)) (.mapIter (some m) n #[] n)
      simpa using this
    · have : leftOf (tabE f b n) #[] = tabE f b n := by simp [leftOf]
      rw [this]
      simp [tabE, List.map_map, Function.comp_def]
  have HS0 := Lib.hid h0
  have HM := Lib.hid hm
  have HE := Lib.hid he
  have HR := Lib.hid hR
  have HO := Lib.hid hO
  have HN := Lib.hid hn
  have HH := Lib.hid H25
  clear hm he hR hO hn h h0 hm0 hml H25
  go_enter Tryz.func14, Tryz.ntmps14
  go_wp2_with fail
  go_loopg [4] (leftOf (tabE f b n) #[]).size (fun gk _ wr => Hid (∃ seen J v, NSt w wr m f b n J v seen ∧ (leftOf (tabE f b n) seen).size = gk))
  case atStart => exact Lib.hid ⟨_, _, _, HS0.out, rfl⟩
  case round =>
    obtain ⟨seen, J, v, hS, hsz⟩ := hrel.out
    have HZ := Lib.hid hsz
    have hJ : J.length ≤ n := by
      have := hS.perm.length_eq
      simp at this
      omega
    have HJ := Lib.hid hJ
    obtain ⟨va, vC, rfl⟩ := own_slice hS.own
    rcases hS.next HM.out HE.out 0 with ⟨_, hp, hrun⟩ | ⟨j, W, hj, hrun, hent, heW, hbj, hbox, hit, hown, hbW, hsW, hpW, hsh⟩
    · have c0 : wr.cell? ⟨w.heap.size, 0, none⟩ = some (.slice va (outE f J).length vC) := cellsOf hS.box 0
      have HC := Lib.hid (HH.out (w.heap.size + 2) w.heap.size _ (outE f J) (outE f (List.range n)) wr (by simp [outE]; have := HN.out; omega) hS.own c0 (by omega) hS.size ((hp.symm.map _)) (outE_nums HR.out))
      have HB := Lib.hid hS.below
      clear hS hp hJ hsz
      obtain ⟨len, hlen⟩ : ∃ len, (outE f J).length = len := ⟨_, rfl⟩
      rw [hlen] at c0 HC
      clear hlen
      go_wp2_with (go_at_call 25; refine HC.out.mono ?_; rintro e w1 ⟨rfl, hE⟩; (have c1 := hE.cell); (have HE2 := Lib.hid hE); clear hE)
      go_ret
      exact ⟨_, rfl, ents_out HE2.out.ents, HB.out.trans (HE2.out.bel.below' (by omega))⟩
    · obtain ⟨q, r, hx, hq, hr⟩ := heW
      have HNX := Lib.hid (And.intro hbox (And.intro hit (And.intro hown (And.intro hbW (And.intro hsW (And.intro hpW hsh))))))
      have ho := HO.out j hj
      obtain ⟨⟨num, fr, cm, off, gen, hf, hg, str, idx⟩, hfj⟩ : ∃ e, f j = e := ⟨_, rfl⟩
      rw [hfj] at hx hq hr ho hrun hent
      have HF := Lib.hid hfj
      have c0 : W.cell? ⟨w.heap.size, 0, none⟩ = some (.slice va (outE f J).length vC) := cellsOf hbox 0
      have hq := cellsOf hq 0
      have hr := cellsOf hr 0
      have hWs : w.heap.size + 2 ≤ W.heap.size := hsW
      obtain ⟨len, hlen⟩ : ∃ len, (outE f J).length = len := ⟨_, rfl⟩
      rw [hlen] at c0
      have HL := Lib.hid hlen
      clear hfj hbox hit hown hbW hsW hpW hsh hlen hS hsz hJ
      obtain rfl : cm = false := by
        cases cm
        · rfl
        · exact absurd rfl ho
      simp only [xC] at hx hq hr
      simp only at hrun hent
      have x0 := cellsOf hx 0
      have x1 := cellsOf hx 1
      have x2 := cellsOf hx 2
      have x6 := cellsOf hx 6
      have x7 := cellsOf hx 7
      have x8 := cellsOf hx 8
      simp at x0 x1 x2 x6 x7 x8
      have HX := Lib.hid hx
      clear hx ho
      have z0 : (W.alloc (.cells #[.int .i64 0, .bool false, .bool false, .int .i64 0, .int .i64 0, .bool false, .bool false, .int .i64 0, .int .i64 0] 32)).cell? ⟨b j, 0, none⟩ = some (.bool fr) := ((Kept.refl [] W).alloc _).cell x0 (by simp)
      have z6 : (W.alloc (.cells #[.int .i64 0, .bool false, .bool false, .int .i64 0, .int .i64 0, .bool false, .bool false, .int .i64 0, .int .i64 0] 32)).cell? ⟨b j, 6, none⟩ = some (.bool false) := ((Kept.refl [] W).alloc _).cell x6 (by simp)
      go_wp2_with fail
      go_region
      obtain ⟨V, hV⟩ : ∃ V, (W.alloc (.cells #[.int .i64 num, .bool fr, .bool false, .int .i64 0, .int .i64 0, .bool false, .bool false, .int .i64 0, .int .i64 0] 32)).drew = V := ⟨_, rfl⟩
      rw [hV]
      have kV : Kept [] W V := by rw [← hV]; exact ((Kept.refl _ _).alloc _).drew
      have hE : V.heap[W.heap.size]? = some (.cells #[.int .i64 num, .bool fr, .bool false, .int .i64 0, .int .i64 0, .bool false, .bool false, .int .i64 0, .int .i64 0] 32 (0, 0)) := by rw [← hV]; exact heap_alloc_new W _
      have hVs : W.heap.size < V.heap.size := by rw [← hV]; simp
      have v0 := kV.cell c0 (by simp)
      have v1 := kV.cell x1 (by simp)
      have v2 := kV.cell x2 (by simp)
      have v7 := kV.cell x7 (by simp)
      have v8 := kV.cell x8 (by simp)
      have vq := kV.cell hq (by simp)
      have vr := kV.cell hr (by simp)
      have hql : q < W.heap.size := World.block_lt_of_cell? _ _ hq
      have hrl : r < W.heap.size := World.block_lt_of_cell? _ _ hr
      have e0 := cellsOf hE 0
      have e1 := cellsOf hE 1
      have e2 := cellsOf hE 2
      have e3 := cellsOf hE 3
      have e4 := cellsOf hE 4
      have e5 := cellsOf hE 5
      have e6 := cellsOf hE 6
      have e7 := cellsOf hE 7
      have e8 := cellsOf hE 8
      simp at e0 e1 e2 e3 e4 e5 e6 e7 e8
      have f3 := frozenOf hE 3
      have f4 := frozenOf hE 4
      have f5 := frozenOf hE 5
      have f6 := frozenOf hE 6
      have f7 := frozenOf hE 7
      have f8 := frozenOf hE 8
      have HV : Hid (Kept [] W V ∧ V.heap[W.heap.size]? = some (.cells #[.int .i64 num, .bool fr, .bool false, .int .i64 0, .int .i64 0, .bool false, .bool false, .int .i64 0, .int .i64 0] 32 (0, 0)) ∧ V.ownsRow (w.heap.size + 2) 32 9 (.slice va (outE f J).length vC) (outE f J).length (flatE (outE f J)) ∧ ∀ g, (Value.slice va (outE f J).length vC).ownBlock = some g → g < W.heap.size) := Lib.hid ⟨kV, hE, own_kept HNX.out.2.2.1 kV (by simp), fun g hg => (own_block HNX.out.2.2.1 g hg).2⟩
      have n1 : b j ≠ W.heap.size := by omega
      have n2 : w.heap.size ≠ W.heap.size := by omega
      have n3 : q ≠ W.heap.size := by omega
      have n4 : r ≠ W.heap.size := by omega
      clear hV kV hE c0 x0 x1 x2 x6 x7 x8 z0 z6 hq hr hrun hent
      go_wp2_with (first | (go_at_call 23; refine (num23 q off _ (Kept.cell (L := [W.heap.size]) (a := V) (by repeat' (with_reducible first | exact Kept.refl _ _ | refine Kept.setCell ?_ (by simp) _)) vq (by simp; omega))).mono ?_; rintro e w1 ⟨rfl, hw⟩; obtain rfl := hw.symm) | (go_at_call 24; refine (num24 r gen _ (Kept.cell (L := [W.heap.size]) (a := V) (by repeat' (with_reducible first | exact Kept.refl _ _ | refine Kept.setCell ?_ (by simp) _)) vr (by simp; omega))).mono ?_; rintro e w1 ⟨rfl, hw⟩; obtain rfl := hw.symm) | (go_at_call 24; refine (num24_no _).mono ?_; rintro e w1 ⟨rfl, hw⟩; obtain rfl := hw.symm) | (at_builtin; refine (app32V V _ W.heap.size (w.heap.size + 2) (.slice va len vC) (outE f J) ⟨num, fr, false, off, gen, true, true, 0, 0⟩ _ (by simp) (by repeat' (with_reducible first | exact Kept.refl _ _ | refine Kept.setCell ?_ (by simp) _)) (by omega) (by omega) (own_len HL.out (own_kept (L := [W.heap.size]) HV.out.2.2.1 (by repeat' (with_reducible first | exact Kept.refl _ _ | refine Kept.setCell ?_ (by simp) _)) (fun g hg => by have := HV.out.2.2.2 g hg; simp; omega))) (by simp [outE]; have := HN.out; have := HJ.out; omega)).elim fun a h1 => h1.elim fun C h2 => h2.elim fun N h3 => h3.elim fun D h => Lib.wpList_append_run _ rfl _ _ 22 22 rfl _ _ rfl rfl _ _ h.1 ?_; refine Hid.out ?_))
      refine Lib.hid ?_
      obtain ⟨hbox, hit, hown, hbW, hsW, hpW, hsh⟩ := HNX.out
      have hbox' : V.heap[w.heap.size]? = some (.cells #[.slice va (outE f J).length vC] 22 (0, 0)) := (HV.out.1.block _ (by omega) (by simp)).trans hbox
      have hbD := (h.2.2.block w.heap.size (by omega) (by simp)).trans hbox'
      have d0 : D.cell? ⟨w.heap.size, 0, none⟩ = some (.slice va (outE f J).length vC) := cellsOf hbD 0
      have fd0 : D.frozen? ⟨w.heap.size, 0, none⟩ = false := frozenOf hbD 0
      have HFIN : Hid (NSt w (D.setCell ⟨w.heap.size, 0, none⟩ (.slice a N C)) m f b n (J ++ [j]) (.slice a N C) (seen.push j)) := Lib.hid (NSt.app hbox hit hbW hsW hpW HV.out.1 h.2.2 (by have h4 := h.2.1; rw [HF.out]; exact h4))
      have HSH := Lib.hid hsh
      obtain ⟨len1, hlen1⟩ : ∃ len1, (outE f J).length = len1 := ⟨_, rfl⟩
      rw [hlen1] at d0
      clear h h1 h2 h3 hbox hit hown hbW hsW hpW hsh hbox' hbD hlen1 e0 e1 e2 e3 e4 e5 e6 e7 e8 f3 f4 f5 f6 f7 f8 v0 v1 v2 v7 v8 vq vr
      go_wp2_with fail
      go_roundg ((leftOf (tabE f b n) (seen.push j)).size)
      case measure => rw [← HZ.out]; exact HSH.out
      case rel => exact Lib.hid ⟨_, _, _, HFIN.out, rfl⟩
end Go.Proofs.YtoaedibfgegilaaGreatDoor.st
