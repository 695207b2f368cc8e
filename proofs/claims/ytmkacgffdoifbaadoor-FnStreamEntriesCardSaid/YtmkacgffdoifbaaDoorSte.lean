/-
  impl.StreamEntries.
-/
import Derived.Test.YtmkacgffdoifbaaDoorRgs
import Derived.Deep.CutRange
import Derived.Deep.RegionHeld3
namespace Go.Proofs.YtmkacgffdoifbaaDoor.se
open Go.RowKit Go.MapKept Go.ChangeMaps
set_option linter.unusedVariables false
set_option linter.unusedSimpArgs false

def StrE (w : World) (f : Nat → Ent) (n : Nat) (e : Ending) (w' : World) : Prop :=
  ∃ (gv sv : Value) (K : List Int), e = .returned (.tuple #[gv, sv, .bool true]) ∧ EntsV w' gv n (fun i => norm (f i)) ∧ IntsV w' sv K.length (fun i => K.getD i 0) ∧ (∀ x ∈ K, x ∈ streams f n) ∧ (∀ x ∈ streams f n, x ∈ K) ∧ K.length ≤ 500 ∧ Below w.heap.size w w'

/-- Behind the second statement: the reader's own struct. -/
structure Xsd (V U : World) (xv : Nat) (w0 w1 w2 : Nat) (f : Nat → Ent) (n : Nat) (xsd : Nat) (objs : Value) : Prop where
  kept : Kept [] V U
  x : U.cell? ⟨xv, 0, none⟩ = some (.pointer (some ⟨xsd, 0, none⟩))
  ob : U.cell? ⟨xsd, 10, none⟩ = some objs
  a0 : U.cell? ⟨xsd, 11, none⟩ = some (.int .i64 (w0 : Int))
  a1 : U.cell? ⟨xsd, 12, none⟩ = some (.int .i64 (w1 : Int))
  a2 : U.cell? ⟨xsd, 13, none⟩ = some (.int .i64 (w2 : Int))
  ints : IntsV U objs n fun i => (f i).num

theorem cell_far {w : World} {p q : Addr} (v : Value) (h : p.block ≠ q.block) : (w.setCell p v).cell? q = w.cell? q := World.cell?_of_block (Go.Deep.blk_setCell_other _ _ _ _ (Ne.symm h))

set_option maxHeartbeats 8000000 in
set_option maxRecDepth 100000 in
theorem stream5 (Bo Bd : Nat) (oa : Option Addr) (oC : Nat) (da : Option Addr) (dn dC : Nat) (w0 w1 w2 : Nat) (f : Nat → Ent) (n : Nat) (w : World) (hn : n ≤ 500) (h0 : w0 ≤ 2) (h1 : 1 ≤ w1) (h1' : w1 ≤ 6) (h2 : w2 ≤ 3)
    (hO : w.ownsRow Bo 3 1 (.slice oa n oC) (nums f n).length (iv (nums f n))) (hD : w.ownsRow Bd 5 1 (.slice da dn dC) (dataB w0 w1 w2 f n).length (bv (dataB w0 w1 w2 f n))) (hF : ∀ i, i < n → Fits (f i) w0 w1 w2) (hR : ∀ i j, i < j → j < n → (f i).num < (f j).num) :
    Calls Tryd.prog 5 #[.slice oa n oC, .agg #[.int .i64 (w0 : Int), .int .i64 (w1 : Int), .int .i64 (w2 : Int)], .slice da dn dC, .int .i64 0] w fun e w' => StrE w f n e w' := by
  have hmm := @run_makeMap Tryd.prog
  have hmf : ∀ (fn : Fn) (first cap : Array Value) (w : World), (Instr.makeFunc fn first cap).run Tryd.prog w = .ok (.func fn first cap) w := fun _ _ _ _ => rfl
  have HN := Lib.hid (And.intro hn (And.intro h0 (And.intro h1 (And.intro h1' h2))))
  have HO := Lib.hid hO
  have HD := Lib.hid hD
  have HF := Lib.hid hF
  have HR := Lib.hid hR
  clear hn h0 h1 h1' h2 hO hD hF hR
  go_enter Tryd.func5, Tryd.ntmps5
  go_wp2_with fail
  obtain ⟨V, hV⟩ : ∃ V, boxW w w0 w1 w2 da dn dC = V := ⟨_, rfl⟩
  have HB := Lib.hid (boxed w w0 w1 w2 da dn dC)
  rw [hV] at HB
  unfold boxW at hV
  rw [hV]
  clear hV
  have b0 : V.cell? ⟨w.heap.size, 0, none⟩ = some (.int .i64 (w0 : Int)) := cellsOf HB.out.b0 0
  have b1 : V.cell? ⟨w.heap.size, 1, none⟩ = some (.int .i64 (w1 : Int)) := cellsOf HB.out.b0 1
  have b2 : V.cell? ⟨w.heap.size, 2, none⟩ = some (.int .i64 (w2 : Int)) := cellsOf HB.out.b0 2
  have hlen : (nums f n).length ≤ 1000000 := by rw [nums_length]; have := HN.out; omega
  have app : ∀ U k, Kept [] V U → U.heap[k]? = some (.cells #[] 3 (0, 0)) → ∃ (a : Option Addr) (m C : Nat) (w' : World), (Builtin.append_ #[24, 24] 24 #[.slice (some ⟨k, 0, none⟩) 0 0, .slice oa n oC]).run Tryd.prog U = .ok (.slice a m C) w' ∧ IntsV w' (.slice a m C) n (fun i => (f i).num) ∧ Kept [k] U w' := by
    intro U k hk hb
    obtain ⟨a, m, C, w', h1, h2, h3⟩ := append_ints U k Bo _ _ (own_kept (own_kept HO.out HB.out.kept (by simp)) hk (by simp)) hlen hb 24
    exact ⟨a, m, C, w', h1, nums_of_own h2, h3⟩
  obtain ⟨U1, hU1⟩ : ∃ U, (V.alloc (.cells #[] 3)).drew = U := ⟨_, rfl⟩
  obtain ⟨U0, hU0⟩ : ∃ U, (V.alloc (.cells #[.pointer none] 59)).drew = U := ⟨_, rfl⟩
  obtain ⟨U2, hU2⟩ : ∃ U, U1.alloc (.cells #[.pointer none] 59) = U := ⟨_, rfl⟩
  obtain ⟨U3, hU3⟩ : ∃ U, U0.alloc (.cells #[] 3) = U := ⟨_, rfl⟩
  have z0 : U0.heap.size = V.heap.size + 1 := by rw [← hU0]; simp
  have z1 : U1.heap.size = V.heap.size + 1 := by rw [← hU1]; simp
  have q0 : Kept [] V U0 := by rw [← hU0]; exact ((Kept.refl _ _).alloc _).drew
  have q1 : Kept [] V U1 := by rw [← hU1]; exact ((Kept.refl _ _).alloc _).drew
  have q2 : Kept [] V U2 := by rw [← hU2]; exact q1.alloc _
  have q3 : Kept [] V U3 := by rw [← hU3]; exact q0.alloc _
  have hb1 : U1.heap[V.heap.size]? = some (.cells #[] 3 (0, 0)) := by rw [← hU1]; exact heap_alloc_new V _
  have hs0 : U0.heap[V.heap.size]? = some (.cells #[.pointer none] 59 (0, 0)) := by rw [← hU0]; exact heap_alloc_new V _
  have hs2 : U2.heap[V.heap.size + 1]? = some (.cells #[.pointer none] 59 (0, 0)) := by rw [← hU2]; exact new_at U1 _ _ (by omega)
  have hs3 : U3.heap[V.heap.size]? = some (.cells #[.pointer none] 59 (0, 0)) := by rw [← hU3]; exact (old_at U0 _ _ (by omega)).trans hs0
  obtain ⟨a1, m1, C1, D1, hrun1, hi1, hk1⟩ := app U1 V.heap.size q1 hb1
  obtain ⟨a2, m2, C2, D2, hrun2, hi2, hk2⟩ := app U2 V.heap.size q2 (by rw [← hU2]; exact (old_at U1 _ _ (by omega)).trans hb1)
  obtain ⟨a3, m3, C3, D3, hrun3, hi3, hk3⟩ := app U3 (V.heap.size + 1) q3 (by rw [← hU3]; exact new_at U0 _ _ (by omega))
  go_cut [12] from 23 to 28 (fun x wx => Hid (∃ xv xsd objs, x = .pointer (some ⟨xv, 0, none⟩) ∧ Xsd V wx xv w0 w1 w2 f n xsd objs))
  case first =>
    have k1 : Kept [] V D1 := ((q1.mono (by simp)).trans hk1).cut (by simp)
    have k2 : Kept [] V D2 := ((q2.mono (by simp)).trans hk2).cut (by simp)
    have k3 : Kept [] V D3 := ((q3.mono (by simp)).trans hk3).cut (by simp)
    have ht2 := (hk2.block _ (Array.getElem?_eq_some_iff.1 hs2).1 (by simp)).trans hs2
    have ht3 := (hk3.block _ (Array.getElem?_eq_some_iff.1 hs3).1 (by simp)).trans hs3
    have HH := Lib.hid (And.intro (And.intro hi1 k1) (And.intro (And.intro hi2 (And.intro k2 ht2)) (And.intro hi3 (And.intro k3 ht3))))
    have x2 : D2.cell? ⟨V.heap.size + 1, 0, none⟩ = some (.pointer none) := cellsOf ht2 0
    have x3 : D3.cell? ⟨V.heap.size, 0, none⟩ = some (.pointer none) := cellsOf ht3 0
    have y2 : D2.frozen? ⟨V.heap.size + 1, 0, none⟩ = false := frozenOf ht2 0
    have y3 : D3.frozen? ⟨V.heap.size, 0, none⟩ = false := frozenOf ht3 0
    have l2 : V.heap.size + 1 < D2.heap.size := World.block_lt_of_cell? _ _ x2
    have l3 : V.heap.size < D3.heap.size := World.block_lt_of_cell? _ _ x3
    have n1 : V.heap.size ≠ w.heap.size := by have := HB.out.size; omega
    have n2 : V.heap.size + 1 ≠ w.heap.size := by have := HB.out.size; omega
    have n3 : D1.heap.size ≠ w.heap.size := by have := HB.out.size; have := k1.size; omega
    have n4 : D1.heap.size + 1 ≠ w.heap.size := by have := HB.out.size; have := k1.size; omega
    have u00 := q0.cell b0 (by simp)
    have u01 := q0.cell b1 (by simp)
    have u02 := q0.cell b2 (by simp)
    have u10 := q1.cell b0 (by simp)
    have u11 := q1.cell b1 (by simp)
    have u12 := q1.cell b2 (by simp)
    have u20 := q2.cell b0 (by simp)
    have u21 := q2.cell b1 (by simp)
    have u22 := q2.cell b2 (by simp)
    have u30 := q3.cell b0 (by simp)
    have u31 := q3.cell b1 (by simp)
    have u32 := q3.cell b2 (by simp)
    clear q0 hb1 hs0 hi1 hk1 hi2 hk2 hi3 hk3 q1 q2 q3 hs2 hs3 ht2 ht3
    have p10 := k1.cell b0 (by simp)
    have p11 := k1.cell b1 (by simp)
    have p12 := k1.cell b2 (by simp)
    have p20 := k2.cell b0 (by simp)
    have p21 := k2.cell b1 (by simp)
    have p22 := k2.cell b2 (by simp)
    have p30 := k3.cell b0 (by simp)
    have p31 := k3.cell b1 (by simp)
    have p32 := k3.cell b2 (by simp)
    clear k1 k2 k3
    go_region_held3 (fun w' => w'.cell? ⟨w.heap.size, 0, none⟩ = some (.int .i64 (w0 : Int)) ∧ w'.cell? ⟨w.heap.size, 1, none⟩ = some (.int .i64 (w1 : Int)) ∧ w'.cell? ⟨w.heap.size, 2, none⟩ = some (.int .i64 (w2 : Int)))
      (((try dsimp only); (repeat' apply And.intro) <;> (repeat (with_reducible refine (cell_far _ (by assumption)).trans ?_)) <;> (first | with_reducible assumption | (rw [World.cell?_drew]; with_reducible assumption) | (refine ((Kept.refl [] _).alloc _).cell (by with_reducible assumption) (by simp)) | (refine (((Kept.refl [] _).alloc _).alloc _).cell (by with_reducible assumption) (by simp)) | (refine ((Kept.refl [] _).alloc _).cell ((cell_far _ (by assumption)).trans (by with_reducible assumption)) (by simp)) | (rw [World.cell?_drew]; refine ((Kept.refl [] _).alloc _).cell (by with_reducible assumption) (by simp)) | fail)))
      (first | (refine step_append_run 24 rfl (.tmp 23) (.tmp 24) rfl (.slice (some ⟨V.heap.size, 0, none⟩) 0 0) (.slice oa n oC) (by simp [Act.eval, Act.put]) (by simp [Act.eval, Act.put]) _ _ hrun1 ?_) | (refine step_append_run 24 rfl (.tmp 23) (.tmp 24) rfl (.slice (some ⟨V.heap.size, 0, none⟩) 0 0) (.slice oa n oC) (by simp [Act.eval, Act.put]) (by simp [Act.eval, Act.put]) _ _ hrun2 ?_) | (refine step_append_run 24 rfl (.tmp 23) (.tmp 24) rfl (.slice (some ⟨V.heap.size + 1, 0, none⟩) 0 0) (.slice oa n oC) (by simp [Act.eval, Act.put]) (by simp [Act.eval, Act.put]) _ _ hrun3 ?_) | fail)
    all_goals go_wp2_with fail
    all_goals go_meet
    · obtain ⟨⟨hi1, k1⟩, ⟨hi2, k2, ht2⟩, hi3, k3, ht3⟩ := HH.out
      exact Lib.hid ⟨D1.heap.size + 1, D1.heap.size, _, rfl, ⟨(k1.alloc _).alloc _, (by first | (refine cell_new _ _ _ _ _ ?_; simp; done) | (refine (cell_old _ _ _ (by simp <;> omega)).trans ?_; refine cell_new _ _ _ _ _ ?_; simp; done)), (by first | (refine cell_new _ _ _ _ _ ?_; simp; done) | (refine (cell_old _ _ _ (by simp <;> omega)).trans ?_; refine cell_new _ _ _ _ _ ?_; simp; done)), (by first | (refine cell_new _ _ _ _ _ ?_; simp; done) | (refine (cell_old _ _ _ (by simp <;> omega)).trans ?_; refine cell_new _ _ _ _ _ ?_; simp; done)), (by first | (refine cell_new _ _ _ _ _ ?_; simp; done) | (refine (cell_old _ _ _ (by simp <;> omega)).trans ?_; refine cell_new _ _ _ _ _ ?_; simp; done)), (by first | (refine cell_new _ _ _ _ _ ?_; simp; done) | (refine (cell_old _ _ _ (by simp <;> omega)).trans ?_; refine cell_new _ _ _ _ _ ?_; simp; done)), hi1.kept (((Kept.refl _ _).alloc _).alloc _)⟩⟩
    · obtain ⟨⟨hi1, k1⟩, ⟨hi2, k2, ht2⟩, hi3, k3, ht3⟩ := HH.out
      exact Lib.hid ⟨D1.heap.size, D1.heap.size + 1, _, rfl, ⟨(k1.alloc _).alloc _, (by first | (refine cell_new _ _ _ _ _ ?_; simp; done) | (refine (cell_old _ _ _ (by simp <;> omega)).trans ?_; refine cell_new _ _ _ _ _ ?_; simp; done)), (by first | (refine cell_new _ _ _ _ _ ?_; simp; done) | (refine (cell_old _ _ _ (by simp <;> omega)).trans ?_; refine cell_new _ _ _ _ _ ?_; simp; done)), (by first | (refine cell_new _ _ _ _ _ ?_; simp; done) | (refine (cell_old _ _ _ (by simp <;> omega)).trans ?_; refine cell_new _ _ _ _ _ ?_; simp; done)), (by first | (refine cell_new _ _ _ _ _ ?_; simp; done) | (refine (cell_old _ _ _ (by simp <;> omega)).trans ?_; refine cell_new _ _ _ _ _ ?_; simp; done)), (by first | (refine cell_new _ _ _ _ _ ?_; simp; done) | (refine (cell_old _ _ _ (by simp <;> omega)).trans ?_; refine cell_new _ _ _ _ _ ?_; simp; done)), hi1.kept (((Kept.refl _ _).alloc _).alloc _)⟩⟩
    · obtain ⟨⟨hi1, k1⟩, ⟨hi2, k2, ht2⟩, hi3, k3, ht3⟩ := HH.out
      exact Lib.hid ⟨V.heap.size + 1, D2.heap.size, _, rfl, ⟨(((k2.mono (by simp)).setCell (L := [V.heap.size + 1]) (by simp) _).cut (by simp)).alloc _, (cell_old _ _ _ (by simp; omega)).trans (cellsOf (heap_set ht2 0 _) 0), (by first | (refine cell_new _ _ _ _ _ ?_; simp; done) | (refine (cell_old _ _ _ (by simp <;> omega)).trans ?_; refine cell_new _ _ _ _ _ ?_; simp; done)), (by first | (refine cell_new _ _ _ _ _ ?_; simp; done) | (refine (cell_old _ _ _ (by simp <;> omega)).trans ?_; refine cell_new _ _ _ _ _ ?_; simp; done)), (by first | (refine cell_new _ _ _ _ _ ?_; simp; done) | (refine (cell_old _ _ _ (by simp <;> omega)).trans ?_; refine cell_new _ _ _ _ _ ?_; simp; done)), (by first | (refine cell_new _ _ _ _ _ ?_; simp; done) | (refine (cell_old _ _ _ (by simp <;> omega)).trans ?_; refine cell_new _ _ _ _ _ ?_; simp; done)), (hi2.kept_ptr ht2 ((Kept.refl _ _).setCell (by simp) _)).kept ((Kept.refl _ _).alloc _)⟩⟩
    · obtain ⟨⟨hi1, k1⟩, ⟨hi2, k2, ht2⟩, hi3, k3, ht3⟩ := HH.out
      exact Lib.hid ⟨V.heap.size, D3.heap.size, _, rfl, ⟨(((k3.mono (by simp)).setCell (L := [V.heap.size]) (by simp) _).cut (by simp)).alloc _, (cell_old _ _ _ (by simp; omega)).trans (cellsOf (heap_set ht3 0 _) 0), (by first | (refine cell_new _ _ _ _ _ ?_; simp; done) | (refine (cell_old _ _ _ (by simp <;> omega)).trans ?_; refine cell_new _ _ _ _ _ ?_; simp; done)), (by first | (refine cell_new _ _ _ _ _ ?_; simp; done) | (refine (cell_old _ _ _ (by simp <;> omega)).trans ?_; refine cell_new _ _ _ _ _ ?_; simp; done)), (by first | (refine cell_new _ _ _ _ _ ?_; simp; done) | (refine (cell_old _ _ _ (by simp <;> omega)).trans ?_; refine cell_new _ _ _ _ _ ?_; simp; done)), (by first | (refine cell_new _ _ _ _ _ ?_; simp; done) | (refine (cell_old _ _ _ (by simp <;> omega)).trans ?_; refine cell_new _ _ _ _ _ ?_; simp; done)), (hi3.kept_ptr ht3 ((Kept.refl _ _).setCell (by simp) _)).kept ((Kept.refl _ _).alloc _)⟩⟩
  case rest =>
    obtain ⟨xv, xsd, objs, rfl, hX⟩ := hcut.out
    clear hcut
    have hB := HB.out
    obtain ⟨W, hW⟩ : ∃ W, wc.alloc (.cells #[.nilIface] 67) = W := ⟨_, rfl⟩
    obtain ⟨X, hXX⟩ : ∃ X, W.alloc (.cells #[.bool false] 4) = X := ⟨_, rfl⟩
    obtain ⟨er, her⟩ : ∃ er, wc.heap.size = er := ⟨_, rfl⟩
    have hWs : W.heap.size = er + 1 := by rw [← hW, ← her]; simp
    have hXs : X.heap.size = er + 2 := by rw [← hXX]; simp [hWs]
    have kW : Kept [] wc W := by rw [← hW]; exact (Kept.refl _ _).alloc _
    have kX : Kept [] W X := by rw [← hXX]; exact (Kept.refl _ _).alloc _
    have hers : w.heap.size + 9 ≤ er := by have := hX.kept.size; rw [hB.size] at this; omega
    have kVX : Kept [] V X := (hX.kept.trans kW).trans kX
    have kcX : Kept [] wc X := kW.trans kX
    have hVs := hB.size
    have x1 : X.heap[w.heap.size + 1]? = some (.cells #[.slice da dn dC] 27 (0, 0)) := (kVX.block _ (by omega) (by simp)).trans hB.b1
    have x2 : X.heap[w.heap.size + 1 + 1]? = some (.cells #[.int .i64 0] 2 (0, 0)) := (kVX.block _ (by omega) (by simp)).trans hB.b2
    have x3 := (kVX.block _ (by omega) (by simp)).trans hB.b3
    have x4 := kVX.cell hB.b4 (by simp)
    have x5 := (kVX.block _ (by omega) (by simp)).trans hB.b5
    have x6 := kVX.cell hB.b6 (by simp)
    have x7 := kVX.cell hB.b7 (by simp)
    have x7' := kVX.cell hB.b7' (by simp)
    have x8 := kVX.cell hB.b8 (by simp)
    have xe : X.heap[er]? = some (.cells #[.nilIface] 67 (0, 0)) := (kX.block er (by omega) (by simp)).trans (by rw [← hW]; exact new_at wc _ _ her.symm)
    have xf : X.heap[er + 1]? = some (.cells #[.bool false] 4 (0, 0)) := by rw [← hXX]; exact new_at W _ _ hWs.symm
    have hroom : Room X (w.heap.size + 1) (w.heap.size + 1 + 1) xv (w.heap.size + 1 + 1 + 1 + 1 + 1 + 1 + 1 + 1) er Bd (.slice da dn dC) xsd (w.heap.size + 1 + 1 + 1 + 1 + 1 + 1 + 1) (w.heap.size + 1 + 1 + 1 + 1) (w.heap.size + 1 + 1 + 1 + 1 + 1 + 1) (w.heap.size + 1 + 1 + 1) (w.heap.size + 1 + 1 + 1 + 1 + 1) objs w0 w1 w2 f n :=
      ⟨cellsOf x1 0, own_kept HD.out (hB.kept.trans kVX) (by simp), cellsOf x2 0, kcX.cell hX.x (by simp), x8, xe,
        ⟨kcX.cell hX.ob (by simp), kcX.cell hX.a0 (by simp), kcX.cell hX.a1 (by simp), kcX.cell hX.a2 (by simp), x7, x7', x4, x6, hX.ints.kept kcX⟩,
        ⟨⟨fun _ => 0, by simpa [tabE] using x3, fun i hi => by omega⟩⟩, ⟨⟨_, _, x5, by simp, by simp, by simp, by simp, by simp⟩⟩, by omega⟩
    obtain ⟨q0, q1, q2, q3, q4⟩ := HN.out
    have hcl := clos10 _ _ _ _ _ _ _ _ _ _ _ _ _ _ _ _ _ f n X q0 q1 q2 q3 q4 hroom HF.out HR.out
    have hcalm := calm_ok #[.pointer (some ⟨w.heap.size + 1, 0, none⟩), .pointer (some ⟨w.heap.size + 1 + 1, 0, none⟩), .pointer (some ⟨xv, 0, none⟩), .pointer (some ⟨w.heap.size + 1 + 1 + 1 + 1 + 1 + 1 + 1 + 1, 0, none⟩), .pointer (some ⟨er, 0, none⟩)] W (fun w' => CloIs X w' (w.heap.size + 1 + 1 + 1) (w.heap.size + 1 + 1 + 1 + 1 + 1) er f n)
      (Lib.hid (by
        rw [hXX, hWs]
        refine hcl.mono ?_
        rintro e w' ⟨rfl, hx⟩
        have h3 := (hx.kept.block (er + 1) (by omega) (by simp; omega)).trans xf
        exact ⟨rfl, cellsOf h3 0, frozenOf h3 0, hx⟩))
    have HX := Lib.hid (And.intro x4 (And.intro x6 (And.intro x7 (And.intro x7' (And.intro x8 (And.intro xf (And.intro hers (And.intro hXs (hB.kept.trans kVX)))))))))
    have HC := Lib.hid hcalm
    rw [hWs, ← her, ← hW] at HC
    have HER := Lib.hid her
    clear hroom hcl hcalm x1 x2 x3 x4 x5 x6 x7 x7' x8 xe xf kVX kcX kX kW hX hW hXX hWs hXs hVs hB hers app hlen b0 b1 b2 her
    clear q0 q1 q2 q3 q4
    go_wp2_with (go_at_call 9; refine HC.out.mono ?_; rintro e W1 ⟨rfl, W2, hcx, rfl⟩; refine Hid.out ?_)
    refine Lib.hid ?_
    obtain ⟨x4, x6, x7, x7', x8, xf, hers, hXs, kwX⟩ := HX.out
    have her := HER.out
    rw [her] at hcx
    obtain ⟨U, hU⟩ : ∃ U, W2.setCell ⟨wc.heap.size + 1, 0, none⟩ (.bool true) = U := ⟨_, rfl⟩
    rw [hU, her]
    rw [her] at hU
    have kU : Kept [er + 1] W2 U := by rw [← hU]; exact (Kept.refl _ _).setCell (by simp) _
    have kXU : Kept [w.heap.size + 1 + 1 + 1, w.heap.size + 1 + 1 + 1 + 1 + 1, er, er + 1] X U := (hcx.kept.mono (by simp)).trans (kU.mono (by simp))
    have e4 := kXU.cell x4 (by simp; omega)
    have e6 := kXU.cell x6 (by simp; omega)
    have e7 := kXU.cell x7 (by simp; omega)
    have e7' := kXU.cell x7' (by simp; omega)
    have e8 := kXU.cell x8 (by simp; omega)
    have ee := kU.cell hcx.err (by simp)
    have htab := hcx.tab.kept_blk ((hcx.kept.block (er + 1) (by omega) (by simp; omega)).trans xf) (by simp) (by decide) kU
    have hset := hcx.set.kept kU (by simp; omega)
    obtain ⟨es, clock, hb, h1, h2, h3, h4, h5⟩ := hset.ex
    have hrg := run_range Tryd.underlying48 U (w.heap.size + 1 + 1 + 1 + 1 + 1) es clock hb
    have HSE : Hid (SetEs U (w.heap.size + 1 + 1 + 1 + 1 + 1) (streams f n) es clock) := Lib.hid ⟨hb, h1, h2, h3, h4, h5⟩
    have hUs : w.heap.size + 9 ≤ U.heap.size := by have := kXU.size; omega
    have HT := Lib.hid (And.intro htab hUs)
    have HKW : Hid (Below w.heap.size w U) := Lib.hid ((kwX.below (Nat.le_refl _) (by simp)).trans (kXU.below (by have := kwX.size; omega) (by simp; omega)))
    have HCL := Lib.hid (And.intro e4 (And.intro e7 e8))
    clear x4 x6 x7 x7' x8 xf hers hXs kwX kU kXU htab hset hb h1 h2 h3 h4 h5 hU her hcx hUs HX HER HC
    go_wp2_with fail
    clear ee e6 e7' hrg
    go_loopg [9] (leftOf es #[]).size (fun gk v wr => Hid (∃ seen K, RSt U wr (w.heap.size + 1 + 1 + 1 + 1 + 1) (streams f n) es clock K v seen ∧ (leftOf es seen).size = gk))
    case atStart =>
      exact Lib.hid ⟨#[], [], ⟨heap_alloc_new U _, ⟨rfl, .inl ⟨rfl, rfl⟩⟩, (Kept.refl _ _).alloc _, by simp, fun x hx => .inr (by
        obtain ⟨e, he, hk⟩ := HSE.out.sup x hx
        exact ⟨e, by simpa [leftOf] using he, hk⟩), by
        have : leftOf es #[] = es := by simp [leftOf]
        rw [this]
        simp⟩, rfl⟩
    case round =>
      obtain ⟨seen, K, hS, hsz⟩ := hrel.out
      have HZ := Lib.hid hsz
      have hKl : K.length ≤ 500 := by
        have h1 := hS.cnt
        have h2 := HSE.out.size
        have h3 := streams_length f n
        have := HN.out
        omega
      have hwl : U.heap.size + 1 ≤ wr.heap.size := (Array.getElem?_eq_some_iff.1 hS.it).1
      obtain ⟨va, vC, rfl⟩ := own_slice hS.own
      rcases hS.next HSE.out 0 with ⟨_, hall, hrun⟩ | ⟨j, val, seen', W3, hrun, hent, hsh, kk, hnx⟩
      · have H12 := Lib.hid (ints12_own (U.heap.size + 1) (.slice va K.length vC) K wr hS.own hwl (by omega))
        have HST := Lib.hid (And.intro hS.kept (And.intro hS.sub hall))
        clear hS hall hsz
        go_wp2_with (go_at_call 12; refine H12.out.mono ?_; rintro e V1 ⟨rfl, hb1, l', hp, hI⟩; refine Hid.out ?_)
        refine Lib.hid ?_
        obtain ⟨hk, hsub, hall⟩ := HST.out
        obtain ⟨htab, hUs⟩ := HT.out
        obtain ⟨g4, g7, g8⟩ := HCL.out
        have kV1 : Kept [] U V1 := ⟨hb1.os.trans hk.os, hb1.tape.trans hk.tape, hb1.output.trans hk.output, Nat.le_trans hk.size hb1.size, fun k hk' hn => (hb1.block k (by omega) (by simp)).trans (hk.block k hk' hn)⟩
        have v4 := kV1.cell g4 (by simp)
        have v7 := kV1.cell g7 (by simp)
        have v8 := kV1.cell g8 (by simp)
        have H13 := Lib.hid (entries13 sort20_own (w.heap.size + 1 + 1 + 1) f n V1 HN.out.1 (htab.kept kV1 (fun x hx => by simp at hx) (by simp)) (fun i hi => (HF.out i hi).one) HR.out)
        have HFIN : Hid (IntsV V1 (.slice va K.length vC) l'.length (fun i => l'.getD i 0) ∧ (∀ x ∈ l', x ∈ streams f n) ∧ (∀ x ∈ streams f n, x ∈ l') ∧ l'.length ≤ 500 ∧ Below w.heap.size w V1) := Lib.hid ⟨hI, fun x hx => hsub x (hp.mem_iff.1 hx), fun x hx => hp.mem_iff.2 (hall x hx), by rw [hp.length_eq]; exact hKl, HKW.out.trans (kV1.below HKW.out.size (by simp))⟩
        clear hk hsub hall htab g4 g7 g8 kV1 hp hI hb1 e4 e7 e8
        go_wp2_with (go_at_call 13; refine H13.out.mono ?_; rintro e V2 ⟨gv, rfl, hE, hb2⟩; refine Hid.out ?_)
        refine Lib.hid ?_
        have HE2 := Lib.hid (And.intro hE hb2)
        clear hE hb2 v4 v7 v8
        go_wp2_with fail
        go_ret3
        obtain ⟨f1, f2, f3, f5, f4⟩ := HFIN.out
        exact ⟨gv, _, l', rfl, HE2.out.1, f1.kept (Kept.of_below HE2.out.2 _), f2, f3, f5, f4.trans (HE2.out.2.mono f4.size)⟩
      · have HNX := Lib.hid hnx
        have HSH := Lib.hid hsh
        have HOW := Lib.hid (own_kept hS.own kk (fun g hg => by have := (own_block hS.own g hg).1; simp; omega))
        have hW3 : U.heap.size + 1 ≤ W3.heap.size := by have := kk.size; omega
        clear hS hnx hsh hsz kk
        go_wp2_with (at_builtin; refine (app3N W3 (U.heap.size + 1) (.slice va K.length vC) K j _ (by simp) HOW.out (by omega) hW3).elim fun a h1 => h1.elim fun C h2 => h2.elim fun N h3 => h3.elim fun D h => Lib.wpList_append_run _ rfl _ _ 24 24 rfl _ _ rfl rfl _ _ h.1 ?_; refine Hid.out ?_)
        refine Lib.hid ?_
        have HR2 := Lib.hid (HNX.out D _ h.2.2 h.2.1)
        clear h h1 h2 h3 hrun hent
        go_wp2_with fail
        go_roundg ((leftOf es seen').size)
        case measure => rw [← HZ.out]; exact HSH.out
        case rel => exact Lib.hid ⟨_, _, HR2.out, rfl⟩
end Go.Proofs.YtmkacgffdoifbaaDoor.se
