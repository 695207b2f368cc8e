/-
  laws.FnXRefStream.
-/
import Derived.Test.YtcandemhaddkjaaDoorXrs
import Derived.Deep.OwnRows
import Derived.ChangeKeysEq
namespace Go.Proofs.YtcandemhaddkjaaDoor.xs
open Go.RowKit Go.MapKept Go.ChangeMaps
set_option linter.unusedVariables false
set_option linter.unusedSimpArgs false

theorem cells3 : Tryd.prog.cellsOf 3 = 1 := by kernel_rfl
set_option maxRecDepth 100000 in
theorem neq23 (a b c : Int) (w : World) : (binOp .neq 23 (.agg #[.int .i64 a, .int .i64 b, .int .i64 c]) (.agg #[.int .i64 a, .int .i64 b, .int .i64 c])).run Tryd.prog w = .ok (.bool false) w := by
  obtain ⟨i, hi, hz, hs, hb⟩ := info_parts info3f
  have h3 : ∀ (n : Int) (w : World), (Op.equalIn 9999 3 (.int .i64 n) (.int .i64 n)).run Tryd.prog w = .ok true w := fun n w => by
    have := run_equalIn_int (P := Tryd.prog) w 9998 3 .i64 .i64 n n Tryd.underlying3
    rw [this]
    simp
  have hag : ∀ w : World, (isAgg 3).run Tryd.prog w = .ok false w := fun w => by kernel_rfl
  have hp : ∀ (j : Nat) (v : Value) (w : World), (#[Value.int .i64 a, .int .i64 b, .int .i64 c] : Array Value)[j]? = some v → (part 3 #[Value.int .i64 a, .int .i64 b, .int .i64 c] (j * 1)).run Tryd.prog w = .ok v w := fun j v w hj => by
    unfold part
    rw [Nat.mul_one]
    simp only [Sem.run_bind, hag, Result.andThen, hj]
    simp
  have h4 := run_equalIn_array (P := Tryd.prog) w 9999 #[Value.int .i64 a, .int .i64 b, .int .i64 c] #[Value.int .i64 a, .int .i64 b, .int .i64 c] Tryd.underlying23 hi
  rw [run_neq_struct]
  rw [show (10000 : Nat) = 9999 + 1 from rfl, h4, cells3]
  simp only [show List.range 3 = [0, 1, 2] from rfl, Op.eqItems, Sem.run_bind]
  simp [hp 0 _ _ rfl, hp 1 _ _ rfl, hp 2 _ _ rfl, h3, Result.andThen]

theorem own_at {w : World} {B : Nat} {a : Option Addr} {n C : Nat} {l : List Int} (h : w.ownsRow B 3 1 (.slice a n C) l.length (iv l)) (hne : 0 < l.length) : ∃ g, a = some ⟨g, 0, none⟩ ∧ n = l.length ∧ ∀ i, i < l.length → w.cell? ⟨g, i, none⟩ = some (.int .i64 (l.getD i 0)) := by
  rcases h.2 with ⟨_, e⟩ | ⟨g, cap, cur, e, hB, hc, hn, hm, r⟩
  · omega
  · obtain ⟨rfl, rfl, rfl⟩ : a = some ⟨g, 0, none⟩ ∧ n = l.length ∧ C = cap := by simpa using e
    refine ⟨g, rfl, rfl, fun i hi => ?_⟩
    have := h.cells (g := g) rfl i (.int .i64 (l.getD i 0)) (by simp [iv, hi])
    rwa [addr_add, Nat.zero_add] at this

set_option maxHeartbeats 8000000 in
set_option maxRecDepth 100000 in
theorem law3 (size : Int) (v : Value) (N : Nat) (z : Nat → Int) (a b c prev : Int) (w : World) (hD : IntsV w v N z) :
    Calls Tryd.prog 3 #[.int .i64 size, v, .agg #[.int .i64 a, .int .i64 b, .int .i64 c], .int .i64 prev] w fun e w' => e = .returned (.bool true) ∧ Below w.heap.size w w' := by
  obtain ⟨av, C, rfl⟩ : ∃ a C, v = .slice a N C := by
    rcases hD with ⟨rfl, rfl⟩ | ⟨a, C, rfl, _⟩
    · exact ⟨_, _, rfl⟩
    · exact ⟨_, _, rfl⟩
  have hb0 : Below w.heap.size w (w.alloc (.cells #[.int .i64 a, .int .i64 b, .int .i64 c] 23)) := (Below.refl _ _).alloc (Nat.le_refl _) _
  have HB0 := Lib.hid hb0
  have HD := Lib.hid (hD.kept (Kept.of_below hb0 []))
  clear hD hb0
  by_cases hbig : 2147483647 < N
  · have h1 : (2147483647 : Int) < (N : Int) := by omega
    go_enter Tryd.func3, Tryd.ntmps3
    go_wp2_with fail
    go_ret
    exact ⟨rfl, HB0.out⟩
  have hb1 : ¬ (2147483647 : Int) < (N : Int) := by omega
  have H4 := Lib.hid (sections4 size _ N z _ HD.out (by omega))
  have HX : Hid ((w.alloc (.cells #[.int .i64 a, .int .i64 b, .int .i64 c] 23)).heap[w.heap.size]? = some (.cells #[.int .i64 a, .int .i64 b, .int .i64 c] 23 (0, 0))) := Lib.hid (heap_alloc_new w _)
  go_enter Tryd.func3, Tryd.ntmps3
  go_wp2_with (go_at_call 4; refine H4.out.mono ?_; rintro e w1 ⟨x, is, rfl, hS⟩; refine Hid.out ?_)
  refine Lib.hid ?_
  have hbl : Hid (Below w.heap.size w w1) := Lib.hid (HB0.out.trans (hS.1.mono (by simp)))
  have hx1 := (hS.1.block w.heap.size (by simp)).trans HX.out
  have c0 : w1.cell? ⟨w.heap.size, 0, none⟩ = some (.int .i64 a) := cellsOf hx1 0
  have c1 : w1.cell? ⟨w.heap.size, 1, none⟩ = some (.int .i64 b) := cellsOf hx1 1
  have c2 : w1.cell? ⟨w.heap.size, 2, none⟩ = some (.int .i64 c) := cellsOf hx1 2
  have HD1 := Lib.hid (HD.out.kept (Kept.of_below hS.1 []))
  have HX1 := Lib.hid hx1
  cases is
  · clear hS hx1
    go_wp2_with fail
    go_ret
    exact ⟨rfl, hbl.out⟩
  obtain ⟨s1, s2, K, z', heff, hok, hown⟩ := hS.2 rfl
  clear hS hx1
  have HE := Lib.hid (And.intro heff (And.intro hok hown))
  clear heff hok hown
  by_cases q1 : a < 0
  · go_wp2_with fail
    go_ret
    exact ⟨rfl, hbl.out⟩
  by_cases q2 : 8 < a
  · go_wp2_with fail
    go_ret
    exact ⟨rfl, hbl.out⟩
  by_cases q3 : b < 1
  · go_wp2_with fail
    go_ret
    exact ⟨rfl, hbl.out⟩
  by_cases q4 : 8 < b
  · go_wp2_with fail
    go_ret
    exact ⟨rfl, hbl.out⟩
  by_cases q5 : c < 0
  · go_wp2_with fail
    go_ret
    exact ⟨rfl, hbl.out⟩
  by_cases q6 : 8 < c
  · go_wp2_with fail
    go_ret
    exact ⟨rfl, hbl.out⟩
  by_cases q7 : 2147483647 < prev
  · go_wp2_with fail
    go_ret
    exact ⟨rfl, hbl.out⟩
  obtain ⟨sz, rfl⟩ : ∃ sz : Nat, size = (sz : Int) := ⟨size.toNat, by omega⟩
  obtain ⟨wa, wn, wc, hxv⟩ := own_any HE.out.2.2
  subst hxv
  have hLpos : 0 < (outK z' K).length ∧ (outK z' K).length ≤ 5000 := by
    obtain ⟨heff, hok, _⟩ := HE.out
    have hb := hok.bound (by omega) K (Nat.le_refl _)
    refine ⟨?_, by omega⟩
    rcases heff with ⟨_, rfl, rfl⟩ | ⟨h1, h2, rfl⟩
    · rw [out_z0, runN_length]
      omega
    · obtain ⟨k, rfl⟩ : ∃ k, K = k + 1 := ⟨K - 1, by omega⟩
      have := hok k (by omega)
      simp only [outK, List.length_append, runN_length]
      omega
  obtain ⟨gw, rfl, rfl, hwc⟩ := own_at HE.out.2.2 hLpos.1
  obtain ⟨L, hL⟩ : ∃ L, (outK z' K).length = L := ⟨_, rfl⟩
  rw [hL] at hLpos hwc ⊢
  obtain ⟨ta, rfl⟩ : ∃ t : Nat, a = (t : Int) := ⟨a.toNat, by omega⟩
  obtain ⟨tb, rfl⟩ : ∃ t : Nat, b = (t : Int) := ⟨b.toNat, by omega⟩
  obtain ⟨tc, rfl⟩ : ∃ t : Nat, c = (t : Int) := ⟨c.toNat, by omega⟩
  obtain ⟨M, hM⟩ : ∃ M : Nat, L * (ta + tb + tc) = M := ⟨_, rfl⟩
  have hM1 : M ≤ 5000 * 24 := by rw [← hM]; exact Nat.mul_le_mul hLpos.2 (by omega)
  have hMi : (L : Int) * ((ta : Int) + (tb : Int) + (tc : Int)) = (M : Int) := by rw [← hM]; push_cast; rfl
  have hmk := run_make_row' (P := Tryd.prog) 26 5 (.int .u8 0) 1 Tryd.underlying26 (by kernel_rfl) rfl .i64 .i64 M (by omega) (by omega) w1
  obtain ⟨w2, hw2⟩ : ∃ w2, w1.alloc (.cells (madeCells #[.int .u8 0] M) 5) = w2 := ⟨_, rfl⟩
  rw [hw2] at hmk
  have k2 : Kept [] w1 w2 := by rw [← hw2]; exact (Kept.refl _ _).alloc _
  have hby : BytesV w2 (.slice (some ⟨w1.heap.size, 0, none⟩) M M) M (fun _ => 0) := .inr ⟨_, M, rfl, Nat.le_refl _, by unfold maxLen; omega, fun i hi => by
    have hri := World.rowIs_made w1 (.int .u8 0) M 5
    rw [hw2] at hri
    exact hri.cell hi⟩
  have hN5 : N ≤ 100000 := by
    obtain ⟨heff, hok, _⟩ := HE.out
    have hb := hok.bound (by omega) K (Nat.le_refl _)
    rcases heff with ⟨rfl, _⟩ | ⟨_, h2, _⟩ <;> omega
  have d0 := k2.cell c0 (by simp)
  have d1 := k2.cell c1 (by simp)
  have d2 := k2.cell c2 (by simp)
  have H6 := Lib.hid (xrefDict6 (sz : Int) _ N z ta tb tc prev w2 (HD1.out.kept k2) hN5)
  have HBY := Lib.hid hby
  have HX2 := Lib.hid ((k2.block _ (World.block_lt_of_cell? _ _ c0) (by simp)).trans HX1.out)
  have HBL2 := Lib.hid (hbl.out.trans (k2.below hbl.out.size (by simp)))
  have HK2 := Lib.hid k2
  have HWC := Lib.hid hwc
  have HLL := Lib.hid hL
  have HLP := Lib.hid hLpos
  have HM := Lib.hid hM
  have hw2z : w1.heap.size + 1 ≤ w2.heap.size := by rw [← hw2]; simp
  clear hby hw2 k2 hwc hL hM hN5
  go_wp2_with (go_at_call 6; refine H6.out.mono ?_; rintro e w3 ⟨kv, ov, os, rfl, he1, he2, he3, he4, hb3⟩; refine Hid.out ?_)
  refine Lib.hid ?_
  have k3 := Kept.of_below hb3 []
  obtain ⟨heff, hok, _⟩ := HE.out
  have H5 := Lib.hid (xrefStream5 sz N z ta tb tc prev K z' kv ov os _ M (fun _ => 0) w3 he1 he2 he3 he4 (HBY.out.kept k3) (by omega) heff hok (by omega) (by omega) (by omega) (by omega) (by omega))
  have HX3 := Lib.hid ((k3.block _ (World.block_lt_of_cell? _ _ d0) (by simp)).trans HX2.out)
  have HBL3 := Lib.hid (HBL2.out.trans (hb3.mono HBL2.out.size))
  have HK3 := Lib.hid (HK2.out.trans k3)
  clear he1 he2 he3 he4 hb3 k3 heff hok d0 d1 d2 c0 c1 c2
  go_wp2_with (go_at_call 5; refine H5.out.mono ?_; rintro e w4 ⟨objs, pv, has, rfl, hpv, ho, hb4⟩; refine Hid.out ?_)
  refine Lib.hid ?_
  have k4 := Kept.of_below hb4 []
  obtain ⟨oa, on, oc, rfl⟩ := own_any ho
  obtain ⟨go, rfl, rfl, hoc⟩ := own_at ho (by rw [HLL.out]; exact HLP.out.1)
  rw [HLL.out] at hoc ⊢
  have hx4 := (k4.block _ (Array.getElem?_eq_some_iff.1 HX3.out).1 (by simp)).trans HX3.out
  have c0 : w4.cell? ⟨w.heap.size, 0, none⟩ = some (.int .i64 ta) := cellsOf hx4 0
  have c1 : w4.cell? ⟨w.heap.size, 1, none⟩ = some (.int .i64 tb) := cellsOf hx4 1
  have c2 : w4.cell? ⟨w.heap.size, 2, none⟩ = some (.int .i64 tc) := cellsOf hx4 2
  have HOC := Lib.hid hoc
  have HK4 := Lib.hid (HK3.out.trans k4)
  have HBL4 := Lib.hid (HBL3.out.trans (hb4.mono HBL3.out.size))
  have hwlt : w.heap.size < w4.heap.size := World.block_lt_of_cell? _ _ c0
  have hne := fun W => neq23 (ta : Int) (tb : Int) (tc : Int) W
  clear hx4 hoc ho hb4 k4 hMi hmk hM1
  have HPV := Lib.hid hpv
  rcases hpv with ⟨rfl, hp, rfl⟩ | ⟨rfl, hp, rfl⟩
  · have i2 : decide (0 ≤ pv) = true := by simpa using hp
    go_wp2_with fail
    go_loopw [125] (fun i wr => ∃ k : Nat, i = .int .i64 (k : Int) ∧ k ≤ L ∧ Hid (Kept [] w4 wr)) (fun i _ => L - (intOf i).toNat)
    case atStart => exact ⟨0, rfl, by omega, Lib.hid ((Kept.refl _ _).alloc _)⟩
    case round =>
      obtain ⟨k, rfl, hk, HKR⟩ := hrel
      by_cases hlt : k < L
      · have o1 := HKR.out.cell (HOC.out k hlt) (by simp)
        have o2 := HKR.out.cell (HK4.out.cell (HWC.out k hlt) (by simp)) (by simp)
        have hki : (k : Int) < (L : Int) := by omega
        obtain ⟨y, hy⟩ : ∃ y, (outK z' K).getD k 0 = y := ⟨_, rfl⟩
        rw [hy] at o1 o2
        have hyy : (y != y) = false := by simp
        clear hy
        go_wp2_with fail
        go_quiet (fail)
        go_wp2_with fail
        go_roundw
        case rel => exact ⟨k + 1, by go_num, by omega, Lib.hid (HKR.out.drewN _)⟩
        case measure => simp [intOf]; omega
      · obtain rfl : k = L := by omega
        go_wp2_with fail
        go_ret
        exact ⟨rfl, HBL4.out.trans (HKR.out.below HBL4.out.size (by simp))⟩
  · have i2 : decide (0 ≤ prev) = false := by simpa using hp
    go_wp2_with fail
    go_loopw [125] (fun i wr => ∃ k : Nat, i = .int .i64 (k : Int) ∧ k ≤ L ∧ Hid (Kept [] w4 wr)) (fun i _ => L - (intOf i).toNat)
    case atStart => exact ⟨0, rfl, by omega, Lib.hid ((Kept.refl _ _).alloc _)⟩
    case round =>
      obtain ⟨k, rfl, hk, HKR⟩ := hrel
      by_cases hlt : k < L
      · have o1 := HKR.out.cell (HOC.out k hlt) (by simp)
        have o2 := HKR.out.cell (HK4.out.cell (HWC.out k hlt) (by simp)) (by simp)
        have hki : (k : Int) < (L : Int) := by omega
        obtain ⟨y, hy⟩ : ∃ y, (outK z' K).getD k 0 = y := ⟨_, rfl⟩
        rw [hy] at o1 o2
        have hyy : (y != y) = false := by simp
        clear hy
        go_wp2_with fail
        go_quiet (fail)
        go_wp2_with fail
        go_roundw
        case rel => exact ⟨k + 1, by go_num, by omega, Lib.hid (HKR.out.drewN _)⟩
        case measure => simp [intOf]; omega
      · obtain rfl : k = L := by omega
        go_wp2_with fail
        go_ret
        exact ⟨rfl, HBL4.out.trans (HKR.out.below HBL4.out.size (by simp))⟩
end Go.Proofs.YtcandemhaddkjaaDoor.xs
