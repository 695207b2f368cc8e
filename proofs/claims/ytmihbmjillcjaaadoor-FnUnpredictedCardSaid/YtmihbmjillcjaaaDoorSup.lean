/-
  spec.Unpredict at PNG's predictors.
-/
import Derived.Test.YtmihbmjillcjaaaDoorSun
import Derived.Deep.LoopGhost
namespace Go.Proofs.YtmihbmjillcjaaaDoor.up
set_option linter.unusedVariables false
set_option linter.unusedSimpArgs false
open Go.RowKit

theorem own_kept {L : List Nat} {w w' : World} {B e : Nat} {v : Value} {n : Nat} {xs : List Value} (h : w.ownsRow B e 1 v n xs) (k : Kept L w w') (hn : ∀ g, v.ownBlock = some g → g ∉ L) : w'.ownsRow B e 1 v n xs := by
  obtain ⟨h1, h2⟩ := h
  refine ⟨h1, ?_⟩
  rcases h2 with h2 | ⟨g, cap, cur, e0, hB, hc, r⟩
  · exact .inl h2
  · exact .inr ⟨g, cap, cur, e0, hB, (k.block g (Array.getElem?_eq_some_iff.1 hc).1 (hn g (by rw [e0]; rfl))).trans hc, r⟩

theorem own_range {w : World} {B e n : Nat} {v : Value} {xs : List Value} (h : w.ownsRow B e 1 v n xs) : ∀ g, v.ownBlock = some g → B ≤ g ∧ g < w.heap.size := by
  intro g hg
  rcases h.2 with ⟨rfl, _⟩ | ⟨g', cap, cur, rfl, hB, hc, r⟩
  · cases hg
  · have : g' = g := Option.some.inj hg
    subst this
    exact ⟨hB, (Array.getElem?_eq_some_iff.1 hc).1⟩

theorem grown_bel {w w' : World} {o : Option Nat} {B : Nat} (h : w.grownBy w' o) (hB : B ≤ w.heap.size) (hn : ∀ g, o = some g → B ≤ g) : Bel B [] w w' :=
  ⟨h.os, h.tape, h.output, h.size, fun k hk _ => h.block k (by omega) (fun e => by have := hn k e.symm; omega)⟩

theorem Bel.below {B B' : Nat} {a b : World} (h : Bel B [] a b) (hB : B' ≤ B) : Below B' a b := ⟨h.os, h.tape, h.output, h.size, fun k hk => h.block k (by omega) (by simp)⟩

theorem own_dataV {w : World} {B n : Nat} {v : Value} {z : Nat → Int} (h : w.ownsRow B 5 1 v n (bs8 n z)) : DataV w v n z := by
  rcases h.2 with ⟨rfl, rfl⟩ | ⟨g, cap, cur, rfl, hB, hc, hn, hm, r⟩
  · exact .inl ⟨rfl, rfl⟩
  · have := own_cells h
    exact .inr ⟨⟨g, 0, none⟩, cap, rfl, hn, hm, this.2.1, fun i hi => by rw [addr_add, Nat.zero_add]; exact this.1 i hi⟩

/-- What lies above row r, at a row of its own. -/
def Abv (w : World) (B size : Nat) (f : Nat → Int) (o ab : Value) : Prop := ∃ (ba M c : Nat) (A : Nat → Value), ab = .slice (some ⟨ba, 0, none⟩) size c ∧ w.rowIs ba 5 M A ∧ size ≤ M ∧ B ≤ ba ∧ (∀ i, i < size → A i = .int .u8 (f i)) ∧ o.ownBlock ≠ some ba

set_option maxHeartbeats 4000000 in
set_option maxRecDepth 100000 in
theorem spec7_png (p : Int) (colors : Nat) (bits : Int) (columns size bpp : Nat) (early : Int) (CF : Cfg p colors columns size bpp 1) (hp1 : p ≠ 1) (hp2 : p ≠ 2) (hbits : bits ∈ [(1 : Int), 2, 4, 8, 16]) (hsz : (bits * colors * columns + 7) / 8 = (size : Int)) (hbpp : (bits * colors + 7) / 8 = (bpp : Int)) (z : Nat → Int) (hz : Bytes z) (N : Nat) (v : Value) (w : World) (hD : DataV w v N z) (hN : N ≤ 100000) :
    Calls Tryd.prog 7 #[v, .agg #[.int .i64 p, .int .i64 colors, .int .i64 bits, .int .i64 columns, .int .i64 early]] w fun e w' => ∃ x s, e = .returned (.tuple #[x, .int .i64 s]) ∧ Hid (Told w w' size bpp 1 z N x s) := by
  have hc1 := CF.c1
  have hc2 := CF.c2
  have hd1 := CF.d1
  have hd2 := CF.d2
  have hb1 := CF.b1
  have hb2 := CF.b2
  have hs1 : 1 ≤ size := Nat.le_trans CF.b1 CF.b2
  have hss := CF.s
  have hA0 : (1 : Int) ≤ (colors : Int) * bits ∧ (colors : Int) * bits ≤ 128 := by
    simp at hbits
    rcases hbits with rfl | rfl | rfl | rfl | rfl <;> constructor <;> omega
  obtain ⟨A0, hA1⟩ : ∃ A0 : Int, (colors : Int) * bits = A0 := ⟨_, rfl⟩
  obtain ⟨B0, hB1⟩ : ∃ B0 : Int, A0 * (columns : Int) = B0 := ⟨_, rfl⟩
  rw [hA1] at hA0
  have hBr : (1 : Int) ≤ B0 ∧ B0 ≤ 128000 := by
    rw [← hB1]
    have h1 : (1 : Int) * 1 ≤ A0 * (columns : Int) := Int.mul_le_mul hA0.1 (by omega) (by omega) (by omega)
    have h2 : A0 * (columns : Int) ≤ 128 * 1000 := Int.mul_le_mul hA0.2 (by omega) (by omega) (by omega)
    omega
  obtain ⟨s0, hs0⟩ : ∃ s0, w.heap.size = s0 := ⟨_, rfl⟩
  obtain ⟨W0, hW0⟩ : ∃ W0, w.alloc (.cells #[.int .i64 p, .int .i64 colors, .int .i64 bits, .int .i64 columns, .int .i64 early] 24) = W0 := ⟨_, rfl⟩
  have k0 : Kept [] w W0 := by rw [← hW0]; exact (Kept.refl _ _).alloc _
  have p0 : W0.cell? ⟨s0, 0, none⟩ = some (.int .i64 p) := by rw [← hW0, ← hs0]; simp [go_sem]
  have p1 : W0.cell? ⟨s0, 1, none⟩ = some (.int .i64 colors) := by rw [← hW0, ← hs0]; simp [go_sem]
  have p2 : W0.cell? ⟨s0, 2, none⟩ = some (.int .i64 bits) := by rw [← hW0, ← hs0]; simp [go_sem]
  have p3 : W0.cell? ⟨s0, 3, none⟩ = some (.int .i64 columns) := by rw [← hW0, ← hs0]; simp [go_sem]
  have p4 : W0.cell? ⟨s0, 4, none⟩ = some (.int .i64 early) := by rw [← hW0, ← hs0]; simp [go_sem]
  have h11 := Lib.hid fun w => bytes11 p colors bits columns early A0 B0 hA1 hB1 hA0.1 hA0.2 hBr.1 hBr.2 w
  have hq1 : (B0 + 7) / 8 = (size : Int) := by rw [← hsz, ← hB1, ← hA1, Int.mul_comm (colors : Int) bits]
  have hq2 : (A0 + 7) / 8 = (bpp : Int) := by rw [← hbpp, ← hA1, Int.mul_comm (colors : Int) bits]
  rw [hq1, hq2] at h11
  obtain ⟨a, C, hv, hCN⟩ : ∃ a C, v = .slice a N C ∧ N ≤ C := by
    rcases hD with ⟨rfl, rfl⟩ | ⟨a, C, rfl, h, _⟩
    · exact ⟨_, _, rfl, Nat.le_refl _⟩
    · exact ⟨_, _, rfl, h⟩
  subst hv
  have K0 := Lib.hid k0
  have HD := Lib.hid hD
  have HS0 := Lib.hid hs0
  have HP := Lib.hid p0
  have HZ := Lib.hid hz
  clear CF hsz hbpp hbits hz hD k0 hA1 hB1 hA0 hBr hq1 hq2
  have hpb1 : (p == 1) = false := by simp [hp1]
  have hpb2 : (p == 2) = false := by simp [hp2]
  clear hp1 hp2
  go_enter Tryd.func7, Tryd.ntmps7
  go_wp2_with (go_at_call 11; refine (h11.out _).mono ?_; rintro e w1 ⟨rfl, hb1⟩; refine Hid.out ?_)
  refine Lib.hid ?_
  have k1 := K0.out.trans (Kept.of_below hb1 [])
  obtain ⟨k1n, hk1n⟩ : ∃ k, w1.heap.size = k := ⟨_, rfl⟩
  obtain ⟨W1, hW1⟩ : ∃ W, w1.alloc (.cells #[] 5) = W := ⟨_, rfl⟩
  have kW1 : Kept [] w W1 := by rw [← hW1]; exact k1.alloc _
  obtain ⟨g, C1, w2, hrun, hown, hk2⟩ := append_copy W1 k1n _ N z (HD.out.kept kW1 (by simp)) hN (by rw [← hW1, ← hk1n]; exact heap_alloc_new w1 _) 22
  have hs01 : s0 < k1n := by have := hb1.size; have := World.block_lt_of_cell? _ _ p0; simp at this; omega
  have kk : Kept [k1n] W0 w2 := by
    refine (((Kept.of_below hb1 [k1n]).trans ?_)).trans hk2
    rw [← hW1]
    exact (Kept.refl _ _).alloc _
  have x0 := kk.cell HP.out (by simp; omega)
  have KW2 : Hid (Kept [k1n] w w2) := Lib.hid ((kW1.mono (by simp)).trans hk2)
  have H01 := Lib.hid hs01
  have hsz2 : s0 + 1 ≤ w2.heap.size := Nat.succ_le_of_lt (World.block_lt_of_cell? _ _ x0)
  clear k1 kW1 hk2 kk hown hb1 p0 p1 p2 p3 p4 hW0 hs0 h11 hs01
  have hcast : ((N % (size + 1) : Nat) : Int) = (N : Int) % ((size : Int) + 1) := by have := Int.natCast_emod N (size + 1); rw [this]; rfl
  have e3 : IntKind.i64.wrap ((size : Int) + 1) = (size : Int) + 1 := IntWalk.i64_in _ (by omega)
  by_cases hmod : N % (size + 1) = 0
  · have hmi : (N : Int) % ((size : Int) + 1) = 0 := by omega
    have hmk : ∀ w : World, (Instr.makeSlice 22 (.int .i64 (size : Int)) (.int .i64 (size : Int))).run Tryd.prog w = .ok (.slice (some ⟨w.heap.size, 0, none⟩) size size) (w.alloc (.cells (madeCells #[.int .u8 0] size) 5)) := fun w =>
      run_make_row' 22 5 (.int .u8 0) 1 Tryd.underlying22 (by kernel_rfl) rfl .i64 .i64 size (by omega) (by omega) w
    obtain ⟨K, hK⟩ : ∃ K, N / (size + 1) = K := ⟨_, rfl⟩
    have hNK : N = K * (size + 1) := by rw [← hK, Nat.mul_comm]; have := Nat.div_add_mod N (size + 1); omega
    obtain ⟨W3, hW3⟩ : ∃ W, w2.alloc (.cells (madeCells #[.int .u8 0] size) 5) = W := ⟨_, rfl⟩
    have kW3 : Kept [] w2 W3 := by rw [← hW3]; exact (Kept.refl _ _).alloc _
    have hab0 : Abv W3 (s0 + 1) size (ab z 1 size bpp 0) (.slice none 0 0) (.slice (some ⟨w2.heap.size, 0, none⟩) size size) := by
      refine ⟨w2.heap.size, size, size, _, rfl, by rw [← hW3]; exact World.rowIs_made w2 (.int .u8 0) size 5, Nat.le_refl _, hsz2, fun i hi => rfl, fun e => by cases e⟩
    have HAB0 := Lib.hid hab0
    have HKW3 := Lib.hid kW3
    have HNK := Lib.hid (And.intro hNK hK)
    clear hcast hmod hNK hK hab0 kW3
    go_wp2_with (at_builtin; refine Lib.wpList_append_run _ rfl _ _ 22 22 rfl _ _ rfl rfl _ _ hrun ?_)
    have HSZ2 := Lib.hid hsz2
    clear hsz2 hW3 hmi
    try rw [hpb1, hpb2]
    clear hpb1 hpb2
    go_loopg [8, 10, 11, 12] K (fun gk o ab1 i _ wr => ∃ r : Nat, gk = K - r ∧ r ≤ K ∧ i = .int .i64 ((r * (size + 1) : Nat) : Int) ∧ Hid (wr.ownsRow (s0 + 1) 5 1 o (r * size) (bs8 (r * size) (outF z 1 size bpp K))) ∧ Hid (Abv wr (s0 + 1) size (ab z 1 size bpp r) o ab1) ∧ Hid (Bel (s0 + 1) [] w2 wr) ∧ Hid (∀ r', r' < r → Tag (tg z 1 size r')))
    case atStart => exact ⟨0, by omega, by omega, by rw [Nat.zero_mul]; rfl, Lib.hid (by rw [Nat.zero_mul]; exact ⟨rfl, .inl ⟨rfl, rfl⟩⟩), HAB0, Lib.hid (Bel.of_kept HKW3.out HSZ2.out), Lib.hid fun r' h => by omega⟩
    case round =>
      obtain ⟨r, rfl, hr, rfl, HO, HAB, HB, HT⟩ := hrel
      by_cases hlt : r < K
      · obtain ⟨P, hP⟩ : ∃ P, r * (size + 1) = P := ⟨_, rfl⟩
        have hPN : P + (size + 1) ≤ N := by rw [← hP, HNK.out.1, ← Nat.succ_mul]; exact Nat.mul_le_mul_right (size + 1) hlt
        have hrP : r * size ≤ P := by rw [← hP]; exact Nat.mul_le_mul_left r (by omega)
        obtain ⟨db, o1, C', hv, hNC, hCm, hdb, hcells⟩ := data_addr HD.out (by omega)
        obtain ⟨rfl, rfl⟩ : a = some ⟨db, o1, none⟩ ∧ C = C' := by simpa using hv
        have hbb : s0 + 1 ≤ wr.heap.size := Nat.le_trans HSZ2.out HB.out.size
        have hdn : db < s0 := by rw [HS0.out] at hdb; exact hdb
        have hcw : ∀ i, i < N → wr.cell? ⟨db, o1 + i, none⟩ = some (.int .u8 (z i)) := fun i hi =>
          HB.out.cell (KW2.out.cell (hcells i hi) (by have := H01.out; simp; omega)) (by show db < s0 + 1; omega) (by simp)
        obtain ⟨k4, hk4⟩ : ∃ k, wr.heap.size = k := ⟨_, rfl⟩
        obtain ⟨W4, hW4⟩ : ∃ W, wr.alloc (.cells #[] 5) = W := ⟨_, rfl⟩
        have kW4 : Kept [] wr W4 := by rw [← hW4]; exact (Kept.refl _ _).alloc _
        have hD4 : DataV W4 (.slice (some ⟨db, o1 + (P + 1), none⟩) size (C - (P + 1))) size (raw z 1 size r) :=
          .inr ⟨_, _, rfl, by omega, by omega, by have := kW4.size; show db < _; omega, fun i hi => by
            rw [addr_add, Nat.add_assoc]
            refine kW4.cell (by rw [hcw _ (by omega)]; unfold raw; rw [hP]) (by simp)⟩
        obtain ⟨g4, C4, w5, hrun4, hown4, hk5⟩ := append_copy W4 k4 _ size _ hD4 hss (by rw [← hW4, ← hk4]; exact heap_alloc_new wr _) 22
        obtain ⟨F, hF1, hsC, _, hg4, hF2⟩ := own_row hown4
        have k5 : Kept [k4] wr w5 := (kW4.mono (by simp)).trans hk5
        obtain ⟨ba, M, c, A, rfl, hA1, hA2, hA3, hA4, hA5⟩ := HAB.out
        have hbk : ba < k4 := by rw [← hk4]; exact hA1.lt
        have dc : w5.cell? ⟨db, o1 + P, none⟩ = some (.int .u8 (z P)) := k5.cell (hcw P (by omega)) (by simp; omega)
        have hraw : Bytes (raw z 1 size r) := ⟨fun i => HZ.out.lo _, fun i => HZ.out.hi _⟩
        have habv : Bytes (ab z 1 size bpp r) := ⟨fun i => ab_ge .., fun i => ab_le ..⟩
        have htg : tg z 1 size r = z P := by rw [← hP]; simp [tg]
        have zl := HZ.out.lo P
        have zh := HZ.out.hi P
        have hA6 : w5.rowIs ba 5 M A := k5.row hA1 (by simp; omega)
        have HK5 := Lib.hid k5
        have HF1 := Lib.hid hF1
        have HF2 := Lib.hid hF2
        have HG4 := Lib.hid (And.intro hg4 (And.intro hk4 hbb))
        have e1 : IntKind.i64.wrap ((P : Int) + 1) = ((P + 1 : Nat) : Int) := by rw [IntWalk.i64_in _ (by omega)]; omega
        have e2 : IntKind.i64.wrap (((P + 1 : Nat) : Int) + (size : Int)) = ((P + 1 + size : Nat) : Int) := by rw [IntWalk.i64_in _ (by omega)]; omega
        have e4 : IntKind.i64.wrap ((P : Int) + ((size : Int) + 1)) = ((P + (size + 1) : Nat) : Int) := by rw [IntWalk.i64_in _ (by omega)]; omega
        have hlti : (P : Int) < (N : Int) := by omega
        have hl1 : P + 1 + size ≤ C := by omega
        have hl2 : P + 1 + size - (P + 1) = size := by omega
        have hnn : ba ≠ g4 := by omega
        have hrun4b : (Builtin.append_ #[22, 22] 22 #[.slice (some ⟨k4, 0, none⟩) 0 0, .slice (some ⟨db, o1 + (P + 1), none⟩) (P + 1 + size - (P + 1)) (C - (P + 1))]).run Tryd.prog W4 = .ok (.slice (some ⟨g4, 0, none⟩) size C4) w5 := by rw [hl2]; exact hrun4
        have hO6 : ∀ w6, Kept [g4] w5 w6 → w6.ownsRow (s0 + 1) 5 1 u8 (r * size) (bs8 (r * size) (outF z 1 size bpp K)) := fun w6 hk6 => by
          refine own_kept HO.out ((k5.mono (L' := [k4, g4]) (by simp)).trans (hk6.mono (by simp))) (fun g h => ?_)
          have := (own_range HO.out g h).2
          simp
          omega
        have HO6 := Lib.hid hO6
        have hP2 : (r + 1) * (size + 1) = P + (size + 1) := by rw [Nat.succ_mul, hP]
        have HPP := Lib.hid (And.intro hP hP2)
        have HTG := Lib.hid htg
        by_cases ht : Tag (z P)
        · have h13 := png13 (z P) ht size bpp hb1 hb2 hss _ _ hraw habv g4 ba C4 C4 size c F A M w5 hF1 hsC hF2 hA6 hA2 hA4 (Nat.le_refl _) hnn
          have H13 := Lib.hid h13
          have HTT := Lib.hid ht
          rw [hP]
          clear h13 hA6 hA1 hA2 hA3 hA4 hA5 hF1 hF2 hcw hcells hown4 hk5 hD4 kW4 hO6 htg hraw habv hP hP2 ht k5 hrun4
          go_wp2_with (first | (go_at_call 13; refine H13.out.mono ?_; rintro e w6 ⟨rfl, t1, t2⟩; refine Hid.out ?_) | (at_builtin; refine Lib.wpList_append_run _ rfl _ _ 22 22 rfl _ _ rfl rfl _ _ hrun4b ?_))
          refine Lib.hid ?_
          have hro : pv (z P) bpp (raw z 1 size r) (ab z 1 size bpp r) = ro z 1 size bpp r := by rw [ro_eq, HTG.out]
          rw [hro] at t1
          have h6 := HO6.out w6 t2
          have hsz6 := t2.size
          have hg6 := t1.lt
          obtain ⟨gg, CC, w7, hrun7, hown7, hgr7, halt⟩ := append_more w6 (s0 + 1) u8 (r * size) _ h6 ⟨g4, 0, none⟩ size C4 (ro z 1 size bpp r) (fun j u hj => by
            obtain ⟨hj1, rfl⟩ := bs8_inv hj
            rw [addr_add, t1.cell (by omega)]
            exact congrArg some (at8_in hj1)) hs1 (by omega) (by have := HK5.out.size; have := HG4.out.2.2; omega) 22
          have hfr : ∀ q, u8.ownBlock = some q → s0 + 1 ≤ q ∧ q < k4 := fun q hq => by have := own_range HO.out q hq; rw [HG4.out.2.1] at this; exact this
          have HRO := Lib.hid (show Abv w7 (s0 + 1) size (ab z 1 size bpp (r + 1)) (.slice (some ⟨gg, 0, none⟩) (r * size + size) CC) (.slice (some ⟨g4, 0, none⟩) size C4) from
            ⟨g4, C4, C4, _, rfl, t1.of_block (hgr7.block g4 hg6 (fun e => by have := hfr g4 e.symm; have := HG4.out.1; omega)), hsC, by have := HG4.out; omega, fun i hi => by
              have := at8_in (F := F) (o := 0) (n := size) (f := ro z 1 size bpp r) (i := i) hi
              rw [Nat.zero_add] at this
              exact this, fun e => by
              have e1 : gg = g4 := Option.some.inj e
              rcases halt with h | h
              · have := hfr gg h; have := HG4.out.1; omega
              · omega⟩)
          have HOW := Lib.hid (show w7.ownsRow (s0 + 1) 5 1 (.slice (some ⟨gg, 0, none⟩) (r * size + size) CC) ((r + 1) * size) (bs8 ((r + 1) * size) (outF z 1 size bpp K)) from by
            rw [Nat.succ_mul]
            rw [← bs8_append]
            have : bs8 size (fun i => outF z 1 size bpp K (r * size + i)) = bs8 size (ro z 1 size bpp r) := List.map_congr_left fun i hi => by
              have hi2 := List.mem_range.1 hi
              have hdv : (r * size + i) / size = r := by rw [Nat.mul_comm, Nat.mul_add_div (by omega), Nat.div_eq_of_lt hi2]; rfl
              have hmd : (r * size + i) % size = i := by rw [Nat.mul_comm, Nat.mul_add_mod, Nat.mod_eq_of_lt hi2]
              have hK2 : r * size + i < K * size := by
                have : (r + 1) * size ≤ K * size := Nat.mul_le_mul_right size hlt
                rw [Nat.succ_mul] at this
                omega
              have e := outF_eq z 1 size bpp hs1 K _ hK2
              rw [hdv, hmd] at e
              exact congrArg (Value.int .u8) e
            rw [this]
            exact hown7)
          have HB7 := Lib.hid (show Bel (s0 + 1) [] w2 w7 from by
            have b1 : Below (s0 + 1) wr w5 := HK5.out.below hbb (by simp; omega)
            have b2 : Below (s0 + 1) w5 w6 := t2.below (by have := HK5.out.size; omega) (by have := HG4.out; simp; omega)
            exact ((HB.out.trans (Bel.of_below b1 [])).trans (Bel.of_below b2 [])).trans (grown_bel hgr7 (by have := HK5.out.size; omega) (fun q hq => (hfr q hq).1)))
          clear t1 t2 h6 hsz6 hg6 hown7 hgr7 halt hfr hro H13 HO6
          go_wp2_with (at_builtin; refine Lib.wpList_append_run _ rfl _ _ 22 22 rfl _ _ rfl rfl _ _ hrun7 ?_)
          go_roundg (K - (r + 1))
          case measure => omega
          case rel => exact ⟨r + 1, rfl, hlt, by rw [HPP.out.2]; exact congrArg (Value.int .i64) (by omega), HOW, HRO, HB7, Lib.hid fun r' h => by
            by_cases e : r' = r
            · subst e; rw [HTG.out]; exact HTT.out
            · exact HT.out r' (by omega)⟩
        · have hcr : w5.cell? ⟨g4, 0, none⟩ = some (.int .u8 (raw z 1 size r 0)) := by rw [hF1.cell (by omega), hF2 0 (by omega)]
          have hca : w5.cell? ⟨ba, 0, none⟩ = some (.int .u8 (ab z 1 size bpp r 0)) := by rw [hA6.cell (by omega), hA4 0 (by omega)]
          have h13 := png13_no (z P) ht size bpp hb1 hb2 hss (raw z 1 size r) (ab z 1 size bpp r) g4 ba C4 size c w5 hcr hca (Nat.le_refl _)
          have H13 := Lib.hid h13
          have HBEL := Lib.hid (show Below s0 w w5 from (KW2.out.below (B := s0) (by rw [HS0.out]; exact Nat.le_refl _) (by have := H01.out; simp; omega)).trans ((HB.out.below (by omega)).trans (k5.below (by omega) (by simp; omega))))
          rw [hP]
          clear h13 hA6 hA1 hA2 hA3 hA4 hA5 hF1 hF2 hcw hcells hown4 hk5 hD4 kW4 hO6 htg hraw habv hP hP2 ht k5 hrun4 hcr hca
          go_wp2_with (first | (go_at_call 13; refine H13.out.mono ?_; rintro e w6 ⟨rfl, rfl⟩) | (at_builtin; refine Lib.wpList_append_run _ rfl _ _ 22 22 rfl _ _ rfl rfl _ _ hrun4b ?_))
          go_ret2
          exact ⟨_, _, rfl, Lib.hid ⟨fun (h : (1 : Int) = 0) => by (cases h), by rw [HS0.out]; exact HBEL.out⟩⟩
      · obtain rfl : r = K := by omega
        have hNr : r * (size + 1) = N := HNK.out.1.symm
        have hlti : ¬ ((r * (size + 1) : Nat) : Int) < (N : Int) := by omega
        have HRN := Lib.hid hNr
        clear hNr
        go_wp2_with fail
        go_ret2
        have hKd : N / (size + 1) = r := HNK.out.2
        refine ⟨_, _, rfl, Lib.hid ⟨fun _ => ⟨?_, fun r' h => ⟨fun _ => HT.out r' (by omega), fun h => by omega⟩, ?_⟩, ?_⟩⟩
        · rw [HNK.out.1]; exact Nat.mul_mod_left _ _
        · rw [hKd]; exact own_dataV HO.out
        · rw [HS0.out]; exact (KW2.out.below (B := s0) (by rw [HS0.out]; exact Nat.le_refl _) (by have := H01.out; simp; omega)).trans (HB.out.below (by omega))
  · have hmi : ¬ (N : Int) % ((size : Int) + 1) = 0 := by omega
    clear hcast
    go_wp2_with (at_builtin; refine Lib.wpList_append_run _ rfl _ _ 22 22 rfl _ _ rfl rfl _ _ hrun ?_)
    go_ret2
    exact ⟨_, _, rfl, Lib.hid ⟨fun (h : (2 : Int) = 0) => by (cases h), KW2.out.below (Nat.le_refl _) (by rw [HS0.out]; simp; exact Nat.le_of_lt H01.out)⟩⟩
end Go.Proofs.YtmihbmjillcjaaaDoor.up
