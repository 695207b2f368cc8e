/-
  spec.Unpredict.
-/
import Derived.Test.YtmihbmjillcjaaaDoorSpp
import Derived.Deep.LoopGhost
namespace Go.Proofs.YtmihbmjillcjaaaDoor.up
set_option linter.unusedVariables false
set_option linter.unusedSimpArgs false
open Go.RowKit

/-- Where the data reads as z: data[i] and data[i:j]. -/
theorem data_addr {w : World} {v : Value} {N : Nat} {z : Nat → Int} (h : DataV w v N z) (hN : 1 ≤ N) : ∃ db o C, v = .slice (some ⟨db, o, none⟩) N C ∧ N ≤ C ∧ C ≤ maxLen ∧ db < w.heap.size ∧ ∀ i, i < N → w.cell? ⟨db, o + i, none⟩ = some (.int .u8 (z i)) := by
  rcases h with ⟨_, h⟩ | ⟨a, C, rfl, h2, h3, h4, h5⟩
  · omega
  · have h0 := h5 0 (by omega)
    obtain ⟨b, o, s⟩ := a
    have hs : s = none := by
      cases s with
      | none => rfl
      | some x =>
        exfalso
        simp only [Addr.add, if_true] at h0
        unfold World.cell? at h0
        split at h0
        · simp at h0
        · cases h0
    subst hs
    exact ⟨b, o, C, rfl, h2, h3, h4, fun i hi => by have := h5 i hi; rwa [addr_add] at this⟩

/-- An append onto a row of the call's own: into that row, or into a new block. -/
theorem append_more (w : World) (base : Nat) (v : Value) (n : Nat) (xs : List Value) (hown : w.ownsRow base 5 1 v n xs) (ad : Addr) (m c : Nat) (f : Nat → Int) (hc : ∀ j u, (bs8 m f)[j]? = some u → w.cell? (ad.add j) = some u) (hm : 1 ≤ m) (hnm : n + m ≤ 1000000) (hb : base ≤ w.heap.size) (ty : TypeId) :
    ∃ (g C : Nat) (w' : World), (Builtin.append_ #[22, 22] ty #[v, .slice (some ad) m c]).run Tryd.prog w = .ok (.slice (some ⟨g, 0, none⟩) (n + m) C) w' ∧ w'.ownsRow base 5 1 (.slice (some ⟨g, 0, none⟩) (n + m) C) (n + m) (xs ++ bs8 m f) ∧ w.grownBy w' v.ownBlock ∧ (v.ownBlock = some g ∨ g = w.heap.size) := by
  obtain ⟨i5, hi5, hz5, hsz5, hby5⟩ := info_parts info5f
  have hl : (bs8 m f).length = m * 1 := by rw [bs8_length]; omega
  have hl2 : (bs8 m f).length = m * i5.size := by rw [hsz5]; exact hl
  obtain ⟨v', w', hr, ho, hg, _⟩ := run_append_own (P := Tryd.prog) (w := w) base 22 ty 5 i5 (.int .u8 0) 1 1 Tryd.underlying22 hi5 hz5 hsz5 hby5 rfl (by decide) v n xs hown ad m c (bs8 m f) hl hc bs8_one (by unfold maxLen; omega) (by omega) hb
  obtain ⟨g', C', e', hB'⟩ : ∃ g C, v' = .slice (some ⟨g, 0, none⟩) (n + m) C ∧ base ≤ g := by
    rcases ho.2 with ⟨_, h0⟩ | ⟨g, cap, cur, e, hB, _⟩
    · omega
    · exact ⟨g, cap, e, hB⟩
  subst e'
  refine ⟨g', C', w', hr, ho, hg, ?_⟩
  have key : ∀ v2 w2, (Builtin.append_ #[22, 22] ty #[v, .slice (some ad) m c]).run Tryd.prog w = .ok v2 w2 → v2 = .slice (some ⟨g', 0, none⟩) (n + m) C' := fun v2 w2 h2 => by
    rw [hr] at h2
    cases h2
    rfl
  rcases hown.2 with ⟨rfl, rfl⟩ | ⟨g, cap, cur, rfl, hbg, hgc, hnc, hcm, hcs, htake⟩
  · have := key _ _ (run_append_nil (P := Tryd.prog) w 22 ty 5 i5 (.int .u8 0) Tryd.underlying22 hi5 hz5 ad m c (bs8 m f) hl2 hc (by omega) (by omega) (by rw [hby5]; omega))
    simp only [Value.slice.injEq, Option.some.injEq, Addr.mk.injEq] at this
    exact .inr this.1.1.symm
  · by_cases hroom : n + m ≤ cap
    · have := key _ _ (run_append_room_cells (P := Tryd.prog) w 22 ty 5 i5 Tryd.underlying22 hi5 g 0 n cap ad m c (bs8 m f) hl2 hc bs8_one hroom (fun j hj => by
        rw [bs8_length] at hj
        rw [cellsOf hgc, hsz5]
        have : 0 + n * 1 + j < cur.size := by rw [hcs]; omega
        rw [Array.getElem?_eq_getElem this]; rfl) (fun j _ => frozenOf hgc _))
      cases this
      exact .inl rfl
    · have := key _ _ (run_append_grow (P := Tryd.prog) w 22 ty 5 i5 (.int .u8 0) Tryd.underlying22 hi5 hz5 ⟨g, 0, none⟩ n cap xs (by rw [hsz5]; exact hown.1) (hown.cells (g := g) rfl) ad m c (bs8 m f) hl2 hc (by omega) (by omega) (by have := nextslicecap_le (need := n + m) (old := cap) (by omega); rw [hby5]; omega))
      cases this
      exact .inr rfl

theorem outF_eq (z : Nat → Int) (h size bpp : Nat) (hs : 1 ≤ size) : ∀ K i, i < K * size → outF z h size bpp K i = ro z h size bpp (i / size) (i % size)
  | 0, i, hi => by omega
  | K + 1, i, hi => by
    have hl := outL_length z h size bpp K
    by_cases h1 : i < K * size
    · rw [← outF_eq z h size bpp hs K i h1]
      unfold outF
      rw [outL, List.getD_eq_getElem?_getD, List.getD_eq_getElem?_getD, List.getElem?_append_left (by omega)]
    · have h2 : i - K * size < size := by rw [Nat.succ_mul] at hi; omega
      have hd : i / size = K := by
        rw [Nat.div_eq_iff (by omega)]
        rw [Nat.mul_comm] at h1 h2
        constructor
        · rw [Nat.mul_comm]; omega
        · rw [Nat.mul_comm]; omega
      have hmd : i % size = i - K * size := by
        have := Nat.div_add_mod i size
        rw [hd, Nat.mul_comm] at this
        omega
      unfold outF
      rw [outL, List.getD_eq_getElem?_getD, List.getElem?_append_right (by omega), hl, rowL_get h2, Option.getD_some, hd, hmd]

/-- What spec.Unpredict tells: state 0 just where the rows are whole and their filters known; then the rows. -/
def Told (w w' : World) (size bpp h : Nat) (z : Nat → Int) (N : Nat) (x : Value) (s : Int) : Prop :=
  (s = 0 → N % (size + h) = 0 ∧ (∀ r, r < N / (size + h) → TagH h (tg z h size r)) ∧ DataV w' x (N / (size + h) * size) (outF z h size bpp (N / (size + h)))) ∧ Below w.heap.size w w'

/-- The cells of a row of the call's own. -/
theorem own_row {w : World} {B g N C : Nat} {z : Nat → Int} (h : w.ownsRow B 5 1 (.slice (some ⟨g, 0, none⟩) N C) N (bs8 N z)) : ∃ F, w.rowIs g 5 C F ∧ N ≤ C ∧ C ≤ maxLen ∧ B ≤ g ∧ ∀ i, i < N → F i = .int .u8 (z i) := by
  have hc := own_cells h
  rcases h.2 with ⟨e, _⟩ | ⟨g', cap, cur, e, hB, hcur, hn, hm, hsz, _⟩
  · cases e
  · cases e
    have hr : w.rowIs g 5 C (fun i => cur[i]?.getD undef) := ⟨cur, hcur, by omega, fun i hi => by
      show _ = some (cur[i]?.getD undef)
      rw [Array.getElem?_eq_getElem (by omega), Option.getD_some]⟩
    refine ⟨_, hr, hn, hm, hB, fun i hi => ?_⟩
    have h1 := hr.cell (i := i) (by omega)
    rw [hc.1 i hi] at h1
    exact (Option.some.inj h1).symm

set_option maxHeartbeats 4000000 in
set_option maxRecDepth 100000 in
theorem spec7_tiff (colors columns size : Nat) (early : Int) (CF : Cfg 2 colors columns size colors 0) (hsz : ((8 : Int) * colors * columns + 7) / 8 = (size : Int)) (z : Nat → Int) (hz : Bytes z) (N : Nat) (v : Value) (w : World) (hD : DataV w v N z) (hN : N ≤ 100000) :
    Calls Tryd.prog 7 #[v, .agg #[.int .i64 2, .int .i64 colors, .int .i64 8, .int .i64 columns, .int .i64 early]] w fun e w' => ∃ x s, e = .returned (.tuple #[x, .int .i64 s]) ∧ Hid (Told w w' size colors 0 z N x s) := by
  have hc1 := CF.c1
  have hc2 := CF.c2
  have hd1 := CF.d1
  have hd2 := CF.d2
  have hs1 : 1 ≤ size := Nat.le_trans CF.b1 CF.b2
  have hsc : size = columns * colors := by rcases CF.kind with h | h; omega; exact h.2.2.2
  have hss : size ≤ 8000 := by rw [hsc]; exact Nat.le_trans (Nat.mul_le_mul hd2 hc2) (by omega)
  obtain ⟨s0, hs0⟩ : ∃ s0, w.heap.size = s0 := ⟨_, rfl⟩
  obtain ⟨W0, hW0⟩ : ∃ W0, w.alloc (.cells #[.int .i64 2, .int .i64 colors, .int .i64 8, .int .i64 columns, .int .i64 early] 24) = W0 := ⟨_, rfl⟩
  have k0 : Kept [] w W0 := by rw [← hW0]; exact (Kept.refl _ _).alloc _
  have p0 : W0.cell? ⟨s0, 0, none⟩ = some (.int .i64 2) := by rw [← hW0, ← hs0]; simp [go_sem]
  have p1 : W0.cell? ⟨s0, 1, none⟩ = some (.int .i64 colors) := by rw [← hW0, ← hs0]; simp [go_sem]
  have p2 : W0.cell? ⟨s0, 2, none⟩ = some (.int .i64 8) := by rw [← hW0, ← hs0]; simp [go_sem]
  have p3 : W0.cell? ⟨s0, 3, none⟩ = some (.int .i64 columns) := by rw [← hW0, ← hs0]; simp [go_sem]
  have p4 : W0.cell? ⟨s0, 4, none⟩ = some (.int .i64 early) := by rw [← hW0, ← hs0]; simp [go_sem]
  have hA : (colors : Int) * 8 = 8 * (colors : Int) := by omega
  have hB0 : ((8 : Int) * colors * columns) = 8 * (size : Int) := by rw [hsc]; push_cast; rw [Int.mul_assoc, Int.mul_comm (colors : Int)]
  have h11 := Lib.hid fun w => bytes11 2 colors 8 columns early (8 * (colors : Int)) (8 * (size : Int)) hA hB0 (by omega) (by omega) (by omega) (by omega) w
  have hq1 : (8 * (size : Int) + 7) / 8 = (size : Int) := by omega
  have hq2 : (8 * (colors : Int) + 7) / 8 = (colors : Int) := by omega
  rw [hq1, hq2] at h11
  obtain ⟨a, C0, hv, hCN⟩ : ∃ a C, v = .slice a N C ∧ N ≤ C := by
    rcases hD with ⟨rfl, rfl⟩ | ⟨a, C, rfl, h, _⟩
    · exact ⟨_, _, rfl, Nat.le_refl _⟩
    · exact ⟨_, _, rfl, h⟩
  subst hv
  have K0 := Lib.hid k0
  have HD := Lib.hid hD
  have HS0 := Lib.hid hs0
  have HP := Lib.hid (And.intro p0 (And.intro p1 (And.intro p2 (And.intro p3 p4))))
  have HZ := Lib.hid hz
  have HSC := Lib.hid hsc
  clear CF hsz hz hD k0 hA hB0 hq1 hq2 hsc
  go_enter Tryd.func7, Tryd.ntmps7
  go_wp2_with (go_at_call 11; refine (h11.out _).mono ?_; rintro e w1 ⟨rfl, hb1⟩; refine Hid.out ?_)
  refine Lib.hid ?_
  have k1 := K0.out.trans (Kept.of_below hb1 [])
  obtain ⟨k1n, hk1n⟩ : ∃ k, w1.heap.size = k := ⟨_, rfl⟩
  obtain ⟨W1, hW1⟩ : ∃ W, w1.alloc (.cells #[] 5) = W := ⟨_, rfl⟩
  have kW1 : Kept [] w W1 := by rw [← hW1]; exact k1.alloc _
  obtain ⟨g, C, w2, hrun, hown, hk2⟩ := append_copy W1 k1n _ N z (HD.out.kept kW1 (by simp)) hN (by rw [← hW1, ← hk1n]; exact heap_alloc_new w1 _) 22
  have hs01 : s0 < k1n := by have := hb1.size; have := World.block_lt_of_cell? _ _ p0; simp at this; omega
  have kk : Kept [k1n] W0 w2 := by
    refine (((Kept.of_below hb1 [k1n]).trans ?_)).trans hk2
    rw [← hW1]
    exact (Kept.refl _ _).alloc _
  have x0 := kk.cell HP.out.1 (by simp; omega)
  have x1 := kk.cell HP.out.2.1 (by simp; omega)
  have x2 := kk.cell HP.out.2.2.1 (by simp; omega)
  have x3 := kk.cell HP.out.2.2.2.1 (by simp; omega)
  have x4 := kk.cell HP.out.2.2.2.2 (by simp; omega)
  have HOWN := Lib.hid hown
  have HKK := Lib.hid kk
  have KW2 : Hid (Kept [k1n] w w2) := Lib.hid ((kW1.mono (by simp)).trans hk2)
  have H01 := Lib.hid hs01
  have HK1N := Lib.hid (And.intro hk1n (show s0 ≤ k1n by omega))
  clear k1 kW1 hk2 kk hown hb1 p0 p1 p2 p3 p4 hW0 hs0 h11
  have hcast : ((N % size : Nat) : Int) = (N : Int) % (size : Int) := by first | exact Int.natCast_emod N size | exact Int.ofNat_emod N size | simp
  by_cases hmod : N % size = 0
  · have hmi : (N : Int) % (size : Int) = 0 := by omega
    obtain ⟨K, hK⟩ : ∃ K, N / size = K := ⟨_, rfl⟩
    have hNK : N = K * size := by rw [← hK, Nat.mul_comm]; have := Nat.div_add_mod N size; omega
    obtain ⟨F, hF1, hNC, hCm, hsg, hF2⟩ := own_row HOWN.out
    have HNK := Lib.hid (And.intro hNK hK)
    have HF1 := Lib.hid (hF1.congr (g := at8 F 0 (0 * size) (outF z 0 size colors K)) fun i hi => (at8_out (by omega)).symm)
    have HF2 := Lib.hid hF2
    unfold maxLen at hCm
    clear hcast hmod hNK hK hF1 hF2
    go_wp2_with (at_builtin; refine Lib.wpList_append_run _ rfl _ _ 22 22 rfl _ _ rfl rfl _ _ hrun ?_)
    clear hrun hmi
    go_loopg [9] K (fun gk i wr => ∃ r : Nat, gk = K - r ∧ r ≤ K ∧ i = .int .i64 ((r * size : Nat) : Int) ∧ Hid (wr.rowIs g 5 C (at8 F 0 (r * size) (outF z 0 size colors K))) ∧ Hid (Kept [g] w2 wr))
    case atStart => exact ⟨0, by omega, by omega, by rw [Nat.zero_mul]; rfl, HF1, Lib.hid (Kept.refl _ _)⟩
    case round =>
      obtain ⟨r, rfl, hr, rfl, HR, HK⟩ := hrel
      have y0 := HK.out.cell x0 (by simp; omega)
      have y1 := HK.out.cell x1 (by simp; omega)
      have y2 := HK.out.cell x2 (by simp; omega)
      have y3 := HK.out.cell x3 (by simp; omega)
      have y4 := HK.out.cell x4 (by simp; omega)
      by_cases hlt : r < K
      · have hPN : r * size + size ≤ N := by rw [HNK.out.1, ← Nat.succ_mul]; exact Nat.mul_le_mul_right size hlt
        have hraw : Bytes (raw z 0 size r) := ⟨fun i => HZ.out.lo _, fun i => HZ.out.hi _⟩
        have hG : ∀ i, i < size → outF z 0 size colors K (r * size + i) = ro z 0 size colors r i := fun i hi => by
          have hdv : (r * size + i) / size = r := by rw [Nat.mul_comm, Nat.mul_add_div (by omega), Nat.div_eq_of_lt hi]; rfl
          have hmd : (r * size + i) % size = i := by rw [Nat.mul_comm, Nat.mul_add_mod, Nat.mod_eq_of_lt hi]
          rw [outF_eq z 0 size colors hs1 K _ (by rw [← HNK.out.1]; omega), hdv, hmd]
        have htf := tiff12 g (r * size) size (C - r * size) colors columns C early HSC.out hc1 hc2 hd1 hd2 (raw z 0 size r) (ab z 0 size colors r) hraw _ wr.drew HR.out.drew (by omega) (fun i hi => by
          rw [at8_out (by omega), HF2.out _ (by omega)]
          unfold raw
          rw [Nat.add_zero, Nat.add_zero])
        have HT := Lib.hid htf
        have hnext : Hid (∀ W : World, W.rowIs g 5 C (at8 (at8 F 0 (r * size) (outF z 0 size colors K)) (r * size) size (pv 1 colors (raw z 0 size r) (ab z 0 size colors r))) → W.rowIs g 5 C (at8 F 0 ((r + 1) * size) (outF z 0 size colors K))) := Lib.hid fun W hW => hW.congr fun i hi => by
          have hro : pv 1 colors (raw z 0 size r) (ab z 0 size colors r) = ro z 0 size colors r := by rw [ro_eq]; rfl
          rw [hro]
          unfold at8
          rw [Nat.succ_mul]
          by_cases h1 : r * size ≤ i ∧ i < r * size + size
          · have := hG (i - r * size) (by omega)
            rw [show r * size + (i - r * size) = i by omega] at this
            rw [if_pos h1, if_pos (by omega), Nat.sub_zero, this]
          · rw [if_neg h1]
            by_cases h2 : i < r * size
            · rw [if_pos (by omega), if_pos (by omega)]
            · rw [if_neg (by omega), if_neg (by omega)]
        have hrs : (r + 1) * size = r * size + size := Nat.succ_mul r size
        rw [hrs] at hnext
        have hlti : ((r * size : Nat) : Int) < (N : Int) := by omega
        have HRS := Lib.hid hrs
        clear htf hG hraw hrs HR
        generalize r * size = P at *
        have e8 : IntKind.i64.wrap ((P : Int) + (size : Int)) = ((P + size : Nat) : Int) := by rw [IntWalk.i64_in _ (by omega)]; omega
        have hPC : ¬ C = P := by omega
        have hl1 : P + size ≤ C := by omega
        have hl2 : P + size - P = size := by omega
        go_wp2_with fail
        go_region_with (go_at_call 12; refine HT.out.mono ?_; rintro e w3 ⟨rfl, t1, t2⟩)
        all_goals
          have T1 := Lib.hid t1
          have T2 := Lib.hid t2
          clear t1 t2 HT
          go_wp2_with fail
          go_roundg (K - (r + 1))
          case measure => omega
          case rel => exact ⟨r + 1, rfl, hlt, by rw [HRS.out]; go_num, by rw [HRS.out]; exact Lib.hid (hnext.out _ T1.out), Lib.hid ((HK.out.drew).trans T2.out)⟩
      · obtain rfl : r = K := by omega
        have hrN : r * size = N := HNK.out.1.symm
        have hlti : ¬ ((r * size : Nat) : Int) < (N : Int) := by omega
        have HRN := Lib.hid hrN
        clear hrN
        go_wp2_with fail
        go_ret2
        refine ⟨_, _, rfl, Lib.hid ⟨fun _ => ?_, ?_⟩⟩
        · have hKd : N / size = r := HNK.out.2
          refine ⟨?_, fun r' _ => ⟨fun h => by omega, fun _ => ?_⟩, ?_⟩
          · rw [Nat.add_zero]; rw [HNK.out.1]; exact Nat.mul_mod_left _ _
          · unfold tg; rw [if_neg (by omega)]
          · rw [Nat.add_zero, hKd, HRN.out]
            refine .inr ⟨⟨g, 0, none⟩, C, rfl, hNC, by unfold maxLen; omega, HR.out.lt, fun i hi => ?_⟩
            rw [addr_add, HR.out.cell (by omega)]
            rw [HRN.out]
            have := at8_in (F := F) (o := 0) (n := N) (f := outF z 0 size colors r) (i := i) hi
            rw [Nat.zero_add] at this ⊢
            rw [this]
        · refine Kept.below (L := [k1n, g]) ((KW2.out.mono (by simp)).trans (HK.out.mono (by simp))) (Nat.le_refl _) ?_
          rw [HS0.out]
          simp
          exact ⟨HK1N.out.2, by omega⟩
  · have hmi : ¬ (N : Int) % (size : Int) = 0 := by omega
    clear hcast
    go_wp2_with (at_builtin; refine Lib.wpList_append_run _ rfl _ _ 22 22 rfl _ _ rfl rfl _ _ hrun ?_)
    go_ret2
    exact ⟨_, _, rfl, Lib.hid ⟨fun (h : (2 : Int) = 0) => by (cases h), KW2.out.below (Nat.le_refl _) (by rw [HS0.out]; simp; exact HK1N.out.2)⟩⟩
end Go.Proofs.YtmihbmjillcjaaaDoor.up
