/-
  extractXRefTableEntriesFromXRefStream: the rows read into the table.
-/
import Derived.Test.YtmkacgffdoifbaaDoorExi
namespace Go.Proofs.YtmkacgffdoifbaaDoor.se
open Go.RowKit Go.MapKept Go.ChangeMaps
set_option linter.unusedVariables false
set_option linter.unusedSimpArgs false

def streams (f : Nat → Ent) (k : Nat) : List Int := (List.range k).filterMap fun i => if (f i).comp then some (f i).str else none
theorem streams_succ (f : Nat → Ent) (k : Nat) : streams f (k + 1) = if (f k).comp then streams f k ++ [(f k).str] else streams f k := by
  unfold streams
  rw [List.range_succ, List.filterMap_append]
  cases h : (f k).comp <;> simp [h]

/-- A slice that reads as these bytes. -/
def BytesL (w : World) (v : Value) (l : List Nat) : Prop := ∃ a C, v = .slice a l.length C ∧ (0 < l.length → ∃ g, a = some ⟨g, 0, none⟩ ∧ l.length ≤ C ∧ C ≤ maxLen ∧ ∀ i, i < l.length → w.cell? ⟨g, i, none⟩ = some (.int .u8 ((l.getD i 0 : Nat) : Int)))

/-- What the reader is handed. -/
structure Handed (w : World) (xsd ctx xt rc m s : Nat) (objs : Value) (w0 w1 w2 : Nat) (f : Nat → Ent) (n : Nat) : Prop where
  ob : w.cell? ⟨xsd, 10, none⟩ = some objs
  a0 : w.cell? ⟨xsd, 11, none⟩ = some (.int .i64 (w0 : Int))
  a1 : w.cell? ⟨xsd, 12, none⟩ = some (.int .i64 (w1 : Int))
  a2 : w.cell? ⟨xsd, 13, none⟩ = some (.int .i64 (w2 : Int))
  c0 : w.cell? ⟨ctx, 0, none⟩ = some (.pointer (some ⟨xt, 0, none⟩))
  c1 : w.cell? ⟨ctx, 1, none⟩ = some (.pointer (some ⟨rc, 0, none⟩))
  t : w.cell? ⟨xt, 0, none⟩ = some (.map (some m))
  r : w.cell? ⟨rc, 0, none⟩ = some (.map (some s))
  ints : IntsV w objs n fun i => (f i).num

structure ESt (w wr : World) (m s : Nat) (f : Nat → Ent) (k : Nat) : Prop where
  tab : TabM wr m f k
  set : SetM wr s (streams f k)
  kept : Kept [m, s] w wr

theorem Handed.kept {w w' : World} {L : List Nat} {xsd ctx xt rc m s : Nat} {objs : Value} {w0 w1 w2 : Nat} {f : Nat → Ent} {n : Nat} (h : Handed w xsd ctx xt rc m s objs w0 w1 w2 f n) (k : Kept L w w') (hL : NoCells w L) : Handed w' xsd ctx xt rc m s objs w0 w1 w2 f n where
  ob := Kept.cell' k h.ob hL
  a0 := Kept.cell' k h.a0 hL
  a1 := Kept.cell' k h.a1 hL
  a2 := Kept.cell' k h.a2 hL
  c0 := Kept.cell' k h.c0 hL
  c1 := Kept.cell' k h.c1 hL
  t := Kept.cell' k h.t hL
  r := Kept.cell' k h.r hL
  ints := by
    rcases h.ints with h | ⟨b, o, C, h1, h2, h3, h4⟩
    · exact .inl h
    · exact .inr ⟨b, o, C, h1, h2, h3, fun i hi => Kept.cell' k (h4 i hi) hL⟩

theorem rowB_get0 {w0 w1 w2 : Nat} {e : Ent} {i : Nat} (h : i < w0) : (rowB w0 w1 w2 e).getD i 0 = (fb (kindOf e) w0).getD i 0 := by
  unfold rowB
  rw [List.getD_eq_getElem?_getD, List.getElem?_append_left (by rw [fb_length]; exact h), ← List.getD_eq_getElem?_getD]
theorem rowB_get1 {w0 w1 w2 : Nat} {e : Ent} {i : Nat} (h : i < w1) : (rowB w0 w1 w2 e).getD (w0 + i) 0 = (fb (aOf e).toNat w1).getD i 0 := by
  unfold rowB
  rw [List.getD_eq_getElem?_getD, List.getElem?_append_right (by rw [fb_length]; omega), fb_length, Nat.add_sub_cancel_left, List.getElem?_append_left (by rw [fb_length]; exact h), ← List.getD_eq_getElem?_getD]
theorem rowB_get2 {w0 w1 w2 : Nat} {e : Ent} {i : Nat} (_ : i < w2) : (rowB w0 w1 w2 e).getD (w0 + (w1 + i)) 0 = (fb (bOf e).toNat w2).getD i 0 := by
  unfold rowB
  rw [List.getD_eq_getElem?_getD, List.getElem?_append_right (by rw [fb_length]; omega), fb_length, Nat.add_sub_cancel_left, List.getElem?_append_right (by rw [fb_length]; omega), fb_length, Nat.add_sub_cancel_left, ← List.getD_eq_getElem?_getD]
theorem dataB_get {w0 w1 w2 : Nat} {f : Nat → Ent} {n k i : Nat} (hk : k < n) (hi : i < w0 + w1 + w2) : (dataB w0 w1 w2 f n).getD (k * (w0 + w1 + w2) + i) 0 = (rowB w0 w1 w2 (f k)).getD i 0 := by
  induction n with
  | zero => omega
  | succ n ih =>
    rw [dataB_succ, List.getD_eq_getElem?_getD]
    rcases Nat.lt_or_ge k n with h | h
    · have h2 : (k + 1) * (w0 + w1 + w2) ≤ n * (w0 + w1 + w2) := Nat.mul_le_mul_right _ h
      rw [Nat.succ_mul] at h2
      rw [List.getElem?_append_left (by rw [dataB_length]; omega), ← List.getD_eq_getElem?_getD]
      exact ih h
    · obtain rfl : k = n := by omega
      rw [List.getElem?_append_right (by rw [dataB_length]; omega), dataB_length, Nat.add_sub_cancel_left, ← List.getD_eq_getElem?_getD]
theorem field22 (a : Option Addr) (Cc g o : Nat) (x wd : Nat) (W : World) (hx : x < 256 ^ wd) (hwd : wd ≤ 6) (ha : 0 < wd → a = some ⟨g, o, none⟩) (hc : ∀ i, i < wd → W.cell? ⟨g, o + i, none⟩ = some (.int .u8 (((fb x wd).getD i 0 : Nat) : Int))) :
    Calls Tryd.prog 22 #[.slice a wd Cc] W fun e w' => e = .returned (.int .i64 (x : Int)) ∧ w' = W := by
  have h := buf22 a Cc (fb x wd) W (by rw [fb_length]; exact hwd) (fun b hb => fb_byte b hb) (fun h => by
    rw [fb_length] at h
    exact ⟨g, o, ha h, fun i hi => hc i (by rw [fb_length] at hi; exact hi)⟩)
  rw [fb_length, be_fb x wd hx] at h
  exact h
theorem kind_lt (e : Ent) {w0 : Nat} (h : 0 < w0) : kindOf e < 256 ^ w0 := by
  have h1 : 256 ^ 1 ≤ 256 ^ w0 := Nat.pow_le_pow_right (by omega) h
  have h2 : kindOf e ≤ 2 := by unfold kindOf; split <;> (try split) <;> omega
  omega
theorem Fits.lt_a {e : Ent} {w0 w1 w2 : Nat} (h : Fits e w0 w1 w2) : (aOf e).toNat < 256 ^ w1 := by
  have h1 := h.a0
  have h2 := h.a1
  rw [← cast256] at h2
  omega
theorem Fits.lt_b {e : Ent} {w0 w1 w2 : Nat} (h : Fits e w0 w1 w2) : (bOf e).toNat < 256 ^ w2 := by
  have h1 := h.b0
  have h2 := h.b1
  rw [← cast256] at h2
  omega
theorem aOf_nat {e : Ent} {w0 w1 w2 : Nat} (h : Fits e w0 w1 w2) : ((aOf e).toNat : Int) = aOf e := Int.toNat_of_nonneg h.a0
theorem bOf_nat {e : Ent} {w0 w1 w2 : Nat} (h : Fits e w0 w1 w2) : ((bOf e).toNat : Int) = bOf e := Int.toNat_of_nonneg h.b0

set_option maxHeartbeats 40000000 in
set_option maxRecDepth 100000 in
theorem extract16z (v : Value) (xsd ctx xt rc m s : Nat) (objs : Value) (w0 w1 w2 : Nat) (f : Nat → Ent) (n : Nat) (w : World) (hz : w0 = 0) (hn : n ≤ 500) (h0 : w0 ≤ 2) (h1 : 1 ≤ w1) (h1' : w1 ≤ 6) (h2 : w2 ≤ 3)
    (hH : Handed w xsd ctx xt rc m s objs w0 w1 w2 f n) (hb : BytesL w v (dataB w0 w1 w2 f n)) (hF : ∀ i, i < n → Fits (f i) w0 w1 w2) (hR : ∀ i j, i < j → j < n → (f i).num < (f j).num) (hms : m ≠ s) (hM : NoCells w [m, s]) (hE : ESt w w m s f 0) :
    Calls Tryd.prog 16 #[v, .int .i64 0, .pointer (some ⟨xsd, 0, none⟩), .pointer (some ⟨ctx, 0, none⟩), .int .i64 0] w fun e w' => e = .returned .nilIface ∧ ESt w w' m s f n := by
  subst hz
  obtain ⟨a, C, rfl, hcells⟩ := hb
  obtain ⟨oa, oC, rfl⟩ := hH.ints.slice
  rw [dataB_length] at hcells ⊢
  have HH := Lib.hid hH
  have HF := Lib.hid hF
  have HR := Lib.hid hR
  have HM := Lib.hid hM
  have HE := Lib.hid hE
  have HW := Lib.hid (And.intro hn (And.intro h0 (And.intro h1 (And.intro h1' (And.intro h2 hms)))))
  have b0 := hH.a0
  have b1 := hH.a1
  have b2 := hH.a2
  have b3 := hH.ob
  obtain ⟨L, hL⟩ : ∃ L, 0 + w1 + w2 = L := ⟨_, rfl⟩
  obtain ⟨N, hN⟩ : ∃ N, n * L = N := ⟨_, rfl⟩
  have e1 : (w1 : Int) + (w2 : Int) = (L : Int) := by omega
  have e2 : ((L : Int) == 0) = false := by simp; omega
  have e3 : (N : Int) % (L : Int) = 0 := by
    rw [← hN]
    push_cast
    exact Int.mul_emod_left _ _
  have e4 : (n : Int) * (L : Int) = (N : Int) := by rw [← hN]; push_cast; rfl
  have hLp : 1 ≤ L ∧ L ≤ 11 := by omega
  have hNm : N ≤ 5500 := by rw [← hN]; exact Nat.mul_le_mul hn hLp.2
  rw [hL, hN] at hcells ⊢
  have HC := Lib.hid hcells
  have HLN := Lib.hid (And.intro hL (And.intro hN (And.intro hLp hNm)))
  have hn' := hn
  clear hH hcells hF hR hM hE h0 h1 h1' h2 hms hL hN
  have w3 : ((L : Int) == 0) = false := e2
  go_enter Tryd.func16, Tryd.ntmps16
  go_wp2_with fail
  clear e3
  go_loopw [16, 18] (fun j i wr => ∃ k : Nat, j = .int .i64 (k : Int) ∧ i = .int .i64 ((k * L : Nat) : Int) ∧ k ≤ n ∧ Hid (ESt w wr m s f k)) (fun j _ _ => n - (intOf j).toNat)
  case atStart => exact ⟨0, rfl, by simp, by omega, HE⟩
  case round =>
    obtain ⟨k, rfl, rfl, hk, HS⟩ := hrel
    have hh := HH.out.kept HS.out.kept HM.out
    have x0 := hh.ob
    obtain ⟨P, hP⟩ : ∃ P, k * L = P := ⟨_, rfl⟩
    rw [hP]
    by_cases hlt : k < n
    · have hPN : P + L ≤ N := by
        rw [← hP, ← HLN.out.2.1, ← Nat.succ_mul]
        exact Nat.mul_le_mul_right L hlt
      have hPI : (P : Int) < (N : Int) := by have := HLN.out.2.2.1; omega
      have hki : (k : Int) < (n : Int) := by omega
      obtain ⟨bo, oo, rfl, hc⟩ := hh.ints.cells (by omega)
      have y0 := hc k hlt
      obtain ⟨num, hnum⟩ : ∃ num, (f k).num = num := ⟨_, rfl⟩
      rw [hnum] at y0
      have y1 := hh.c0
      have y2 := hh.c1
      have H23 := Lib.hid (exists23 xt m f k num wr hh.t HS.out.tab (fun i hi => by rw [← hnum]; exact HR.out i k hi hlt))
      obtain ⟨g, rfl, hNC, hCm, hcl⟩ := HC.out (by have := HLN.out; omega)
      have HP := Lib.hid (And.intro hP hnum)
      have HCL := Lib.hid hcl
      have hh' := Lib.hid hh
      have y3 := hh.t
      have y4 := hh.r
      clear hcl hc hP hnum hh
      obtain ⟨Q2, hQ2⟩ : ∃ Q2, P + w1 = Q2 := ⟨_, rfl⟩
      obtain ⟨Q3, hQ3⟩ : ∃ Q3, Q2 + w2 = Q3 := ⟨_, rfl⟩
      have q2 : (P : Int) + (w1 : Int) = (Q2 : Int) := by omega
      have q3 : (Q2 : Int) + (w2 : Int) = (Q3 : Int) := by omega
      have hQL : Q3 ≤ N := by have := HLN.out.1; omega
      have r4 : P ≤ Q2 := by omega
      have r5 : Q2 ≤ C := by omega
      have r6 : Q2 ≤ Q3 := by omega
      have r7 : Q3 ≤ C := by omega
      have r8 : ¬ C = P := by have := HW.out; omega
      have s2 : Q2 - P = w1 := by omega
      have s3 : Q3 - Q2 = w2 := by omega
      have HROW : Hid (∀ i, i < L → wr.cell? ⟨g, P + i, none⟩ = some (.int .u8 (((rowB 0 w1 w2 (f k)).getD i 0 : Nat) : Int))) := Lib.hid fun i hi => by
        have h := Kept.cell' HS.out.kept (HCL.out (P + i) (by omega)) HM.out
        rw [← HP.out.1, ← HLN.out.1, dataB_get hlt (by rw [HLN.out.1]; exact hi), HLN.out.1, HP.out.1] at h
        exact h
      have H22b := Lib.hid (field22 (some ⟨g, P, none⟩) (C - P) g P (aOf (f k)).toNat w1 wr (HF.out k hlt).lt_a (by have := HW.out; omega) (fun _ => rfl) (fun i hi => by
        have h := HROW.out (0 + i) (by have := HLN.out.1; omega)
        rw [rowB_get1 hi, ← Nat.add_assoc] at h
        rw [show P = P + 0 by omega]
        exact h))
      have H22c := Lib.hid fun (a : Option Addr) (Cc : Nat) (ha : 0 < w2 → a = some ⟨g, Q2, none⟩) => field22 a Cc g Q2 (bOf (f k)).toNat w2 wr (HF.out k hlt).lt_b (by have := HW.out; omega) ha (fun i hi => by
        have h := HROW.out (0 + (w1 + i)) (by have := HLN.out.1; omega)
        rw [rowB_get2 hi, ← Nat.add_assoc, ← Nat.add_assoc] at h
        rw [show Q2 = P + 0 + w1 by omega]
        exact h)
      have H24 := Lib.hid (create24 (f k) (HF.out k hlt) (by have := HW.out; omega) (f k).num s (streams f k) wr HS.out.set)
      have HNM := Lib.hid hlt
      have hkd : kindOf (f k) = 1 := (HF.out k hlt).typ rfl
      have hkz : ((1 : Nat) : Int) = 1 := rfl
      rw [hkd, hkz] at H24
      clear hkd hkz
      rw [aOf_nat (HF.out k hlt)] at H22b
      rw [bOf_nat (HF.out k hlt)] at H22c
      obtain ⟨kd, hkd⟩ : ∃ kd : Int, (kindOf (f k) : Int) = kd := ⟨_, rfl⟩
      obtain ⟨za, hza⟩ : ∃ za, aOf (f k) = za := ⟨_, rfl⟩
      obtain ⟨zb, hzb⟩ : ∃ zb, bOf (f k) = zb := ⟨_, rfl⟩
      rw [hza] at H22b
      rw [hzb] at H22c
      rw [HP.out.2, hza, hzb] at H24
      have HZ := Lib.hid (And.intro hza hzb)
      have hQ5 : Q2 ≤ 5500 := by have := HLN.out.2.2.2; omega
      have hPL : P + L ≤ 5500 := by have := HLN.out.2.2.2; omega
      clear hQL hQ2 hQ3 hza hzb hkd hlt hPN 
      go_wp2_with (first | (go_at_call 23; refine H23.out.mono ?_; rintro e V1 ⟨rfl, rfl⟩; refine Hid.out ?_))
      refine Lib.hid ?_
      clear H23



      go_wp2_with (first | (go_at_call 22; refine H22b.out.mono ?_; rintro e V3 ⟨rfl, rfl⟩; refine Hid.out ?_))
      refine Lib.hid ?_
      clear H22b r4 r8 s2
      obtain ⟨A3, hA3⟩ : ∃ A, (if C = Q2 then some (⟨g, 0, none⟩ : Addr) else some ⟨g, Q2, none⟩) = A := ⟨_, rfl⟩
      have hA3' : 0 < w2 → A3 = some ⟨g, Q2, none⟩ := fun h => by rw [← hA3, if_neg (by omega)]
      go_wp2_with (first | (go_at_call 22; refine (H22c.out _ _ hA3').mono ?_; rintro e V4 ⟨rfl, rfl⟩; refine Hid.out ?_))
      refine Lib.hid ?_
      clear H22c r5 r6 r7 s3 q2 q3 hA3 hA3'
      go_wp2_with (first | (go_at_call 24; refine H24.out.mono ?_; rintro en V5 ⟨q, r, rfl, hq, hr, hk5, hs5⟩; refine Hid.out ?_))
      refine Lib.hid ?_
      have hT5 := HS.out.tab.kept hk5 (by obtain ⟨es, c, hm, _⟩ := HS.out.set.ex; exact noCells_map hm) (by have := HW.out.2.2.2.2.2; simpa using this)
      have kA : ∀ ob, Kept [] V5 (V5.alloc ob) := fun ob => (Kept.refl _ _).alloc ob
      have hE6 : EntAt (V5.alloc (.cells (xC (f k).free (f k).comp q r) 78)) V5.heap.size (f k) := ⟨q, r, heap_alloc_new V5 _, (kA _).cell hq (by simp), (kA _).cell hr (by simp)⟩
      obtain ⟨V7, hr7, hT7, hk7, _⟩ := (hT5.kept (kA (.cells (xC (f k).free (f k).comp q r) 78)) (fun x hx => by simp at hx) (by simp)).put hE6 (fun i hi => HR.out i k hi HNM.out)
      have hb5 := hh'.out.kept hk5 (by obtain ⟨es, c, hm, _⟩ := HS.out.set.ex; exact noCells_map hm)
      have z1 : (V5.alloc (.cells (xC (f k).free (f k).comp q r) 78)).cell? ⟨ctx, 0, none⟩ = some (.pointer (some ⟨xt, 0, none⟩)) := (kA _).cell hb5.c0 (by simp)
      have z3 : (V5.alloc (.cells (xC (f k).free (f k).comp q r) 78)).cell? ⟨xt, 0, none⟩ = some (.map (some m)) := (kA _).cell hb5.t (by simp)
      have HFIN : Hid (ESt w V7 m s f (k + 1)) := Lib.hid ⟨hT7, by
        rw [streams_succ]
        exact (hs5.kept (kA _) (by simp)).kept hk7 (by have := HW.out.2.2.2.2.2; simp; omega), (HS.out.kept.trans ((hk5.mono (by simp)).trans ((kA _).mono (by simp)))).trans (hk7.mono (by simp))⟩
      rw [HP.out.2] at hr7
      generalize hfr : (f k).free = fr at hr7 z1 z3 ⊢
      generalize hcm : (f k).comp = cm at hr7 z1 z3 ⊢
      clear hT5 kA hE6 hT7 hk7 hb5 hs5 hk5 hq hr hfr hcm y1 y2 y3 y4 H24
      cases cm
      all_goals
        simp only [xC, if_true, if_false, Bool.false_eq_true] at hr7 z1 z3 ⊢
        go_wp2_with fail
        go_roundw
        case rel => exact ⟨k + 1, by go_num, by rw [Nat.succ_mul, HP.out.1]; push_cast; rfl, by have := HNM.out; omega, HFIN⟩
        case measure => have := HNM.out; simp [intOf]; omega
    · obtain rfl : k = n := by omega
      obtain hPNN : P = N := by rw [← hP]; exact HLN.out.2.1
      have hf1 : ¬ (P : Int) < (N : Int) := by omega
      have hf2 : decide ((P : Int) < (N : Int)) = false := by simpa using hf1
      go_wp2_with fail
      go_ret
      exact ⟨rfl, HS.out⟩

set_option maxHeartbeats 40000000 in
set_option maxRecDepth 100000 in
theorem extract16p (v : Value) (xsd ctx xt rc m s : Nat) (objs : Value) (w0 w1 w2 : Nat) (f : Nat → Ent) (n : Nat) (w : World) (hz : 0 < w0) (hn : n ≤ 500) (h0 : w0 ≤ 2) (h1 : 1 ≤ w1) (h1' : w1 ≤ 6) (h2 : w2 ≤ 3)
    (hH : Handed w xsd ctx xt rc m s objs w0 w1 w2 f n) (hb : BytesL w v (dataB w0 w1 w2 f n)) (hF : ∀ i, i < n → Fits (f i) w0 w1 w2) (hR : ∀ i j, i < j → j < n → (f i).num < (f j).num) (hms : m ≠ s) (hM : NoCells w [m, s]) (hE : ESt w w m s f 0) :
    Calls Tryd.prog 16 #[v, .int .i64 0, .pointer (some ⟨xsd, 0, none⟩), .pointer (some ⟨ctx, 0, none⟩), .int .i64 0] w fun e w' => e = .returned .nilIface ∧ ESt w w' m s f n := by
  obtain ⟨a, C, rfl, hcells⟩ := hb
  obtain ⟨oa, oC, rfl⟩ := hH.ints.slice
  rw [dataB_length] at hcells ⊢
  have HH := Lib.hid hH
  have HF := Lib.hid hF
  have HR := Lib.hid hR
  have HM := Lib.hid hM
  have HE := Lib.hid hE
  have HW := Lib.hid (And.intro hn (And.intro h0 (And.intro h1 (And.intro h1' (And.intro h2 hms)))))
  have b0 := hH.a0
  have b1 := hH.a1
  have b2 := hH.a2
  have b3 := hH.ob
  obtain ⟨L, hL⟩ : ∃ L, w0 + w1 + w2 = L := ⟨_, rfl⟩
  obtain ⟨N, hN⟩ : ∃ N, n * L = N := ⟨_, rfl⟩
  have e1 : (w0 : Int) + (w1 : Int) + (w2 : Int) = (L : Int) := by omega
  have e2 : ((L : Int) == 0) = false := by simp; omega
  have e3 : (N : Int) % (L : Int) = 0 := by
    rw [← hN]
    push_cast
    exact Int.mul_emod_left _ _
  have e4 : (n : Int) * (L : Int) = (N : Int) := by rw [← hN]; push_cast; rfl
  have hLp : 1 ≤ L ∧ L ≤ 11 := by omega
  have hNm : N ≤ 5500 := by rw [← hN]; exact Nat.mul_le_mul hn hLp.2
  rw [hL, hN] at hcells ⊢
  have HC := Lib.hid hcells
  have HLN := Lib.hid (And.intro hL (And.intro hN (And.intro hLp hNm)))
  have hn' := hn
  clear hH hcells hF hR hM hE h0 h1 h1' h2 hms hL hN
  have w3 : ((L : Int) == 0) = false := e2
  go_enter Tryd.func16, Tryd.ntmps16
  go_wp2_with fail
  clear e3
  go_loopw [16, 18] (fun j i wr => ∃ k : Nat, j = .int .i64 (k : Int) ∧ i = .int .i64 ((k * L : Nat) : Int) ∧ k ≤ n ∧ Hid (ESt w wr m s f k)) (fun j _ _ => n - (intOf j).toNat)
  case atStart => exact ⟨0, rfl, by simp, by omega, HE⟩
  case round =>
    obtain ⟨k, rfl, rfl, hk, HS⟩ := hrel
    have hh := HH.out.kept HS.out.kept HM.out
    have x0 := hh.ob
    obtain ⟨P, hP⟩ : ∃ P, k * L = P := ⟨_, rfl⟩
    rw [hP]
    by_cases hlt : k < n
    · have hPN : P + L ≤ N := by
        rw [← hP, ← HLN.out.2.1, ← Nat.succ_mul]
        exact Nat.mul_le_mul_right L hlt
      have hPI : (P : Int) < (N : Int) := by have := HLN.out.2.2.1; omega
      have hki : (k : Int) < (n : Int) := by omega
      obtain ⟨bo, oo, rfl, hc⟩ := hh.ints.cells (by omega)
      have y0 := hc k hlt
      obtain ⟨num, hnum⟩ : ∃ num, (f k).num = num := ⟨_, rfl⟩
      rw [hnum] at y0
      have y1 := hh.c0
      have y2 := hh.c1
      have H23 := Lib.hid (exists23 xt m f k num wr hh.t HS.out.tab (fun i hi => by rw [← hnum]; exact HR.out i k hi hlt))
      obtain ⟨g, rfl, hNC, hCm, hcl⟩ := HC.out (by have := HLN.out; omega)
      have HP := Lib.hid (And.intro hP hnum)
      have HCL := Lib.hid hcl
      have hh' := Lib.hid hh
      have y3 := hh.t
      have y4 := hh.r
      clear hcl hc hP hnum hh
      have ez : ((w0 : Int) == 0) = false := by simp; omega
      obtain ⟨Q1, hQ1⟩ : ∃ Q1, P + w0 = Q1 := ⟨_, rfl⟩
      have q1 : (P : Int) + (w0 : Int) = (Q1 : Int) := by omega
      obtain ⟨Q2, hQ2⟩ : ∃ Q2, Q1 + w1 = Q2 := ⟨_, rfl⟩
      obtain ⟨Q3, hQ3⟩ : ∃ Q3, Q2 + w2 = Q3 := ⟨_, rfl⟩
      have q2 : (Q1 : Int) + (w1 : Int) = (Q2 : Int) := by omega
      have q3 : (Q2 : Int) + (w2 : Int) = (Q3 : Int) := by omega
      have hQL : Q3 ≤ N := by have := HLN.out.1; omega
      have r1 : P ≤ Q1 := by omega
      have r2 : Q1 ≤ C := by omega
      have r3 : ¬ C = P := by omega
      have s1 : Q1 - P = w0 := by omega
      have r4 : Q1 ≤ Q2 := by omega
      have r5 : Q2 ≤ C := by omega
      have r6 : Q2 ≤ Q3 := by omega
      have r7 : Q3 ≤ C := by omega
      have r8 : ¬ C = Q1 := by have := HW.out; omega
      have s2 : Q2 - Q1 = w1 := by omega
      have s3 : Q3 - Q2 = w2 := by omega
      have HROW : Hid (∀ i, i < L → wr.cell? ⟨g, P + i, none⟩ = some (.int .u8 (((rowB w0 w1 w2 (f k)).getD i 0 : Nat) : Int))) := Lib.hid fun i hi => by
        have h := Kept.cell' HS.out.kept (HCL.out (P + i) (by omega)) HM.out
        rw [← HP.out.1, ← HLN.out.1, dataB_get hlt (by rw [HLN.out.1]; exact hi), HLN.out.1, HP.out.1] at h
        exact h
      have H22a := Lib.hid (field22 (some ⟨g, P, none⟩) (C - P) g P (kindOf (f k)) w0 wr (kind_lt (f k) hz) (by have := HW.out; omega) (fun _ => rfl) (fun i hi => by
        have h := HROW.out i (by have := HLN.out.1; omega)
        rwa [rowB_get0 hi] at h))
      have H22b := Lib.hid (field22 (some ⟨g, Q1, none⟩) (C - Q1) g Q1 (aOf (f k)).toNat w1 wr (HF.out k hlt).lt_a (by have := HW.out; omega) (fun _ => rfl) (fun i hi => by
        have h := HROW.out (w0 + i) (by have := HLN.out.1; omega)
        rw [rowB_get1 hi, ← Nat.add_assoc] at h
        rw [show Q1 = P + w0 by omega]
        exact h))
      have H22c := Lib.hid fun (a : Option Addr) (Cc : Nat) (ha : 0 < w2 → a = some ⟨g, Q2, none⟩) => field22 a Cc g Q2 (bOf (f k)).toNat w2 wr (HF.out k hlt).lt_b (by have := HW.out; omega) ha (fun i hi => by
        have h := HROW.out (w0 + (w1 + i)) (by have := HLN.out.1; omega)
        rw [rowB_get2 hi, ← Nat.add_assoc, ← Nat.add_assoc] at h
        rw [show Q2 = P + w0 + w1 by omega]
        exact h)
      have H24 := Lib.hid (create24 (f k) (HF.out k hlt) (by have := HW.out; omega) (f k).num s (streams f k) wr HS.out.set)
      have HNM := Lib.hid hlt
      rw [aOf_nat (HF.out k hlt)] at H22b
      rw [bOf_nat (HF.out k hlt)] at H22c
      obtain ⟨kd, hkd⟩ : ∃ kd : Int, (kindOf (f k) : Int) = kd := ⟨_, rfl⟩
      obtain ⟨za, hza⟩ : ∃ za, aOf (f k) = za := ⟨_, rfl⟩
      obtain ⟨zb, hzb⟩ : ∃ zb, bOf (f k) = zb := ⟨_, rfl⟩
      rw [hza] at H22b
      rw [hzb] at H22c
      rw [HP.out.2, hza, hzb] at H24
      rw [hkd] at H22a H24
      have HZ := Lib.hid (And.intro hza hzb)
      have hQ5 : Q2 ≤ 5500 := by have := HLN.out.2.2.2; omega
      have hPL : P + L ≤ 5500 := by have := HLN.out.2.2.2; omega
      clear hQL hQ2 hQ3 hza hzb hkd hlt hPN hQ1 hz
      go_wp2_with (first | (go_at_call 23; refine H23.out.mono ?_; rintro e V1 ⟨rfl, rfl⟩; refine Hid.out ?_))
      refine Lib.hid ?_
      clear H23
      go_wp2_with (first | (go_at_call 22; refine H22a.out.mono ?_; rintro e V2 ⟨rfl, rfl⟩; refine Hid.out ?_))
      refine Lib.hid ?_
      clear H22a r1 r2 r3 s1 ez
      go_wp2_with (first | (go_at_call 22; refine H22b.out.mono ?_; rintro e V3 ⟨rfl, rfl⟩; refine Hid.out ?_))
      refine Lib.hid ?_
      clear H22b r4 r8 s2
      obtain ⟨A3, hA3⟩ : ∃ A, (if C = Q2 then some (⟨g, 0, none⟩ : Addr) else some ⟨g, Q2, none⟩) = A := ⟨_, rfl⟩
      have hA3' : 0 < w2 → A3 = some ⟨g, Q2, none⟩ := fun h => by rw [← hA3, if_neg (by omega)]
      go_wp2_with (first | (go_at_call 22; refine (H22c.out _ _ hA3').mono ?_; rintro e V4 ⟨rfl, rfl⟩; refine Hid.out ?_))
      refine Lib.hid ?_
      clear H22c r5 r6 r7 s3 q2 q3 hA3 hA3'
      go_wp2_with (first | (go_at_call 24; refine H24.out.mono ?_; rintro en V5 ⟨q, r, rfl, hq, hr, hk5, hs5⟩; refine Hid.out ?_))
      refine Lib.hid ?_
      have hT5 := HS.out.tab.kept hk5 (by obtain ⟨es, c, hm, _⟩ := HS.out.set.ex; exact noCells_map hm) (by have := HW.out.2.2.2.2.2; simpa using this)
      have kA : ∀ ob, Kept [] V5 (V5.alloc ob) := fun ob => (Kept.refl _ _).alloc ob
      have hE6 : EntAt (V5.alloc (.cells (xC (f k).free (f k).comp q r) 78)) V5.heap.size (f k) := ⟨q, r, heap_alloc_new V5 _, (kA _).cell hq (by simp), (kA _).cell hr (by simp)⟩
      obtain ⟨V7, hr7, hT7, hk7, _⟩ := (hT5.kept (kA (.cells (xC (f k).free (f k).comp q r) 78)) (fun x hx => by simp at hx) (by simp)).put hE6 (fun i hi => HR.out i k hi HNM.out)
      have hb5 := hh'.out.kept hk5 (by obtain ⟨es, c, hm, _⟩ := HS.out.set.ex; exact noCells_map hm)
      have z1 : (V5.alloc (.cells (xC (f k).free (f k).comp q r) 78)).cell? ⟨ctx, 0, none⟩ = some (.pointer (some ⟨xt, 0, none⟩)) := (kA _).cell hb5.c0 (by simp)
      have z3 : (V5.alloc (.cells (xC (f k).free (f k).comp q r) 78)).cell? ⟨xt, 0, none⟩ = some (.map (some m)) := (kA _).cell hb5.t (by simp)
      have HFIN : Hid (ESt w V7 m s f (k + 1)) := Lib.hid ⟨hT7, by
        rw [streams_succ]
        exact (hs5.kept (kA _) (by simp)).kept hk7 (by have := HW.out.2.2.2.2.2; simp; omega), (HS.out.kept.trans ((hk5.mono (by simp)).trans ((kA _).mono (by simp)))).trans (hk7.mono (by simp))⟩
      rw [HP.out.2] at hr7
      generalize hfr : (f k).free = fr at hr7 z1 z3 ⊢
      generalize hcm : (f k).comp = cm at hr7 z1 z3 ⊢
      clear hT5 kA hE6 hT7 hk7 hb5 hs5 hk5 hq hr hfr hcm y1 y2 y3 y4 H24
      cases cm
      all_goals
        simp only [xC, if_true, if_false, Bool.false_eq_true] at hr7 z1 z3 ⊢
        go_wp2_with fail
        go_roundw
        case rel => exact ⟨k + 1, by go_num, by rw [Nat.succ_mul, HP.out.1]; push_cast; rfl, by have := HNM.out; omega, HFIN⟩
        case measure => have := HNM.out; simp [intOf]; omega
    · obtain rfl : k = n := by omega
      obtain hPNN : P = N := by rw [← hP]; exact HLN.out.2.1
      have hf1 : ¬ (P : Int) < (N : Int) := by omega
      have hf2 : decide ((P : Int) < (N : Int)) = false := by simpa using hf1
      go_wp2_with fail
      go_ret
      exact ⟨rfl, HS.out⟩

theorem extract16 (v : Value) (xsd ctx xt rc m s : Nat) (objs : Value) (w0 w1 w2 : Nat) (f : Nat → Ent) (n : Nat) (w : World) (hn : n ≤ 500) (h0 : w0 ≤ 2) (h1 : 1 ≤ w1) (h1' : w1 ≤ 6) (h2 : w2 ≤ 3)
    (hH : Handed w xsd ctx xt rc m s objs w0 w1 w2 f n) (hb : BytesL w v (dataB w0 w1 w2 f n)) (hF : ∀ i, i < n → Fits (f i) w0 w1 w2) (hR : ∀ i j, i < j → j < n → (f i).num < (f j).num) (hms : m ≠ s) (hM : NoCells w [m, s]) (hE : ESt w w m s f 0) :
    Calls Tryd.prog 16 #[v, .int .i64 0, .pointer (some ⟨xsd, 0, none⟩), .pointer (some ⟨ctx, 0, none⟩), .int .i64 0] w fun e w' => e = .returned .nilIface ∧ ESt w w' m s f n := by
  rcases Nat.eq_zero_or_pos w0 with hz | hz
  · exact extract16z v xsd ctx xt rc m s objs w0 w1 w2 f n w hz hn h0 h1 h1' h2 hH hb hF hR hms hM hE
  · exact extract16p v xsd ctx xt rc m s objs w0 w1 w2 f n w hz hn h0 h1 h1' h2 hH hb hF hR hms hM hE
end Go.Proofs.YtmkacgffdoifbaaDoor.se
