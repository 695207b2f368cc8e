/-
  parseXRefTableSubSection over a table's text.
-/
import Derived.Test.YtoaedibfgegilaaGreatDoorSsb
namespace Go.Proofs.YtoaedibfgegilaaGreatDoor.st
open Go.RowKit
set_option linter.unusedVariables false
set_option linter.unusedSimpArgs false

/-- In the midst of the table: k entries are read. -/
structure Mid (B : Nat) (w0 wr : World) (sc rd : Nat) (T : ByteArray) (m : Nat) (f : Nat → Ent) (n z k j : Nat) : Prop where
  tab : TabM wr m f k
  bel : Bel B [m] w0 wr
  here : Here B wr sc rd T f n z k j
theorem Mid.kept {B : Nat} {w0 wr w' : World} {sc rd : Nat} {T : ByteArray} {m : Nat} {f : Nat → Ent} {n z k j : Nat} (h : Mid B w0 wr sc rd T m f n z k j) (kk : Kept [] wr w') : Mid B w0 w' sc rd T m f n z k j :=
  ⟨h.tab.keep (KeepT.of_kept kk), h.bel.trans (Bel.of_kept (kk.mono (by simp)) h.here.lt), h.here.kept kk⟩
theorem Mid.next {B : Nat} {w0 wr w' : World} {sc rd : Nat} {T : ByteArray} {m : Nat} {f : Nat → Ent} {n z k j k' j' : Nat} (h : Mid B w0 wr sc rd T m f n z k j) (hf : Fr B wr w') (hh : Here B w' sc rd T f n z k' j') : TabM w' m f k ∧ Bel B [m] w0 w' ∧ Here B w' sc rd T f n z k' j' :=
  ⟨h.tab.keep hf.keep, h.bel.trans (hf.bel.mono (Nat.le_refl _) (by simp)), hh⟩
structure Done22 (B : Nat) (w0 wr : World) (m : Nat) (f : Nat → Ent) (n : Nat) : Prop where
  tab : TabM wr m f n
  bel : Bel B [m] w0 wr

/-- What a run's two words say. -/
structure Head22 (wr : World) (g : Nat) (f : Nat → Ent) (n k j : Nat) : Prop where
  kj : k < j
  jn : j ≤ n
  run : ∀ t, k ≤ t → t < j → (f t).num = (f k).num + ((t - k : Nat) : Int)
  c0 : wr.cell? ⟨g, 0, none⟩ = some (.string (str (Lib.itoa (f k).num)))
  c1 : wr.cell? ⟨g, 1, none⟩ = some (.string (str (Lib.itoa ((j - k : Nat) : Int))))

set_option maxHeartbeats 8000000 in
set_option maxRecDepth 100000 in
theorem sub22 (B sc rd xt m : Nat) (T : ByteArray) (f : Nat → Ent) (n z j0 g0 C0 : Nat) (w : World) (hn : n ≤ 500) (hO : ∀ i, i < n → Ok (f i)) (hR : ∀ i j, i < j → j < n → (f i).num < (f j).num)
    (hxB : xt < B) (hxm : xt ≠ m) (hx : w.cell? ⟨xt, 0, none⟩ = some (.map (some m))) (hM : Mid B w w sc rd T m f n z 0 j0) (hH : Head22 w g0 f n 0 j0) :
    Calls Tryz.prog 22 #[.pointer (some ⟨xt, 0, none⟩), .pointer (some ⟨sc, 0, none⟩), .slice (some ⟨g0, 0, none⟩) 2 C0, .int .i64 0, .int .i64 0] w fun e w' => e = .returned (.tuple #[.string (str trl), .nilIface]) ∧ Done22 B w w' m f n := by
  have HQ := Lib.hid (And.intro hn (And.intro hO hR))
  have HX : Hid (∀ V, Bel B [m] w V → V.cell? ⟨xt, 0, none⟩ = some (.map (some m))) := Lib.hid fun V hV => hV.cell hx hxB (by simpa using hxm)
  have HM := Lib.hid hM
  have HH := Lib.hid hH
  obtain ⟨Tr, hTr⟩ : ∃ Tr, str trl = Tr := ⟨_, rfl⟩
  have HTr := Lib.hid hTr
  rw [hTr]
  clear hn hO hR hxB hxm hx hM hH hTr
  go_enter Tryz.func22, Tryz.ntmps22
  go_wp2_with fail
  go_loopg [2, 12, 13] n (fun gk v2 v12 v13 wr => (∃ k j g C, gk = n - k ∧ v2 = .slice (some ⟨g, 0, none⟩) 2 C ∧ v13 = .bool false ∧ Hid (Head22 wr g f n k j) ∧ Hid (Mid B w wr sc rd T m f n z k j)) ∨ (gk = 0 ∧ v12 = .string Tr ∧ v13 = .bool true ∧ Hid (Done22 B w wr m f n)))
  case atStart => exact .inl ⟨0, j0, g0, C0, rfl, rfl, rfl, HH, HM⟩
  case round =>
    rcases hrel with ⟨k, j, g, C, rfl, rfl, rfl, HE, HMid⟩ | ⟨rfl, rfl, rfl, HD⟩
    · have c0 := HE.out.c0
      have c1 := HE.out.c1
      have hkn : k < n := by have := HE.out.kj; have := HE.out.jn; omega
      obtain ⟨a, ha⟩ : ∃ a, (f k).num = a := ⟨_, rfl⟩
      have ha0 : 0 ≤ a := by rw [← ha]; exact (HQ.out.2.1 k hkn).num0
      have ha1 : a ≤ 1048576 := by rw [← ha]; exact (HQ.out.2.1 k hkn).num1
      obtain ⟨c, hc⟩ : ∃ c, j - k = c := ⟨_, rfl⟩
      have hc1 : 1 ≤ c := by have := HE.out.kj; omega
      have hc5 : c ≤ 500 := by have := HE.out.jn; have := HQ.out.1; omega
      rw [ha] at c0
      rw [hc] at c1
      have H30 := Lib.hid fun V => atoi30 a ha0 (by omega) V
      have H30b := Lib.hid fun V => atoi30 (c : Int) (by omega) (by omega) V
      obtain ⟨A, hA⟩ : ∃ A, str (Lib.itoa a) = A := ⟨_, rfl⟩
      obtain ⟨Cs, hCs⟩ : ∃ Cs, str (Lib.itoa (c : Int)) = Cs := ⟨_, rfl⟩
      rw [hA] at c0 H30
      rw [hCs] at c1 H30b
      have HA := Lib.hid (And.intro ha hc)
      clear hA hCs ha hc
      go_wp2_with (go_at_call 30; refine (H30.out _).mono ?_; rintro e V1 ⟨rfl, hk1⟩; refine Hid.out ?_)
      refine Lib.hid ?_
      have c1 := hk1.cell c1 (by simp)
      have HK1 := Lib.hid hk1
      clear hk1 c0
      go_wp2_with (go_at_call 30; refine (H30b.out _).mono ?_; rintro e V2 ⟨rfl, hk2⟩; refine Hid.out ?_)
      refine Lib.hid ?_
      have HM2 := Lib.hid ((HMid.out.kept HK1.out).kept hk2)
      clear hk2 c1 HK1 HMid
      go_wp2_with fail
      go_loopg [17] c (fun gi i wr2 => ∃ d : Nat, gi = c - d ∧ i = .int .i64 (d : Int) ∧ d ≤ c ∧ Hid (Mid B w wr2 sc rd T m f n z (k + d) j))
      case atStart => exact ⟨0, rfl, rfl, Nat.zero_le _, HM2⟩
      case round =>
        obtain ⟨d, rfl, rfl, hd, HMd⟩ := hrel
        rcases Nat.lt_or_ge d c with hlt | hge
        · have hkd : k + d < j := by have := HA.out.2; omega
          have hkdn : k + d < n := by have := HE.out.jn; omega
          obtain ⟨l, l1, l2, l3, l4⟩ := next_ent HMd.out.here hkd HQ.out.2.1
          have hok := HQ.out.2.1 (k + d) hkdn
          have hnum : (f (k + d)).num = a + (d : Int) := by
            rw [HE.out.run (k + d) (by omega) hkd, HA.out.1]
            congr 2
            omega
          have hrise : ∀ i, i < k + d → (f i).num < (f (k + d)).num := fun i hi => HQ.out.2.2 i (k + d) hi hkdn
          have H31 := Lib.hid l4
          have H32 := Lib.hid fun V => fields3 l _ _ _ V l1 l2 l3
          obtain ⟨L, hL⟩ : ∃ L, str l = L := ⟨_, rfl⟩
          unfold Next31 at H31
          rw [hL] at H31 H32
          obtain ⟨A0, hA0⟩ : ∃ x, str (pad (f (k + d)).off 10) = x := ⟨_, rfl⟩
          have hs0 : A0.size = 10 := by
            rw [← hA0, str_size]
            exact pad_length hok.off0 10 (by omega) (by have := hok.off1; simp; omega)
          have H35 : Hid (∀ (V : World) (g C : Nat), V.cell? ⟨xt, 0, none⟩ = some (.map (some m)) → TabM V m f (k + d) → V.cell? ⟨g, 0, none⟩ = some (.string A0) → V.cell? ⟨g, 1, none⟩ = some (.string (str (pad (f (k + d)).gen 5))) → V.cell? ⟨g, 2, none⟩ = some (.string (str [kindB (f (k + d))])) →
              Calls Tryz.prog 35 #[.pointer (some ⟨xt, 0, none⟩), .slice (some ⟨g, 0, none⟩) 3 C, .int .i64 (a + (d : Int)), .int .i64 0, .int .i64 0] V fun e w' => e = .returned .nilIface ∧ KeepM V w' m f (k + d)) := Lib.hid fun V g C h1 h2 h3 h4 h5 => by
            rw [← hnum]
            exact parse35 xt m g C f (k + d) V h1 h2 hrise hok (by rw [hA0]; exact h3) h4 h5
          have H34 : Hid (∀ V : World, V.cell? ⟨xt, 0, none⟩ = some (.map (some m)) → TabM V m f (k + d) → Calls Tryz.prog 34 #[.pointer (some ⟨xt, 0, none⟩), .int .i64 (a + (d : Int))] V fun e w' => e = .returned (.bool false) ∧ w' = V) := Lib.hid fun V h1 h2 => exists34 xt m f (k + d) (a + (d : Int)) V h1 h2 (fun i hi => by rw [← hnum]; exact hrise i hi)
          rw [hA0] at H32
          clear l1 l2 l3 l4 hok hnum hrise hL hA0
          go_wp2_with (go_at_call 31; refine H31.out.mono ?_; rintro e V3 ⟨rfl, hf3, hh3⟩; refine Hid.out ?_)
          refine Lib.hid ?_
          obtain ⟨t3, b3, h3⟩ := HMd.out.next hf3 hh3
          have HV3 := Lib.hid (And.intro t3 (And.intro b3 h3))
          clear t3 b3 h3 hf3 hh3
          go_wp2_with (go_at_call 32; refine (H32.out _).mono ?_; rintro e V4 ⟨g4, C4, rfl, d0, d1, d2, hk4⟩; refine Hid.out ?_)
          refine Lib.hid ?_
          have HV4 : Hid (TabM V4 m f (k + d) ∧ Bel B [m] w V4 ∧ Here B V4 sc rd T f n z (k + d + 1) j) := Lib.hid (by
            obtain ⟨t3, b3, h3⟩ := HV3.out
            exact ⟨t3.keep (KeepT.of_kept hk4), b3.trans (Bel.of_kept (hk4.mono (by simp)) h3.lt), h3.kept hk4⟩)
          have hx4 := HX.out V4 HV4.out.2.1
          have H35' := Lib.hid (H35.out V4 g4 C4 hx4 HV4.out.1 d0 d1 d2)
          have H34' := Lib.hid (H34.out V4 hx4 HV4.out.1)
          clear hx4 d1 d2 hk4 H34 H35
          go_wp2_with (first | (go_at_call 34; refine H34'.out.mono ?_; rintro e V5 ⟨rfl, hv⟩; obtain rfl := hv.symm) | (go_at_call 35; refine H35'.out.mono ?_; rintro e V5 ⟨rfl, ht5, hk5⟩; refine Hid.out ?_))
          refine Lib.hid ?_
          have HV5 : Hid (Mid B w V5 sc rd T m f n z (k + (d + 1)) j) := Lib.hid (by
            obtain ⟨t4, b4, h4⟩ := HV4.out
            exact ⟨ht5, b4.trans (Bel.of_kept hk5 h4.lt), h4.kept_map t4 hk5⟩)
          clear ht5 hk5 d0
          go_wp2_with fail
          go_roundg (c - (d + 1))
          case measure => omega
          case rel => exact ⟨d + 1, rfl, by go_num, by omega, HV5⟩
        · obtain rfl : d = c := by omega
          have hkj : k + d = j := by have := HA.out.2; have := HE.out.kj; omega
          have HMd' : Hid (Mid B w wr sc rd T m f n z j j) := Lib.hid (by have := HMd.out; rw [hkj] at this; exact this)
          rcases next_end HMd'.out.here HQ.out.1 HQ.out.2.1 with ⟨hjn, h31⟩ | ⟨hjn, j', l, l1, l2, l3, l4, l5, l6, l7, l8⟩
          · have H31 := Lib.hid h31
            unfold Last31 at H31
            have H32 := Lib.hid fun V => fields1 V
            have H33 := Lib.hid fun V => contains33_yes V
            rw [HTr.out] at H31 H32 H33
            clear h31
            go_wp2_with (go_at_call 31; refine H31.out.mono ?_; rintro e V3 ⟨rfl, hf3, hh3⟩; refine Hid.out ?_)
            refine Lib.hid ?_
            have HV3 : Hid (TabM V3 m f n ∧ Bel B [m] w V3 ∧ B ≤ V3.heap.size) := Lib.hid (by
              have h := HMd'.out
              rw [hjn] at h
              exact ⟨h.tab.keep hf3.keep, h.bel.trans (hf3.bel.mono (Nat.le_refl _) (by simp)), hh3⟩)
            clear hf3 hh3
            go_wp2_with (go_at_call 32; refine (H32.out _).mono ?_; rintro e V4 ⟨g4, C4, rfl, hk4⟩; refine Hid.out ?_)
            refine Lib.hid ?_
            have HV4 : Hid (Done22 B w V4 m f n) := Lib.hid (by
              obtain ⟨t3, b3, h3⟩ := HV3.out
              exact ⟨t3.keep (KeepT.of_kept hk4), b3.trans (Bel.of_kept (hk4.mono (by simp)) h3)⟩)
            clear hk4
            go_wp2_with (go_at_call 33; refine (H33.out _).mono ?_; rintro e V5 ⟨rfl, hv⟩; obtain rfl := hv.symm)
            go_roundg 0
            case measure => omega
            case rel => exact .inr ⟨rfl, rfl, rfl, HV4⟩
          · have H31 := Lib.hid l8
            unfold Next31 at H31
            have H32 := Lib.hid fun V => fields2 l _ _ V l1 l2 l7
            have H33 := Lib.hid fun V => contains33_no l V l1 l3
            obtain ⟨L, hL⟩ : ∃ L, str l = L := ⟨_, rfl⟩
            rw [hL] at H31 H32 H33
            have HL := Lib.hid (And.intro l4 (And.intro l5 l6))
            clear l1 l2 l3 l4 l5 l6 l7 l8 hL
            go_wp2_with (go_at_call 31; refine H31.out.mono ?_; rintro e V3 ⟨rfl, hf3, hh3⟩; refine Hid.out ?_)
            refine Lib.hid ?_
            obtain ⟨t3, b3, h3⟩ := HMd'.out.next hf3 hh3
            have HV3 := Lib.hid (Mid.mk t3 b3 h3)
            clear t3 b3 h3 hf3 hh3
            go_wp2_with (go_at_call 32; refine (H32.out _).mono ?_; rintro e V4 ⟨g4, C4, rfl, d0, d1, hk4⟩; refine Hid.out ?_)
            refine Lib.hid ?_
            have HV4 := Lib.hid (HV3.out.kept hk4)
            have HE4 : Hid (Head22 V4 g4 f n j j') := Lib.hid ⟨HL.out.1, HL.out.2.1, HL.out.2.2, d0, d1⟩
            clear hk4 d0 d1
            go_wp2_with (go_at_call 33; refine (H33.out _).mono ?_; rintro e V5 ⟨rfl, hv⟩; obtain rfl := hv.symm)
            go_roundg (n - j)
            case measure => have := HE.out.kj; omega
            case rel => exact .inl ⟨j, j', g4, C4, rfl, rfl, rfl, HE4, HV4⟩
    · go_wp2_with fail
      go_ret2
      exact ⟨rfl, HD.out⟩
end Go.Proofs.YtoaedibfgegilaaGreatDoor.st
