/-
  FnLiteralText: spec.Narrow.
-/
import Derived.Test.YtcohlcijgfdanaaDoorNpl
import Derived.Test.YtcohlcijgfdanaaDoorWdl
namespace Go.Proofs.YtcohlcijgfdanaaDoor.wd
open Go.RowKit
open Go.Proofs.YtcohlcijgfdanaaDoor.lt (mkS mkS_size mkS_list)

theorem at_unit (T : ByteArray) (us : List Nat) (hT : T.data.toList = 254 :: 255 :: bytes us) (hu : ∀ u ∈ us, u < 65536) (k u q : Nat) (h : us[k]? = some u) (hq : q = 2 + 2 * k) :
    q + 1 < T.size ∧ (∀ h0 : q < T.size, ((T[q]).toNat : Int) = ((u / 256 : Nat) : Int)) ∧ (∀ h1 : q + 1 < T.size, ((T[q + 1]).toNat : Int) = ((u % 256 : Nat) : Int)) := by
  have hm : u < 65536 := hu u (List.mem_of_getElem? h)
  have hk : k < us.length := (List.getElem?_eq_some_iff.1 h).1
  have hb := bytes_at us k u h
  have hsz : T.size = 2 + 2 * us.length := by rw [Lib.size_eq, hT]; simp only [List.length_cons, bytes_len]; omega
  subst hq
  refine ⟨by omega, fun h0 => ?_, fun h1 => ?_⟩
  · rw [Go.Proofs.YtcohlcijgfdanaaDoor.esc.get_of T _ hT (2 + 2 * k) h0 (UInt8.ofNat (u / 256)) (by rw [show 2 + 2 * k = (2 * k) + 1 + 1 by omega, List.getElem?_cons_succ, List.getElem?_cons_succ]; exact hb.1), UInt8.toNat_ofNat']
    omega
  · rw [Go.Proofs.YtcohlcijgfdanaaDoor.esc.get_of T _ hT (2 + 2 * k + 1) h1 (UInt8.ofNat (u % 256)) (by rw [show 2 + 2 * k + 1 = (2 * k + 1) + 1 + 1 by omega, List.getElem?_cons_succ, List.getElem?_cons_succ]; exact hb.2), UInt8.toNat_ofNat']
    omega

theorem narrow46_no (s : ByteArray) (hm : Go.Proofs.YtcohlcijgfdanaaDoor.u16.mk s.data.toList = false ∨ (Go.Proofs.YtcohlcijgfdanaaDoor.u16.mk s.data.toList = true ∧ (s.size : Int) % 2 = 1)) (w : World) :
    Calls Tryd.prog 46 #[.string s] w fun e w' => e = .returned (.tuple #[.string ⟨#[]⟩, .bool false]) ∧ w = w' := by
  have HC := Lib.hid (Go.Proofs.YtcohlcijgfdanaaDoor.u16.marked s w)
  generalize Go.Proofs.YtcohlcijgfdanaaDoor.u16.mk s.data.toList = b at *
  rcases hm with rfl | ⟨rfl, h⟩
  all_goals
    go_enter Tryd.func46, Tryd.ntmps46
    go_wp2_with (go_at_call 15; refine HC.out.mono ?_; rintro e w1 ⟨rfl, rfl⟩)
    exact bodyPost_ret (v := .tuple #[.string ⟨#[]⟩, .bool false]) (by simp [results, Tryd.results46, go_sem]) rfl ⟨rfl, rfl⟩

/-- What spec.Narrow gives. -/
def narr (cs bad : List Nat) : Array Value := if bad = [] then #[.string (mkS (encs cs)), .bool true] else #[.string ⟨#[]⟩, .bool false]

set_option maxHeartbeats 8000000 in
set_option maxRecDepth 100000 in
theorem narrow46 (cs bad : List Nat) (hcs : ∀ c ∈ cs, Scal c) (hbad : bad = [] ∨ Bad bad) (hu : ∀ u ∈ units cs ++ bad, u < 65536) (T : ByteArray) (hT : T.data.toList = 254 :: 255 :: bytes (units cs ++ bad)) (hsz : T.size ≤ 10000) (w : World) :
    Calls Tryd.prog 46 #[.string T] w fun e w' => e = .returned (.tuple (narr cs bad)) ∧ Below w.heap.size w w' := by
  have hc := Go.Proofs.YtcohlcijgfdanaaDoor.u16.marked T w
  have hmk : Go.Proofs.YtcohlcijgfdanaaDoor.u16.mk T.data.toList = true := by rw [hT]; rfl
  rw [hmk] at hc
  have HC := Lib.hid hc
  have hN : T.size = 2 + 2 * (units cs ++ bad).length := by rw [Lib.size_eq, hT]; simp only [List.length_cons, bytes_len]; omega
  have hev : ((T.size : Int) % 2 == 1) = false := by
    have : ¬ (T.size : Int) % 2 = 1 := by omega
    simpa using this
  have HAT := Lib.hid (at_unit T _ hT hu)
  have HS := Lib.hid hcs
  have HBAD := Lib.hid hbad
  have HLEN : Hid ((units cs ++ bad).length = (units cs).length + bad.length) := Lib.hid List.length_append
  have HN := Lib.hid hN
  have HUL := Lib.hid hu
  clear hc hmk hN hT hu hcs hbad
  go_enter Tryd.func46, Tryd.ntmps46
  go_wp2_with (go_at_call 15; refine HC.out.mono ?_; rintro e w1 ⟨rfl, rfl⟩)
  go_loopw [4, 5] (fun o i wr => ∃ (pre rest : List Nat) (A : ByteArray) (q : Nat), Hid (cs = pre ++ rest) ∧ o = .string A ∧ Hid (A = mkS (encs pre)) ∧ i = .int .i64 (q : Int) ∧ Hid (q = 2 + 2 * (units pre).length) ∧ Hid (Below w.heap.size w wr)) (fun _ i _ => T.size - (intOf i).toNat)
  case atStart => exact ⟨[], cs, ⟨#[]⟩, 2, Lib.hid rfl, rfl, Lib.hid rfl, rfl, Lib.hid rfl, Lib.hid (Below.refl _ _)⟩
  case round =>
    obtain ⟨pre, rest, A, q, hpr, rfl, HA, rfl, HQ, HB⟩ := hrel
    have hqT : q ≤ T.size := by
      rw [HN.out, HQ.out, HLEN.out, hpr.out, units_app, List.length_append]; omega
    have hA4 : A.size ≤ 40000 := by
      rw [HA.out, mkS_size]
      have h1 := encs_len pre
      have h2 : pre.length ≤ (units pre).length := by
        clear HA HB HQ hqT h1 hpr
        induction pre with
        | nil => simp
        | cons c r ih => have := (unit_len c).1; show _ ≤ (unit c ++ units r).length; rw [List.length_append, List.length_cons]; omega
      have := HQ.out
      omega
    cases rest with
    | cons c rest =>
      have hsc : Scal c := HS.out c (by rw [hpr.out]; simp)
      have hat : ∀ (k u q' : Nat), (unit c)[k]? = some u → q' = 2 + 2 * ((units pre).length + k) → _ := fun k u q' h hq' => HAT.out ((units pre).length + k) u q' (by
          have h0 := units_at pre rest c k u h
          rw [← hpr.out] at h0
          rw [List.getElem?_append_left (List.getElem?_eq_some_iff.1 h0).1]
          exact h0) hq'
      have hEs : (Utf8.encode (c : Int)).size ≤ 4 := by rw [encode_mkS, mkS_size]; exact (encodeRune_len _).2
      have hA2 : Hid (A ++ Utf8.encode (c : Int) = mkS (encs (pre ++ [c]))) := Lib.hid (by rw [HA.out, encode_mkS, mkS_app, encs_snoc])
      have hpr2 : Hid (cs = (pre ++ [c]) ++ rest) := Lib.hid (by rw [hpr.out]; simp)
      have hq2 : Hid (q + 2 * (unit c).length = 2 + 2 * (units (pre ++ [c])).length) := Lib.hid (by rw [units_snoc, List.length_append, HQ.out]; omega)
      have HSC := Lib.hid hsc
      by_cases h16 : c < 65536
      · have hu1 := unit_lo c h16
        obtain ⟨f0, f1, f2⟩ := hat 0 c q (by rw [hu1]; rfl) (by rw [HQ.out]; omega)
        have hq3 : Hid (q + 2 = 2 + 2 * (units (pre ++ [c])).length) := Lib.hid (by have := hq2.out; rw [hu1] at this; exact this)
        have hcc : ((c : Int) < 55296) ∨ (¬ (c : Int) < 55296 ∧ 57343 < (c : Int)) := by have := HSC.out; unfold Scal at this; omega
        have hd1 : (c : Int) ≤ 65535 := by omega
        have hd0 : (0 : Int) ≤ (c : Int) := by omega
        have hor := i64_or ((c / 256 : Nat) : Int) ((c % 256 : Nat) : Int) (by omega) (by omega) (by omega) (by omega)
        have e : ((c / 256 : Nat) : Int) * 256 + ((c % 256 : Nat) : Int) = (c : Int) := by omega
        rw [e] at hor
        have q0 : (0 : Int) ≤ ((c / 256 : Nat) : Int) := by omega
        have q1 : ((c / 256 : Nat) : Int) ≤ 255 := by omega
        have q2 : (0 : Int) ≤ ((c % 256 : Nat) : Int) := by omega
        have q3 : ((c % 256 : Nat) : Int) ≤ 255 := by omega
        generalize ((c / 256 : Nat) : Int) = x at *
        generalize ((c % 256 : Nat) : Int) = y at *
        have g0 := f1 (by omega)
        have g1 := f2 f0
        clear f1 f2 e hat h16 hu1 hsc hq2
        generalize (c : Int) = d at *
        generalize hE : Utf8.encode d = E at *
        rcases hcc with k1 | ⟨k1, k2⟩
        all_goals
          go_wp2_with fail
          go_quiet (fail)
          obtain ⟨W1, hW1⟩ : ∃ X, wr.drewN nq = X := ⟨_, rfl⟩
          have hB1 : Hid (Below w.heap.size w W1) := Lib.hid (by rw [← hW1]; exact ⟨HB.out.os, HB.out.tape, HB.out.output, HB.out.size, HB.out.block⟩)
          rw [hW1]
          clear hW1
          go_wp2_with fail
          go_roundw
          case rel => first | exact ⟨pre ++ [c], rest, _, q + 2, hpr2, rfl, hA2, rfl, hq3, hB1⟩ | ((repeat apply Exists.intro); refine ⟨?_, rfl⟩; exact ⟨pre ++ [c], rest, _, q + 2, hpr2, rfl, hA2, by simp, hq3, hB1⟩)
          case measure => simp [intOf]; omega
      · have hu1 := unit_hi c h16
        have hcm : c ≤ 1114111 := by have := HSC.out; unfold Scal at this; omega
        obtain ⟨U, hU⟩ : ∃ U, U = 55296 + (c - 65536) / 1024 := ⟨_, rfl⟩
        obtain ⟨V, hV⟩ : ∃ V, V = 56320 + (c - 65536) % 1024 := ⟨_, rfl⟩
        rw [← hU, ← hV] at hu1
        obtain ⟨f0, f1, f2⟩ := hat 0 U q (by rw [hu1]; rfl) (by rw [HQ.out]; omega)
        obtain ⟨f3, f4, f5⟩ := hat 1 V (q + 2) (by rw [hu1]; rfl) (by rw [HQ.out]; omega)
        have hq3 : Hid (q + 2 + 2 = 2 + 2 * (units (pre ++ [c])).length) := Lib.hid (by have := hq2.out; rw [hu1] at this; exact this)
        have hor := i64_or ((U / 256 : Nat) : Int) ((U % 256 : Nat) : Int) (by omega) (by omega) (by omega) (by omega)
        have e : ((U / 256 : Nat) : Int) * 256 + ((U % 256 : Nat) : Int) = (U : Int) := by omega
        rw [e] at hor
        have hor2 := i64_or ((V / 256 : Nat) : Int) ((V % 256 : Nat) : Int) (by omega) (by omega) (by omega) (by omega)
        have e2 : ((V / 256 : Nat) : Int) * 256 + ((V % 256 : Nat) : Int) = (V : Int) := by omega
        rw [e2] at hor2
        have q0 : (0 : Int) ≤ ((U / 256 : Nat) : Int) := by omega
        have q1 : ((U / 256 : Nat) : Int) ≤ 255 := by omega
        have q2 : (0 : Int) ≤ ((U % 256 : Nat) : Int) := by omega
        have q3 : ((U % 256 : Nat) : Int) ≤ 255 := by omega
        have p0 : (0 : Int) ≤ ((V / 256 : Nat) : Int) := by omega
        have p1 : ((V / 256 : Nat) : Int) ≤ 255 := by omega
        have p2 : (0 : Int) ≤ ((V % 256 : Nat) : Int) := by omega
        have p3 : ((V % 256 : Nat) : Int) ≤ 255 := by omega
        have u0 : ¬ (U : Int) < 55296 := by omega
        have u1 : ¬ 57343 < (U : Int) := by omega
        have u2 : ¬ 56319 < (U : Int) := by omega
        have v0 : ¬ (V : Int) < 56320 := by omega
        have v1 : ¬ 57343 < (V : Int) := by omega
        have uu0 : (55296 : Int) ≤ (U : Int) := by omega
        have uu1 : (U : Int) ≤ 56319 := by omega
        have vv0 : (56320 : Int) ≤ (V : Int) := by omega
        have vv1 : (V : Int) ≤ 57343 := by omega
        have hcE : 65536 + ((U : Int) - 55296) * 1024 + (V : Int) - 56320 = (c : Int) := by omega
        rw [← hcE] at hA2 hEs
        generalize ((U / 256 : Nat) : Int) = x at *
        generalize ((U % 256 : Nat) : Int) = y at *
        generalize ((V / 256 : Nat) : Int) = xb at *
        generalize ((V % 256 : Nat) : Int) = yb at *
        have f0' : q + 3 < T.size := f3
        have f0'' : q + 2 < T.size := by omega
        have f4i : (q : Int) + 2 < (T.size : Int) := by omega
        have f5i : (q : Int) + 3 < (T.size : Int) := by omega
        have f6i : (0 : Int) ≤ (q : Int) + 2 := by omega
        have f7i : (0 : Int) ≤ (q : Int) + 3 := by omega
        have hge : ¬ (T.size : Int) ≤ (q : Int) + 3 := by omega
        have g0 := f1 (by omega)
        have g1 := f2 f0
        have g2 := f4 f0''
        have g3 := f5 f3
        have g3' : ∀ h, ((T[q + 3]'h).toNat : Int) = yb := fun _ => g3
        have g3 := g3' f0'
        clear f1 f2 f4 f5 g3' e e2 hat h16 hu1 hsc hq2 hU hV hcE hcm
        generalize (U : Int) = d at *
        generalize (V : Int) = v at *
        generalize hE : Utf8.encode (65536 + (d - 55296) * 1024 + v - 56320) = E at *
        go_wp2_with fail
        go_quiet (fail)
        obtain ⟨W1, hW1⟩ : ∃ X, wr.drewN nq = X := ⟨_, rfl⟩
        have hB1 : Hid (Below w.heap.size w W1) := Lib.hid (by rw [← hW1]; exact ⟨HB.out.os, HB.out.tape, HB.out.output, HB.out.size, HB.out.block⟩)
        rw [hW1]
        clear hW1
        go_wp2_with fail
        go_quiet (fail)
        obtain ⟨W2, hW2⟩ : ∃ X, W1.drewN nq = X := ⟨_, rfl⟩
        have hB2 : Hid (Below w.heap.size w W2) := Lib.hid (by rw [← hW2]; exact ⟨hB1.out.os, hB1.out.tape, hB1.out.output, hB1.out.size, hB1.out.block⟩)
        rw [hW2]
        clear hW2
        go_wp2_with fail
        go_roundw
        case rel => first | exact ⟨pre ++ [c], rest, _, q + 2 + 2, hpr2, rfl, hA2, rfl, hq3, hB2⟩ | ((repeat apply Exists.intro); refine ⟨?_, rfl⟩; exact ⟨pre ++ [c], rest, _, q + 2 + 2, hpr2, rfl, hA2, by simp, hq3, hB2⟩)
        case measure => simp [intOf]; omega
    | nil =>
      have hpre : cs = pre := by rw [hpr.out, List.append_nil]
      subst hpre
      rcases HBAD.out with hb | hb
      · have hend : ¬ (q : Int) < (T.size : Int) := by
          have h1 := HN.out
          have h2 := HLEN.out
          have h3 := HQ.out
          have : bad.length = 0 := by rw [hb]; rfl
          omega
        go_wp2_with fail
        exact bodyPost_ret (v := .tuple #[.string A, .bool true]) (by simp [results, Tryd.results46, go_sem]) rfl ⟨by rw [HA.out]; rfl, HB.out⟩
      · obtain ⟨u, r, hbad⟩ : ∃ u r, bad = u :: r := by
          cases bad with
          | nil => exact absurd hb (by simp [Bad])
          | cons u r => exact ⟨u, r, rfl⟩
        have hne : ¬ bad = [] := by rw [hbad]; simp
        rw [hbad] at hb
        have hN2 : T.size = q + 2 * (r.length + 1) := by have h1 := HN.out; have h2 := HLEN.out; have h3 := HQ.out; rw [hbad] at h1 h2; simp only [List.length_cons] at h2; omega
        have hat : ∀ (k u q' : Nat), bad[k]? = some u → q' = 2 + 2 * ((units cs).length + k) → _ := fun k u q' h hq' => HAT.out ((units cs).length + k) u q' (by
          rw [List.getElem?_append_right (by omega), Nat.add_sub_cancel_left]; exact h) hq'
        obtain ⟨f0, f1, f2⟩ := hat 0 u q (by rw [hbad]; rfl) (by rw [HQ.out]; omega)
        have hV : Hid (∀ v t, r = v :: t → v < 65536 ∧ _) := Lib.hid fun v t e => ⟨HUL.out v (by rw [hbad, e]; simp), hat 1 v (q + 2) (by rw [hbad, e]; rfl) (by rw [HQ.out]; omega)⟩
        have hu16 : u < 65536 := HUL.out u (by rw [hbad]; simp)
        have HRET : Hid (∀ W, Below w.heap.size w W → Ending.returned (.tuple #[.string ⟨#[]⟩, .bool false]) = .returned (.tuple (narr cs bad)) ∧ Below w.heap.size w W) := Lib.hid fun W h => ⟨by unfold narr; rw [if_neg hne], h⟩
        have hor := i64_or ((u / 256 : Nat) : Int) ((u % 256 : Nat) : Int) (by omega) (by omega) (by omega) (by omega)
        have e : ((u / 256 : Nat) : Int) * 256 + ((u % 256 : Nat) : Int) = (u : Int) := by omega
        rw [e] at hor
        have q0 : (0 : Int) ≤ ((u / 256 : Nat) : Int) := by omega
        have q1 : ((u / 256 : Nat) : Int) ≤ 255 := by omega
        have q2 : (0 : Int) ≤ ((u % 256 : Nat) : Int) := by omega
        have q3 : ((u % 256 : Nat) : Int) ≤ 255 := by omega
        have hUD : (55296 : Int) ≤ (u : Int) ∧ (u : Int) ≤ 57343 := by
          rcases hb with h | h <;> omega
        have hUB := hUD.1
        have hUE := hUD.2
        have u0 : ¬ (u : Int) < 55296 := by omega
        have u1 : ¬ 57343 < (u : Int) := by omega
        have HBB : Hid ((56319 < (u : Int)) ∨ (¬ 56319 < (u : Int) ∧ ∀ v t, r = v :: t → (v : Int) < 56320 ∨ (¬ (v : Int) < 56320 ∧ 57343 < (v : Int)))) := Lib.hid (by
          rcases hb with h | ⟨h1, h2, h3⟩
          · exact .inl (by omega)
          · refine .inr ⟨by omega, fun v t e => ?_⟩
            rw [e] at h3
            have h3' : v < 56320 ∨ 57343 < v := h3
            omega)
        have hrl : Hid (∀ v t, r = v :: t → 1 ≤ r.length) := Lib.hid fun v t e => by rw [e]; simp
        have HN2 := Lib.hid hN2
        have hq0 : q < T.size := by omega
        have g0 := f1 hq0
        have g1 := f2 f0
        have hlt : (q : Int) < (T.size : Int) := by omega
        clear f1 f2 e hat hb hne hUD hu16 hbad hN2
        generalize ((u / 256 : Nat) : Int) = x at *
        generalize ((u % 256 : Nat) : Int) = y at *
        generalize (u : Int) = d at *
        go_wp2_with fail
        go_quiet (fail)
        obtain ⟨W1, hW1⟩ : ∃ X, wr.drewN nq = X := ⟨_, rfl⟩
        have hB1 : Hid (Below w.heap.size w W1) := Lib.hid (by rw [← hW1]; exact ⟨HB.out.os, HB.out.tape, HB.out.output, HB.out.size, HB.out.block⟩)
        rw [hW1]
        clear hW1
        rcases HBB.out with k1 | ⟨k1, k2⟩
        · go_wp2_with fail
          exact bodyPost_ret (v := .tuple #[.string ⟨#[]⟩, .bool false]) (by simp [results, Tryd.results46, go_sem]) rfl (HRET.out _ hB1.out)
        · cases r with
          | nil =>
            have hge : (T.size : Int) ≤ (q : Int) + 3 := by
              have h1 := HN2.out
              simp only [List.length_nil] at h1
              omega
            go_wp2_with fail
            exact bodyPost_ret (v := .tuple #[.string ⟨#[]⟩, .bool false]) (by simp [results, Tryd.results46, go_sem]) rfl (HRET.out _ hB1.out)
          | cons v t =>
            have K2 := k2 v t rfl
            obtain ⟨hv16, f3, f4, f5⟩ := hV.out v t rfl
            have hor2 := i64_or ((v / 256 : Nat) : Int) ((v % 256 : Nat) : Int) (by omega) (by omega) (by omega) (by omega)
            have e2 : ((v / 256 : Nat) : Int) * 256 + ((v % 256 : Nat) : Int) = (v : Int) := by omega
            rw [e2] at hor2
            have p0 : (0 : Int) ≤ ((v / 256 : Nat) : Int) := by omega
            have p1 : ((v / 256 : Nat) : Int) ≤ 255 := by omega
            have p2 : (0 : Int) ≤ ((v % 256 : Nat) : Int) := by omega
            have p3 : ((v % 256 : Nat) : Int) ≤ 255 := by omega
            have f0' : q + 3 < T.size := f3
            have f0'' : q + 2 < T.size := by omega
            have f4i : (q : Int) + 2 < (T.size : Int) := by omega
            have f5i : (q : Int) + 3 < (T.size : Int) := by omega
            have f6i : (0 : Int) ≤ (q : Int) + 2 := by omega
            have f7i : (0 : Int) ≤ (q : Int) + 3 := by omega
            have hge : ¬ (T.size : Int) ≤ (q : Int) + 3 := by omega
            have g2 := f4 f0''
            have g3 := f5 f3
            have g3' : ∀ h, ((T[q + 3]'h).toNat : Int) = ((v % 256 : Nat) : Int) := fun _ => g3
            have g3 := g3' f0'
            clear f4 f5 g3' e2 k2 hV hv16
            generalize ((v / 256 : Nat) : Int) = xb at *
            generalize ((v % 256 : Nat) : Int) = yb at *
            generalize (v : Int) = dv at *
            rcases K2 with h1 | ⟨h1, h2⟩
            all_goals
              go_wp2_with fail
              go_quiet (fail)
              obtain ⟨W2, hW2⟩ : ∃ X, W1.drewN nq = X := ⟨_, rfl⟩
              have hB2 : Hid (Below w.heap.size w W2) := Lib.hid (by rw [← hW2]; exact ⟨hB1.out.os, hB1.out.tape, hB1.out.output, hB1.out.size, hB1.out.block⟩)
              rw [hW2]
              clear hW2
              go_wp2_with fail
              exact bodyPost_ret (v := .tuple #[.string ⟨#[]⟩, .bool false]) (by simp [results, Tryd.results46, go_sem]) rfl (HRET.out _ hB2.out)
end Go.Proofs.YtcohlcijgfdanaaDoor.wd
