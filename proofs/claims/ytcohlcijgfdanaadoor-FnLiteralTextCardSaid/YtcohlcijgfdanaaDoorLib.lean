/-
  FnLiteralText: octal digits behind a reverse solidus.
-/
import Derived.Test.YtcohlcijgfdanaaDoorLia
namespace Go.Proofs.YtcohlcijgfdanaaDoor.lt
open Go.RowKit
open Go.Proofs.YtcohlcijgfdanaaDoor.esc (RS grown_set)

theorem take_snoc (l : List UInt8) (n k : Nat) (c : UInt8) (h : l[n + k]? = some c) : (l.drop n).take k ++ [c] = (l.drop n).take (k + 1) := by
  have h2 : (l.drop n)[k]? = some c := by rw [List.getElem?_drop]; exact h
  obtain ⟨hk, rfl⟩ := List.getElem?_eq_some_iff.1 h2
  exact (List.take_succ_eq_append_getElem hk).symm

/-- How many digits are read. -/
structure OS (L : List UInt8) (n k : Nat) (m : Nat) : Prop where
  k1 : 1 ≤ k
  k3 : k ≤ 3
  le : n + k ≤ L.length
  dig : ∀ d ∈ (L.drop n).take k, od d = true
  val : octM 0 ((L.drop n).take k) = some m

theorem OS.len {L : List UInt8} {n k m : Nat} (h : OS L n k m) : ((L.drop n).take k).length = k := by
  have := h.le
  rw [List.length_take, List.length_drop]; omega
theorem OS.next {L : List UInt8} {n k m : Nat} (h : OS L n k m) (c : UInt8) (hc : L[n + k]? = some c) (ho : od c = true) (hk : k < 3) : OS L n (k + 1) (m * 8 + (c.toNat - 48)) where
  k1 := by omega
  k3 := by omega
  le := by have := (List.getElem?_eq_some_iff.1 hc).1; omega
  dig d hd := by
    rw [← take_snoc L n k c hc] at hd
    rcases List.mem_append.1 hd with hd | hd
    · exact h.dig d hd
    · rw [List.mem_singleton.1 hd]; exact ho
  val := by
    rw [← take_snoc L n k c hc]
    exact octM_snoc _ _ _ _ h.val ho

set_option maxHeartbeats 4000000 in
set_option maxRecDepth 100000 in
theorem escOct (L : List UInt8) (g : Nat) (T : ByteArray) (hT : T.data.toList = L) (n : Nat) (c : UInt8) (w : World) (hS : RS g T n w) (hc : L[n]? = some c) (ho : od c = true) (hz : T.size ≤ 10000) :
    Calls Tryd.prog 69 #[.pointer (some ⟨g, 0, none⟩)] w fun e w' => ∃ ds r, L.drop n = ds ++ r ∧ ds ≠ [] ∧ (∀ d ∈ ds, od d = true) ∧ ds.length ≤ 3 ∧ (ds.length = 3 ∨ ∀ c r', r = c :: r' → od c = false) ∧
      e = .returned (.tuple #[.int .u8 ((octB ds).toNat : Int), .bool true]) ∧ RS g T (n + ds.length) w' ∧ GS g w w' := by
  have hsz : T.size = L.length := by rw [← hT, Lib.size_eq]
  have hn : n < T.size := by rw [hsz]; exact (List.getElem?_eq_some_iff.1 hc).1
  have HG := Lib.hid fun k h x => Go.Proofs.YtcohlcijgfdanaaDoor.esc.get_of T L hT k h x
  have hx := HG.out n hn c hc
  have hv : 48 ≤ c.toNat ∧ c.toNat ≤ 55 := by unfold od at ho; simpa using ho
  obtain ⟨d, hd⟩ : ∃ d : Int, (c.toNat : Int) = d := ⟨_, rfl⟩
  have hxd : ((T[n]'hn).toNat : Int) = d := by rw [hx]; exact hd
  have d0 : 48 ≤ d := by omega
  have d1 : d ≤ 55 := by omega
  have n0 : d ≠ 110 := by omega
  have n1 : d ≠ 114 := by omega
  have n2 : d ≠ 116 := by omega
  have n3 : d ≠ 98 := by omega
  have n4 : d ≠ 102 := by omega
  have n5 : d ≠ 10 := by omega
  have n6 : d ≠ 13 := by omega
  have n7 : ¬ d < 48 := by omega
  have n8 : ¬ 55 < d := by omega
  have hOS : Hid (OS L n 1 (c.toNat - 48)) := Lib.hid (by
    have ht : (L.drop n).take 1 = [c] := by
      have := take_snoc L n 0 c hc
      rw [← this]; simp
    exact ⟨by omega, by omega, by have := (List.getElem?_eq_some_iff.1 hc).1; omega, fun x hx => by rw [ht] at hx; rw [List.mem_singleton.1 hx]; exact ho, by rw [ht]; simp [octM, hv]⟩)
  have hd48 : Hid (((c.toNat - 48 : Nat) : Int) = d - 48) := Lib.hid (by omega)
  have HSZ := Lib.hid hsz
  have HS := Lib.hid hS
  obtain ⟨c0, c1, c2, f1⟩ := hS
  clear hx hv hd hT hc ho hsz
  have HGR : Hid (GS g w w) := Lib.hid (GS.refl g w)
  go_enter Tryd.func69, Tryd.ntmps69
  go_wp2_with fail
  go_quiet (fail)
  obtain ⟨W1, hW1⟩ : ∃ X, w.drewN nq = X := ⟨_, rfl⟩
  have HS1 : Hid (RS g T n W1) := Lib.hid (by rw [← hW1]; exact RS.on HS.out rfl)
  have HGR1 : Hid (GS g w W1) := Lib.hid (by rw [← hW1]; exact GS.draws HGR.out _)
  rw [hW1]
  clear hW1 c0 c1 c2 f1 HS HGR
  obtain ⟨c0, c1, c2, f1⟩ := HS1.out
  go_wp2_with fail
  go_quiet (fail)
  obtain ⟨W2, hW2⟩ : ∃ X, W1.drewN nq = X := ⟨_, rfl⟩
  have HS2 : Hid (RS g T n W2) := Lib.hid (by rw [← hW2]; exact RS.on HS1.out rfl)
  have HGR2 : Hid (GS g w W2) := Lib.hid (by rw [← hW2]; exact GS.draws HGR1.out _)
  rw [hW2]
  clear hW2 c0 c1 c2 f1 HS1 HGR1
  obtain ⟨c0, c1, c2, f1⟩ := HS2.out
  go_wp2_with fail
  obtain ⟨W3, hW3⟩ : ∃ X, W2.setCell ⟨g, 1, none⟩ (.int .i64 ((n : Int) + 1)) = X := ⟨_, rfl⟩
  have HS3 : Hid (RS g T (n + 1) W3) := Lib.hid (by rw [← hW3]; exact RS.step (m := n + 1) HS2.out)
  have HGR3 : Hid (GS g w W3) := Lib.hid (by rw [← hW3]; exact GS.set HGR2.out)
  rw [hW3]
  clear hW3 c0 c1 c2 f1 HS2 HGR2 n0 n1 n2 n3 n4 n5 n6 n7 n8 hxd
  go_loopw [5, 6] (fun o kk wr => ∃ k m : Nat, o = .int .i64 (m : Int) ∧ kk = .int .i64 (k : Int) ∧ Hid (OS L n k m) ∧ Hid (RS g T (n + k) wr) ∧ Hid (GS g w wr)) (fun _ kk _ => 4 - (intOf kk).toNat)
  case atStart => exact ⟨1, c.toNat - 48, by rw [hd48.out], rfl, hOS, HS3, HGR3⟩
  case round =>
    obtain ⟨k, m, rfl, rfl, HO, HR, HGW⟩ := hrel
    obtain ⟨c0, c1, c2, f1⟩ := HR.out
    have hk1 := HO.out.k1
    have hk3 := HO.out.k3
    have hle := HO.out.le
    have hm := octM_lt3 _ _ HO.out.val (by rw [HO.out.len]; exact hk3)
    have hexit : ∀ r : List UInt8, L.drop (n + k) = r → (k = 3 ∨ ∀ c r', r = c :: r' → od c = false) → ∃ ds r, L.drop n = ds ++ r ∧ ds ≠ [] ∧ (∀ d ∈ ds, od d = true) ∧ ds.length ≤ 3 ∧ (ds.length = 3 ∨ ∀ c r', r = c :: r' → od c = false) ∧ ds.length = k ∧ ((m % 256 : Nat) : Int) = ((octB ds).toNat : Int) := fun r hr hend => by
      refine ⟨(L.drop n).take k, (L.drop n).drop k, (List.take_append_drop k _).symm, ?_, HO.out.dig, by rw [HO.out.len]; exact hk3, ?_, HO.out.len, ?_⟩
      · intro e
        have := HO.out.len
        rw [e] at this
        simp at this
        omega
      · rw [HO.out.len, List.drop_drop, hr]
        exact hend
      · exact (octB_of _ _ HO.out.val (by
          intro e
          have := HO.out.len
          rw [e] at this
          simp at this
          omega) (by rw [HO.out.len]; exact hk3)).symm
    have hand := i64_and_255 m (by omega)
    have hq0 : (0 : Int) ≤ ((m % 256 : Nat) : Int) := by omega
    have hq1 : ((m % 256 : Nat) : Int) ≤ 255 := by omega
    obtain ⟨q, hq⟩ : ∃ q : Int, ((m % 256 : Nat) : Int) = q := ⟨_, rfl⟩
    rw [hq] at hand hexit hq0 hq1
    have HEX := Lib.hid hexit
    clear hexit hq
    have hzl := HSZ.out
    obtain ⟨p, hp⟩ : ∃ p, n + k = p := ⟨_, rfl⟩
    rw [hp] at HR c1
    have HP := Lib.hid hp
    by_cases hend : n + k < T.size
    · obtain ⟨x, hx⟩ : ∃ x, L[n + k]? = some x := ⟨L[n + k], List.getElem?_eq_getElem (by omega)⟩
      have hpT : p < T.size := by omega
      have hg := HG.out p hpT x (by rw [← hp]; exact hx)
      have hdr : L.drop (n + k) = x :: L.drop (n + k + 1) := by
        obtain ⟨hk', rfl⟩ := List.getElem?_eq_some_iff.1 hx
        exact List.drop_eq_getElem_cons hk'
      have hlt : (p : Int) < (T.size : Int) := by omega
      have hx256 := x.toNat_lt
      by_cases hk : k = 3
      · obtain ⟨ds, r, x1, x2, x3, x4, x5, x6, x7⟩ := HEX.out _ hdr (Or.inl hk)
        have X := Lib.hid (And.intro x1 (And.intro x2 (And.intro x3 (And.intro x4 (And.intro x5 (And.intro x6 x7))))))
        clear x1 x2 x3 x4 x5 x6 x7 hzl hle hm hdr hx hend hp
        subst hk
        go_wp2_with fail
        go_quiet (fail)
        obtain ⟨W4, hW4⟩ : ∃ X, wr.drewN nq = X := ⟨_, rfl⟩
        have HS4 : Hid (RS g T p W4) := Lib.hid (by rw [← hW4]; exact RS.on HR.out rfl)
        have HGR4 : Hid (GS g w W4) := Lib.hid (by rw [← hW4]; exact GS.draws HGW.out _)
        rw [hW4]
        clear hW4 c0 c1 c2 f1
        go_wp2_with fail
        obtain ⟨x1, x2, x3, x4, x5, x6, x7⟩ := X.out
        refine bodyPost_ret (v := .tuple #[.int .u8 q, .bool true]) (by simp [results, Tryd.results69, go_sem]) rfl ⟨ds, r, x1, x2, x3, x4, x5, ?_, by rw [x6, HP.out]; exact HS4.out, HGR4.out⟩
        rw [x7]
      · have hk2 : (k : Int) < 3 := by omega
        obtain ⟨d', hd'⟩ : ∃ d' : Int, (x.toNat : Int) = d' := ⟨_, rfl⟩
        have hgd : ((T[p]'hpT).toNat : Int) = d' := by rw [hg]; exact hd'
        have e0 : 0 ≤ d' := by omega
        have e1 : d' ≤ 255 := by omega
        cases ho : od x
        · obtain ⟨ds, r, x1, x2, x3, x4, x5, x6, x7⟩ := HEX.out _ hdr (Or.inr fun c r' e => by
            obtain ⟨rfl, _⟩ := List.cons.inj e
            exact ho)
          have hov : d' < 48 ∨ (48 ≤ d' ∧ 55 < d') := by
            have : ¬ (48 ≤ x.toNat ∧ x.toNat ≤ 55) := by unfold od at ho; simpa using ho
            omega
          have X := Lib.hid (And.intro x1 (And.intro x2 (And.intro x3 (And.intro x4 (And.intro x5 (And.intro x6 x7))))))
          clear x1 x2 x3 x4 x5 x6 x7 hzl hle hm hdr hx hend hp hg hd' ho
          rcases hov with hov | ⟨hov, hov2⟩
          · have cb : decide ((48 : Int) ≤ d') = false := decide_eq_false (by omega)
            go_wp2_with fail
            go_quiet (fail)
            obtain ⟨W4, hW4⟩ : ∃ X, wr.drewN nq = X := ⟨_, rfl⟩
            have HS4 : Hid (RS g T p W4) := Lib.hid (by rw [← hW4]; exact RS.on HR.out rfl)
            have HGR4 : Hid (GS g w W4) := Lib.hid (by rw [← hW4]; exact GS.draws HGW.out _)
            rw [hW4]
            clear hW4 c0 c1 c2 f1
            go_wp2_with fail
            obtain ⟨x1, x2, x3, x4, x5, x6, x7⟩ := X.out
            refine bodyPost_ret (v := .tuple #[.int .u8 q, .bool true]) (by simp [results, Tryd.results69, go_sem]) rfl ⟨ds, r, x1, x2, x3, x4, x5, ?_, by rw [x6, HP.out]; exact HS4.out, HGR4.out⟩
            rw [x7]
          · have cb : decide (d' ≤ (55 : Int)) = false := decide_eq_false (by omega)
            go_wp2_with fail
            go_quiet (fail)
            obtain ⟨W4, hW4⟩ : ∃ X, wr.drewN nq = X := ⟨_, rfl⟩
            have HS4 : Hid (RS g T p W4) := Lib.hid (by rw [← hW4]; exact RS.on HR.out rfl)
            have HGR4 : Hid (GS g w W4) := Lib.hid (by rw [← hW4]; exact GS.draws HGW.out _)
            rw [hW4]
            clear hW4 c0 c1 c2 f1
            go_wp2_with fail
            obtain ⟨x1, x2, x3, x4, x5, x6, x7⟩ := X.out
            refine bodyPost_ret (v := .tuple #[.int .u8 q, .bool true]) (by simp [results, Tryd.results69, go_sem]) rfl ⟨ds, r, x1, x2, x3, x4, x5, ?_, by rw [x6, HP.out]; exact HS4.out, HGR4.out⟩
            rw [x7]
        · have hov : 48 ≤ d' ∧ d' ≤ 55 := by
            have : 48 ≤ x.toNat ∧ x.toNat ≤ 55 := by unfold od at ho; simpa using ho
            omega
          obtain ⟨hov1, hov2⟩ := hov
          have HON := Lib.hid (HO.out.next x hx ho (by omega))
          have HVAL : Hid (((m * 8 + (x.toNat - 48) : Nat) : Int) = 8 * (m : Int) + (d' - 48)) := Lib.hid (by omega)
          clear hzl hle hdr hx hend hp hg hd' ho HEX hand hx256
          go_wp2_with fail
          go_quiet (fail)
          obtain ⟨W4, hW4⟩ : ∃ X, wr.drewN nq = X := ⟨_, rfl⟩
          have HS4 : Hid (RS g T p W4) := Lib.hid (by rw [← hW4]; exact RS.on HR.out rfl)
          have HGR4 : Hid (GS g w W4) := Lib.hid (by rw [← hW4]; exact GS.draws HGW.out _)
          rw [hW4]
          clear hW4 c0 c1 c2 f1
          obtain ⟨c0, c1, c2, f1⟩ := HS4.out
          go_wp2_with fail
          go_quiet (fail)
          obtain ⟨W5, hW5⟩ : ∃ X, W4.drewN nq = X := ⟨_, rfl⟩
          have HS5 : Hid (RS g T p W5) := Lib.hid (by rw [← hW5]; exact RS.on HS4.out rfl)
          have HGR5 : Hid (GS g w W5) := Lib.hid (by rw [← hW5]; exact GS.draws HGR4.out _)
          rw [hW5]
          clear hW5 c0 c1 c2 f1
          obtain ⟨c0, c1, c2, f1⟩ := HS5.out
          go_wp2_with fail
          go_roundw
          case rel =>
            refine ⟨k + 1, m * 8 + (x.toNat - 48), by rw [HVAL.out], by simp, HON, Lib.hid ?_, Lib.hid (GS.set HGR5.out)⟩
            have := RS.step (m := p + 1) HS5.out
            rw [show n + (k + 1) = p + 1 by have := HP.out; omega]
            exact this
          case measure => simp [intOf]; omega
    · have cb : decide ((p : Int) < (T.size : Int)) = false := decide_eq_false (by omega)
      have cb2 : decide (p < T.size) = false := decide_eq_false (by omega)
      have hdr : L.drop (n + k) = [] := List.drop_eq_nil_of_le (by omega)
      obtain ⟨ds, r, x1, x2, x3, x4, x5, x6, x7⟩ := HEX.out [] hdr (Or.inr fun c r' e => by cases e)
      have X := Lib.hid (And.intro x1 (And.intro x2 (And.intro x3 (And.intro x4 (And.intro x5 (And.intro x6 x7))))))
      clear x1 x2 x3 x4 x5 x6 x7 hzl hle hm hdr hend hp
      go_wp2_with fail
      go_quiet (fail)
      obtain ⟨W4, hW4⟩ : ∃ X, wr.drewN nq = X := ⟨_, rfl⟩
      have HS4 : Hid (RS g T p W4) := Lib.hid (by rw [← hW4]; exact RS.on HR.out rfl)
      have HGR4 : Hid (GS g w W4) := Lib.hid (by rw [← hW4]; exact GS.draws HGW.out _)
      rw [hW4]
      clear hW4 c0 c1 c2 f1
      go_wp2_with fail
      obtain ⟨x1, x2, x3, x4, x5, x6, x7⟩ := X.out
      refine bodyPost_ret (v := .tuple #[.int .u8 q, .bool true]) (by simp [results, Tryd.results69, go_sem]) rfl ⟨ds, r, x1, x2, x3, x4, x5, ?_, by rw [x6, HP.out]; exact HS4.out, HGR4.out⟩
      rw [x7]
end Go.Proofs.YtcohlcijgfdanaaDoor.lt
