/-
  io.ReadAll over a buffer.
-/
import Derived.Test.YtmihbmjillcjaaaDoorRall
import Derived.Deep.LoopGhost
import Derived.Deep.RegionWith
import Derived.OneCell
namespace Go.Proofs.YtmihbmjillcjaaaDoor.up
set_option linter.unusedVariables false
set_option linter.unusedSimpArgs false
open Go.RowKit

theorem nil60 (a : Addr) (w : World) : (nilAhead 221 67 (.pointer (some a)) "Read").run Tryd.prog w = .ok (some false) w := by kernel_rfl
theorem meth60 (a : Addr) (w : World) : (method 221 67 (.pointer (some a)) "Read").run Tryd.prog w = .ok (60, .pointer (some a)) w := by kernel_rfl

set_option maxHeartbeats 4000000 in
set_option maxRecDepth 100000 in
theorem readAll16 (w : World) (b g N : Nat) (z : Nat → Int) (ea : Addr) (h : BufRd w b g N z 0) (hg : g < w.heap.size) (hE : w.cell? ⟨0, 0, none⟩ = some (.iface 86 (.pointer (some ea)))) (hb0 : 0 ≠ b) :
    Calls Tryd.prog 16 #[.iface 67 (.pointer (some ⟨b, 0, none⟩))] w fun e w' => ∃ f c : Nat, e = .returned (.tuple #[.slice (some ⟨f, 0, none⟩) N c, .nilIface]) ∧ Hid ((∀ i, i < N → w'.cell? ⟨f, i, none⟩ = some (.int .u8 (z i))) ∧ w.heap.size ≤ f ∧ N ≤ c ∧ Kept [b] w w') := by
  have m1 := make512
  have m2 := make4
  obtain ⟨s0, hs0⟩ : ∃ s0, w.heap.size = s0 := ⟨_, rfl⟩
  obtain ⟨W0, hW0⟩ : ∃ W0, (w.alloc (Obj.cells (madeCells #[Value.int IntKind.u8 0] 512) 5)).alloc (Obj.cells (madeCells #[Value.slice none 0 0] 4) 22) = W0 := ⟨_, rfl⟩
  have k0 : Kept [] w W0 := by rw [← hW0]; exact ((Kept.refl _ _).alloc _).alloc _
  have hblt := h.lt
  rw [hs0] at hg hblt
  have hra : RA w s0 b g N z 0 s0 0 512 [] (.slice (some ⟨s0 + 1, 0, none⟩) 0 4) W0 := by
    refine ⟨h.kept k0 (by simp) (by simp), ⟨fun _ => .int .u8 0, ?_, fun i hi => by omega⟩, rfl, Nat.le_refl _, hblt, hg, by omega, by omega, by unfold maxLen; omega, ?_, fun j x hx => by simp at hx, k0.mono (by simp), hs0, Nat.le_refl _⟩
    · have := (World.rowIs_made w (.int .u8 0) 512 5).alloc (Obj.cells (madeCells #[Value.slice none 0 0] 4) 22)
      rw [hs0, hW0] at this
      exact this
    · have := World.ownsRow_made (base := s0) (e := 22) (size := 1) (w.alloc (Obj.cells (madeCells #[Value.int IntKind.u8 0] 512) 5)) (madeCells #[Value.slice none 0 0] 4) 4 (by simp; omega) (by unfold maxLen; omega) (by simp [madeCells])
      rw [hW0] at this
      simp [hs0] at this
      exact this
  have HRA := Lib.hid hra
  have HE := Lib.hid hE
  have hbound := h.bound
  have HNE := Lib.hid h.ne
  have n1 := nil60 ⟨b, 0, none⟩
  have n2 := meth60 ⟨b, 0, none⟩
  have HS0 := Lib.hid hs0
  obtain ⟨i22, hi22, hz22, hsz22, hby22⟩ := info_parts info22f
  have HI22 := Lib.hid (And.intro hi22 (And.intro hz22 (And.intro hsz22 hby22)))
  clear hra h k0 hE hi22 hz22 hsz22 hby22
  go_enter Tryd.func16, Tryd.ntmps16
  go_wp2_with fail
  clear hW0 hs0 m1 m2
  go_loopg [4, 5, 6, 7] N (fun gk s4 s5 s6 s7 wr => ∃ (off q n c nx : Nat) (l : List Chunk) (a6 : Option Addr) (c6 : Nat), gk = N - off ∧ s4 = .slice (some ⟨q, 0, none⟩) n c ∧ s5 = .int .i64 (nx : Int) ∧ s6 = .slice a6 l.length c6 ∧ s7 = .int .i64 (tot l : Int) ∧ Hid (n < c ∧ 256 ≤ nx ∧ nx ≤ 400000 ∧ nx ≤ 2 * c ∧ off ≤ N) ∧ Hid (RA w s0 b g N z off q n c l (.slice a6 l.length c6) wr))
  case atStart => exact ⟨0, s0, 0, 512, 256, [], some ⟨s0 + 1, 0, none⟩, 4, by omega, rfl, rfl, rfl, rfl, Lib.hid (by omega), HRA⟩
  case round =>
    obtain ⟨off, q, n, c, nx, l, a6, c6, rfl, rfl, rfl, rfl, rfl, HN, HR⟩ := hrel
    obtain ⟨hnc, hx1, hx2, hx3, hoN⟩ := HN.out
    have hcm := HR.out.cmax
    have hc256 := HR.out.c256
    unfold maxLen at hcm
    by_cases hoff : off < N
    · obtain ⟨k, hk⟩ : ∃ k, k = min (c - n) (N - off) := ⟨_, rfl⟩
      obtain ⟨F, hF1, hF2⟩ := HR.out.row
      have hqb : q ≠ b := by have := HR.out.q0; omega
      have hqg : q ≠ g := by have := HR.out.q0; omega
      have hread := Lib.hid (bread60_row wr.drew b g N z off q n (c - n) (c - n) c k F (HR.out.buf.kept ((Kept.refl [] wr).drew) (by simp) (by simp)) hoff hk (by omega) hF1.drew (by omega) hqb hqg)
      obtain ⟨hk1, hk2, hk3⟩ := min_facts hk hoff (by omega)
      have HK := Lib.hid hk
      have HF2 := Lib.hid hF2
      have hn0 : ¬ c = n := by omega
      clear hF1 hF2 hqb hqg hk
      go_wp2_with fail
      go_region_with (go_at_call 60; refine hread.out.mono ?_; rintro e w1 ⟨rfl, r1, r2, r3⟩)
      all_goals
        have HR1 := Lib.hid (HR.out.read (by omega) r1 F HF2.out r2 r3)
        clear r1 r2 r3 hread HF2
        have hnk : ((n : Int) + (k : Int)).toNat = n + k := by omega
        have hnle : n ≤ c := by omega
        have hnkc : n + k ≤ c := by omega
        by_cases ht : (c : Int) - ((n : Int) + (k : Int)) < (c : Int) / 16
        · have hown := HR1.out.own
          have hlen := HR1.out.len
          have htot := HR1.out.off_eq
          have hs1 : s0 ≤ w1.heap.size := by have := HR1.out.kept.size; have := HR1.out.sz; omega
          have hl5 : l.length ≤ 100000 := by omega
          have hl6 : tot l + (n + k) ≤ 100000 := by omega
          have HS1 := Lib.hid hs1
          have HOWN := Lib.hid hown
          have HLEN := Lib.hid (And.intro hlen htot)
          clear hown hlen htot hs1
          go_wp2_with (at_builtin; refine wpList_append_own _ rfl _ _ 58 rfl s0 22 i22 (.slice none 0 0) 1 24 Tryd.underlying58 HI22.out.1 HI22.out.2.1 HI22.out.2.2.1 HI22.out.2.2.2 rfl (by decide) _ l.length (l.map Chunk.v) rfl (HOWN.out.alloc _) ⟨w1.heap.size, 0, none⟩ 1 1 [.slice (some ⟨q, 0, none⟩) (n + k) c] rfl rfl ?c1 ?c2 ?c3 ?c4 ?c5 ?_)
          case c1 => intro j u hj; cases j with | zero => (simp at hj; subst hj; simp [go_sem, addr_add]) | succ j => simp at hj
          case c2 => intro u hu; simp at hu; subst hu; rfl
          case c3 => unfold maxLen; omega
          case c4 => omega
          case c5 => simp; have := HS1.out; omega
          intro v' w2 hown2 hgrow2 _
          obtain ⟨a', c', rfl, _⟩ := own_slice hown2
          have HO2 := Lib.hid hown2
          have HG2 := Lib.hid hgrow2
          clear hown2 hgrow2
          go_wp2_with (at_builtin; refine wp_zeros _ rfl _ _ rfl rfl nx rfl (by omega) (by omega) ?_; intro cap w3 hcap1 hcap2 hrow3 hk3'; refine Hid.out ?_)
          refine Lib.hid ?_
          have HR3 := Lib.hid (HR1.out.chunk (by omega) _ _ cap HO2.out HG2.out hk3' hrow3 (by omega) hcap2)
          obtain ⟨q3, hq3⟩ : ∃ q3, w2.heap.size = q3 := ⟨_, rfl⟩
          rw [hq3] at HR3 ⊢
          have ht16 : tot l + (n + k) = tot (l ++ [⟨q, n + k, c⟩]) := (tot_snoc l ⟨q, n + k, c⟩).symm
          have HT := Lib.hid ht16
          clear hq3 hrow3 hk3' ht16 HG2 HO2
          go_wp2_with fail
          go_roundg (N - (off + k))
          case measure => omega
          case rel => exact ⟨off + k, q3, 0, cap, nx + nx / 2, l ++ [⟨q, n + k, c⟩], a', c', rfl, rfl, by go_num, by simp, by rw [← HT.out]; go_num, Lib.hid (by omega), by simpa using HR3⟩
        · have ht' : (c : Int) / 16 ≤ (c : Int) - ((n : Int) + (k : Int)) := by omega
          go_wp2_with fail
          go_roundg (N - (off + k))
          case measure => omega
          case rel => exact ⟨off + k, q, n + k, c, nx, l, a6, c6, rfl, rfl, rfl, rfl, rfl, Lib.hid (by omega), HR1⟩
    · obtain rfl : off = N := by omega
      have hqb : q ≠ b := by have := HR.out.q0; omega
      have hread := Lib.hid (bread60_end wr.drew b g off z (some ⟨q, n, none⟩) (c - n) (c - n) (.iface 86 (.pointer (some ea))) (HR.out.buf.kept ((Kept.refl [] wr).drew) (by simp) (by simp)) (by omega) ((HR.out.kept.drew).cell HE.out (by simpa using hb0)) hb0)
      have hn0 : ¬ c = n := by omega
      have hnle : n ≤ c := by omega
      go_wp2_with fail
      go_region_with (go_at_call 60; refine hread.out.mono ?_; rintro e w1 ⟨rfl, r1⟩)
      all_goals
        have HK1 := Lib.hid (((Kept.refl [b] wr).drew).trans r1)
        have hE1 := (HR.out.kept.trans HK1.out).cell HE.out (by simpa using hb0)
        have q1 := fun w => eq_same ea w
        clear r1 hread
        have hoff2 := HR.out.off_eq
        by_cases hl : l = []
        · subst hl
          have hN : off = n := by simpa [tot] using hoff2
          obtain rfl := hN
          clear hoff2
          go_wp2_with fail
          go_ret2
          obtain ⟨F, hF1, hF2⟩ := HR.out.row
          refine ⟨q, c, rfl, Lib.hid ⟨fun i hi => ?_, by rw [HS0.out]; exact HR.out.q0, HR.out.nc, HR.out.kept.trans HK1.out⟩⟩
          rw [HK1.out.cell (p := ⟨q, i, none⟩) (hF1.cell (i := i) (by omega)) (by simpa using hqb), hF2 i hi]
          simp [tot]
        · have hll : 1 ≤ l.length := by
            cases l with
            | nil => exact absurd rfl hl
            | cons x l => simp
          have hli : ((l.length : Int) == 0) = false := by simp; omega
          have hl5 : l.length ≤ 100000 := by have := HR.out.len; omega
          have hsum : (tot l : Int) + (n : Int) = (off : Int) := by omega
          have hoff1 : 1 ≤ off := by have := HR.out.len; omega
          have HOFF := Lib.hid hoff2
          clear hoff2 hl
          go_wp2_with (at_builtin; refine wp_zeros _ rfl _ _ rfl rfl off rfl (by omega) (by omega) ?_; intro cap w2 hcap1 hcap2 hrow2 hk2; refine Hid.out ?_)
          refine Lib.hid ?_
          obtain ⟨s1, hs1⟩ : ∃ s1, w1.heap.size = s1 := ⟨_, rfl⟩
          rw [hs1] at hrow2 ⊢
          obtain ⟨F2, hF2⟩ := hrow2
          have hs01 : Hid (q < s1 ∧ s0 ≤ s1) := Lib.hid (by
            obtain ⟨F, hF1, _⟩ := HR.out.row
            have h1 := hF1.lt
            have h2 := HK1.out.size
            have h3 := HR.out.q0
            omega)
          have HOWN := Lib.hid (own_fresh hF2 hcap2 z)
          have HB2 := Lib.hid (hk2.below (B := s1) (by omega) (by simp))
          have hCH : Hid (Chk w1 z s0 q l) := Lib.hid (HR.out.chk.keep fun q' cur h1 h2 hc => HK1.out.block q' (Array.getElem?_eq_some_iff.1 hc).1 (by simp; omega))
          have hO6 : Hid (∀ j u, (l.map Chunk.v)[j]? = some u → ∃ gA, a6 = some ⟨gA, 0, none⟩ ∧ gA < s1 ∧ w1.cell? ⟨gA, j, none⟩ = some u) := Lib.hid fun j u hj => by
            obtain ⟨a, c', e, _, _, hcs⟩ := own_slice HR.out.own
            cases e
            obtain ⟨gA, rfl, hc⟩ := hcs j u hj
            have hsA : s0 ≤ gA := by
              rcases HR.out.own.2 with ⟨e, _⟩ | ⟨gB, _, _, e, hB, _⟩
              · cases e
              · cases e; exact hB
            have hc1 := HK1.out.cell hc (by simp; omega)
            exact ⟨gA, rfl, by have := World.block_lt_of_cell? _ _ hc1; rw [hs1] at this; exact this, hc1⟩
          have hQ : Hid (∃ F, w1.rowIs q 5 c F ∧ ∀ i, i < n → F i = .int .u8 (z (tot l + i))) := Lib.hid (by
            obtain ⟨F, hF1, hF2⟩ := HR.out.row
            exact ⟨F, HK1.out.row hF1 (by simpa using hqb), hF2⟩)
          have HKW := Lib.hid (HR.out.kept.trans HK1.out)
          have HSW := Lib.hid HR.out.sz
          have HS1 := Lib.hid hs1
          obtain ⟨i5, hi5, hz5, hsz5, hby5⟩ := info_parts info5f
          have HI5 := Lib.hid (And.intro hi5 (And.intro hz5 (And.intro hsz5 hby5)))
          clear hF2 hk2 hs1 hi5 hz5 hsz5 hby5 HR HE HRA hE1 HK1 HI22 HN
          go_wp2_with fail
          clear hsum hli
          go_loopw [10, 54] (fun v i wx => ∃ (j : Nat) (a : Option Addr) (c' : Nat), i = .int .i64 (j : Int) ∧ v = .slice a (tot (l.take j)) c' ∧ j ≤ l.length ∧ Hid (wx.ownsRow s1 5 1 (.slice a (tot (l.take j)) c') (tot (l.take j)) (bs8 (tot (l.take j)) z)) ∧ Hid (Below s1 w1 wx)) (fun _ i _ => l.length - (intOf i).toNat)
          case atStart => exact ⟨0, _, _, rfl, rfl, by omega, HOWN, HB2⟩
          case round =>
            obtain ⟨j, a10, c10, rfl, rfl, hj, HOW, HB⟩ := hrel
            have hs1x : s1 ≤ wr.heap.size := by have := HB.out.size; have := HS1.out; omega
            have HS1X := Lib.hid hs1x
            have htj := tot_take_le l j
            by_cases hjl : j < l.length
            · obtain ⟨x, hx⟩ : ∃ x, l[j]? = some x := ⟨_, List.getElem?_eq_getElem hjl⟩
              obtain ⟨gA, hgA, hlt, hcA⟩ := hO6.out j x.v (by simp [hx])
              subst hgA
              have hcell : wr.cell? ⟨gA, j, none⟩ = some (.slice (some ⟨x.q, 0, none⟩) x.n x.c) := (HB.out.cell (p := ⟨gA, j, none⟩) hlt).trans hcA
              obtain ⟨h1, h2, F, hF, hn, hFi⟩ := hCH.out j x hx
              have hq1 : x.q < s1 := by have := hs01.out; omega
              have hsrc := Lib.hid (row_cells HB.out hq1 hF hn hFi)
              have hts := tot_take_succ l j x hx
              have htl := tot_take_le l (j + 1)
              have htl2 : tot (l.take j) + x.n ≤ 100000 := by have := HOFF.out; omega
              have hji : (j : Int) < (l.length : Int) := by omega
              have HTS := Lib.hid hts
              clear hlt hcA h1 h2 hF hn hFi hq1 hts htl hx htj hs1x
              obtain ⟨xq, xn, xc⟩ := x
              simp only at hcell hsrc htl2 HTS
              generalize hT : tot (l.take j) = T at *
              have HTT := Lib.hid hT
              clear hT
              go_wp2_with (at_builtin; refine wpList_append_own _ rfl _ _ 22 rfl s1 5 i5 (.int .u8 0) 1 1 Tryd.underlying22 HI5.out.1 HI5.out.2.1 HI5.out.2.2.1 HI5.out.2.2.2 rfl (by decide) _ T (bs8 T z) rfl HOW.out ⟨xq, 0, none⟩ xn xc (bs8 xn fun i => z (T + i)) rfl ?d1 ?d2 ?d3 ?d4 ?d5 ?d6 ?_)
              case d1 => rw [bs8_length]; omega
              case d2 => exact hsrc.out
              case d3 => exact bs8_one
              case d4 => unfold maxLen; omega
              case d5 => omega
              case d6 => exact HS1X.out
              intro v' w3 hown3 hgrow3 _
              rw [bs8_append] at hown3
              obtain ⟨a', c', rfl, _⟩ := own_slice hown3
              have HB3 := Lib.hid (below_own HB.out HOW.out hgrow3 HS1X.out)
              have HO3 := Lib.hid hown3
              clear hown3 hgrow3
              go_wp2_with fail
              go_roundw
              case rel => first | exact ⟨j + 1, a', c', by go_num, by rw [HTS.out], by omega, by rw [HTS.out]; exact HO3, HB3⟩ | ((repeat apply Exists.intro); refine ⟨?_, rfl⟩; exact ⟨j + 1, a', c', by go_num, by rw [HTS.out], by omega, by rw [HTS.out]; exact HO3, HB3⟩)
              case measure => simp [intOf]; omega
            · have hje : j = l.length := by omega
              subst hje
              rw [List.take_length] at HOW htj ⊢
              obtain ⟨F, hF, hFi⟩ := hQ.out
              have hsrc := Lib.hid (row_cells HB.out hs01.out.1 hF hnle hFi)
              have htl2 : tot l + n ≤ 100000 := by have := HOFF.out; omega
              clear hF hFi hs1x htj
              generalize hT : tot l = T at *
              go_wp2_with (at_builtin; refine wpList_append_own _ rfl _ _ 22 rfl s1 5 i5 (.int .u8 0) 1 1 Tryd.underlying22 HI5.out.1 HI5.out.2.1 HI5.out.2.2.1 HI5.out.2.2.2 rfl (by decide) _ T (bs8 T z) rfl HOW.out ⟨q, 0, none⟩ n c (bs8 n fun i => z (T + i)) rfl ?e1 ?e2 ?e3 ?e4 ?e5 ?e6 ?_)
              case e1 => rw [bs8_length]; omega
              case e2 => exact hsrc.out
              case e3 => exact bs8_one
              case e4 => unfold maxLen; omega
              case e5 => omega
              case e6 => exact HS1X.out
              intro v' w3 hown3 hgrow3 _
              rw [bs8_append, ← HOFF.out] at hown3
              obtain ⟨a', c', rfl, hcc, _, hcs⟩ := own_slice hown3
              have HB3 := Lib.hid (below_own HB.out HOW.out hgrow3 HS1X.out)
              have HO3 := Lib.hid hown3
              have HCS := Lib.hid hcs
              clear hown3 hgrow3 hcs
              go_wp2_with fail
              go_ret2
              obtain ⟨f, hf, hsf⟩ : ∃ f, a' = some ⟨f, 0, none⟩ ∧ s1 ≤ f := by
                rcases HO3.out.2 with ⟨e, h0⟩ | ⟨f, _, _, e, hB, _⟩
                · omega
                · cases e; exact ⟨f, rfl, hB⟩
              subst hf
              refine ⟨f, c', rfl, Lib.hid ⟨fun i hi => ?_, by rw [HS0.out]; exact Nat.le_trans hs01.out.2 hsf, hcc, ?_⟩⟩
              · obtain ⟨f', e, hc⟩ := HCS.out i _ (bs8_get hi)
                cases e
                exact hc
              · refine HKW.out.trans ⟨HB3.out.os, HB3.out.tape, HB3.out.output, HB3.out.size, fun k hk _ => HB3.out.block k (by have := HS1.out; omega)⟩
end Go.Proofs.YtmihbmjillcjaaaDoor.up
