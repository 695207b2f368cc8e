/-
  FnEncodeName: NameBytes' contract at what EncodeName writes.
-/
import Derived.Test.YtcohlcijgfdanaaDoorNm
import Derived.Test.YtcohlcijgfdanaaDoorBld
import Derived.Deep.QuietTactic
import Derived.BigQuiet
import Derived.Lib.ConvBytes
import Derived.Lib.Builder
import Derived.Lib.AppendStr
namespace Go.Proofs.YtcohlcijgfdanaaDoor
open Go.RowKit

theorem below_drewN {B : Nat} {w w' : World} (h : Below B w w') (n : Nat) : Below B w (w'.drewN n) := ⟨h.os, h.tape, h.output, h.size, h.block⟩
theorem infoByte2 : (Tryd.prog.info? 5).map (fun i => (i.zero, i.size, i.bytes)) = some (some (.int .u8 0), 1, 1) := by kernel_rfl
theorem byteCells_snoc (l : List UInt8) (c : UInt8) : Lib.byteCells (l ++ [c]) = Lib.byteCells l ++ [.int .u8 (c.toNat : Int)] := by simp [Lib.byteCells]

set_option maxHeartbeats 8000000 in
set_option maxRecDepth 100000 in
theorem nameBytes (t : ByteArray) (bs : List UInt8) (ht : t.data.toList = enc bs) (hb0 : bs.length ≤ 4096) (h0 : nameOk bs = true) (w : World) :
    Calls Tryd.prog 12 #[.string t] w fun e w' => e = .returned (.tuple #[.string ⟨bs.toArray⟩, .bool true]) ∧ Below w.heap.size w w' := by
  obtain ⟨i0, hi, hz0, hz1, hz2⟩ := info_parts infoByte2
  have hsz : t.size = (enc bs).length := by rw [Lib.size_eq, ht]
  have h12 := (enc_length bs).2
  have hget : Hid (∀ k (h : k < t.size) (c : UInt8), (enc bs)[k]? = some c → t[k] = c) := by
    refine Lib.hid fun k h c hc => ?_
    rw [← ht] at hc
    have : t.data.toList[k]? = some (t[k]) := by
      rw [List.getElem?_eq_getElem (by rw [← Lib.size_eq]; exact h)]
      simp
      rfl
    rw [this] at hc
    exact Option.some.inj hc
  have htz : t.size ≤ 12288 := by omega
  have HZ := Lib.hid h0
  have HSZ := Lib.hid hsz
  clear ht h0 hsz
  go_enter Tryd.func12, Tryd.ntmps12
  go_wp2
  go_loopw [4, 5, 6] (fun v i _ wr => ∃ (vv : Value) (pre suf : List UInt8) (n : Nat), vv = v ∧ i = .int .i64 n ∧ Hid (bs = pre ++ suf ∧ n = (enc pre).length) ∧ n ≤ t.size ∧ wr.ownsRow w.heap.size 5 1 vv pre.length (Lib.byteCells pre) ∧ Below w.heap.size w wr)
    (fun _ i _ _ => t.size - (intOf i).toNat)
  case atStart => exact ⟨_, [], bs, 0, rfl, rfl, Lib.hid ⟨rfl, rfl⟩, by omega, World.ownsRow_nil _ _ _ _, Below.refl _ _⟩
  case round =>
    obtain ⟨v, pre, suf, n, rfl, rfl, hh, hnt, hown, hnx⟩ := hrel
    have hsz1 := hnx.size
    obtain ⟨hbs, hn⟩ := hh.out
    clear hh
    cases suf with
    | nil =>
      have hnt2 : n = t.size := by rw [HSZ.out, hbs, hn]; simp
      rw [List.append_nil] at hbs
      subst hnt2
      subst hbs
      clear hget HZ hn
      rcases hown.2 with ⟨rfl, h0⟩ | ⟨g, cap, cur, rfl, -, -, -, -, -, -⟩
      · have hb : bs = [] := List.eq_nil_of_length_eq_zero h0
        subst hb
        clear hown
        have hcv : (convert 29 9 (.slice none 0 0)).run Tryd.prog wr = .ok (.string ⟨#[]⟩) wr := by
          rw [run_convert_bytes_string (P := Tryd.prog) wr 29 9 5 none 0 0 Tryd.underlying29 Tryd.underlying5 Tryd.underlying9]
          rfl
        go_wp2_with fail
        go_ret2
        exact ⟨rfl, hnx⟩
      · have hcv := run_convert_bytes_back (P := Tryd.prog) wr 29 9 5 ⟨g, 0, none⟩ cap bs Tryd.underlying29 Tryd.underlying5 Tryd.underlying9 (fun j hj => hown.cells (g := g) rfl j _ (by simp [Lib.byteCells, hj]))
        go_wp2_with fail
        go_ret2
        exact ⟨rfl, hnx⟩
    | cons c suf =>
      have hc0 : c ≠ 0 := by
        have := HZ.out
        rw [hbs] at this
        simp [nameOk] at this
        exact this.2.1
      have hpl : pre.length ≤ 4096 := by rw [hbs] at hb0; simp at hb0; omega
      have hen : enc bs = enc pre ++ (enc1 c ++ enc suf) := by rw [hbs, enc_append, enc_cons]
      have hl1 := enc1_length c
      have hlen : n + (enc1 c).length ≤ t.size := by rw [HSZ.out, hen, hn]; simp only [List.length_append]; omega
      have hbs2 : bs = (pre ++ [c]) ++ suf := by rw [hbs]; simp
      have hn2 : n + (enc1 c).length = (enc (pre ++ [c])).length := by rw [enc_append, enc_cons, enc_nil]; simp; omega
      have hc256 : c.toNat < 256 := c.toNat_lt
      cases hnd : needs c.toNat
      · obtain ⟨h1, _, h35, hz⟩ := of_plain c hnd
        rw [h1] at hlen hn2
        simp at hlen hn2
        have hnlt : n < t.size := by omega
        have hgn := hget.out n hnlt c (by simp [hen, h1, hn])
        have HN : Hid (bs = (pre ++ [c]) ++ suf ∧ n + 1 = (enc (pre ++ [c])).length) := Lib.hid ⟨hbs2, hn2⟩
        clear hbs hbs2 hn hn2 hget HZ hen hl1 h1 hnd
        go_wp2_with (at_builtin; refine wpList_append_own _ rfl _ _ 29 rfl w.heap.size 5 i0 (.int .u8 0) 1 1 Tryd.underlying29 hi hz0 hz1 hz2 rfl (by decide) _ _ _ rfl (hown.alloc _) ⟨wr.heap.size, 0, none⟩ 1 1 [Value.int .u8 (c.toNat : Int)] rfl rfl (by intro j u' hj; match j, hj with | 0, hj => simp at hj; subst hj; simp [Addr.add]) (by intro u' hu'; simp at hu'; subst hu'; rfl) (by unfold maxLen; omega) (by omega) (by simp; omega) ?_; intro v2 w2 hown2 hgrow _)
        go_roundw
        case rel =>
          have R : ∃ (vv : Value) (pre suf : List UInt8) (n' : Nat), vv = v2 ∧ Value.int .i64 ((n : Int) + 1) = .int .i64 (n' : Nat) ∧ Hid (bs = pre ++ suf ∧ n' = (enc pre).length) ∧ n' ≤ t.size ∧ w2.ownsRow w.heap.size 5 1 vv pre.length (Lib.byteCells pre) ∧ Below w.heap.size w w2 :=
            ⟨v2, pre ++ [c], suf, n + 1, rfl, rfl, HN, by omega, by rw [byteCells_snoc, List.length_append]; exact hown2, (hnx.alloc (by omega) _).grown hgrow (by simp; omega) (fun k hk => (hown.lt k hk).1)⟩
          first
          | exact R
          | ((repeat apply Exists.intro); exact ⟨R, rfl⟩)
        case measure => simp [intOf]; omega
      · obtain ⟨p, q, h1, _, _, _, hv, hp0, hq0, hp1, hq1, _⟩ := of_needs c hnd
        rw [h1] at hlen hn2 hen
        simp at hlen hn2
        have hl0 : n < t.size := by omega
        have hl1' : n + 1 < t.size := by omega
        have hl2 : n + 2 < t.size := by omega
        have hgn := hget.out n hl0 35 (by rw [hen, hn]; simp)
        have hgp := hget.out (n + 1) hl1' p (by rw [hen, hn]; simp)
        have hgq := hget.out (n + 2) hl2 q (by rw [hen, hn, List.getElem?_append_right (by omega)]; simp)
        have HN : Hid (bs = (pre ++ [c]) ++ suf ∧ n + 3 = (enc (pre ++ [c])).length) := Lib.hid ⟨hbs2, hn2⟩
        have hcz : (c.toNat : Int) ≠ 0 := fun h => hc0 (UInt8.toNat_inj.1 (by simpa using h))
        have cp := hexc p.toNat p.toNat_lt
        have cq := hexc q.toNat q.toNat_lt
        generalize hexd p.toNat = x at cp hv hp0 hp1
        generalize hexd q.toNat = y at cq hv hq0 hq1
        have CP := Lib.hid cp
        have CQ := Lib.hid cq
        clear cp cq hbs hbs2 hn hn2 hget HZ hen hl1 h1 hnd
        have hv2 : 16 * x + y = (c.toNat : Int) := by omega
        have CPq := Lib.hid fun w => (CP.out w).mono fun _ _ h => (⟨h.1, h.2.symm⟩ : _ ∧ _)
        have CQq := Lib.hid fun w => (CQ.out w).mono fun _ _ h => (⟨h.1, h.2.symm⟩ : _ ∧ _)
        clear hv
        go_wp2_with (first
          | (go_at_call 32; (with_reducible refine (CP.out _).mono ?_); rintro e w' ⟨rfl, rfl⟩)
          | (go_at_call 32; (with_reducible refine (CQ.out _).mono ?_); rintro e w' ⟨rfl, rfl⟩))
        go_quiet ((first
          | (go_at_call 32; with_reducible exact Calls.quiet_of_same (CPq.out _))
          | (go_at_call 32; with_reducible exact Calls.quiet_of_same (CQq.out _))))
        obtain ⟨W, hW⟩ : ∃ W, wr.drewN nq = W := ⟨_, rfl⟩
        have hownW : W.ownsRow w.heap.size 5 1 v pre.length (Lib.byteCells pre) := by rw [← hW]; exact hown
        have hnxW : Below w.heap.size w W := by rw [← hW]; exact below_drewN hnx nq
        rw [hW]
        have hszW := hnxW.size
        clear hW hown hnx hsz1 hv2 CP CQ CPq CQq hgp hgq hgn
        go_wp2_with (at_builtin; refine wpList_append_own _ rfl _ _ 29 rfl w.heap.size 5 i0 (.int .u8 0) 1 1 Tryd.underlying29 hi hz0 hz1 hz2 rfl (by decide) _ _ _ rfl (hownW.alloc _) ⟨W.heap.size, 0, none⟩ 1 1 [Value.int .u8 (c.toNat : Int)] rfl rfl (by intro j u' hj; match j, hj with | 0, hj => simp at hj; subst hj; simp [Addr.add]) (by intro u' hu'; simp at hu'; subst hu'; rfl) (by unfold maxLen; omega) (by omega) (by simp; omega) ?_; intro v2 w2 hown2 hgrow _)
        go_roundw
        case rel =>
          have R : ∃ (vv : Value) (pre suf : List UInt8) (n' : Nat), vv = v2 ∧ Value.int .i64 ((n : Int) + 2 + 1) = .int .i64 (n' : Nat) ∧ Hid (bs = pre ++ suf ∧ n' = (enc pre).length) ∧ n' ≤ t.size ∧ w2.ownsRow w.heap.size 5 1 vv pre.length (Lib.byteCells pre) ∧ Below w.heap.size w w2 :=
            ⟨v2, pre ++ [c], suf, n + 3, rfl, (by first | rfl | (congr 1; omega)), HN, by omega, by rw [byteCells_snoc, List.length_append]; exact hown2, (hnxW.alloc (by omega) _).grown hgrow (by simp; omega) (fun k hk => (hownW.lt k hk).1)⟩
          first
          | exact R
          | ((repeat apply Exists.intro); exact ⟨R, rfl⟩)
        case measure => simp [intOf]; omega
end Go.Proofs.YtcohlcijgfdanaaDoor
