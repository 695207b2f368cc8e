/-
  FnAttributes: detectObj, cleanObjProlog.
-/
import Derived.Test.YtgibcinbifaooaaDoorAt5
import Derived.Test.YtgibcinbifaooaaDoorAtb
namespace Go.Proofs.YtgibcinbifaooaaDoor.att
open Go.RowKit

set_option maxHeartbeats 1000000 in
set_option maxRecDepth 100000 in
theorem detect15 (a r : List UInt8) (ha : ∀ c ∈ a, c ≠ 111) (hne : a ≠ []) (hl : (a ++ [111, 98, 106] ++ r).length ≤ 100000) (w : World) :
    Calls Tryd.prog 15 #[.string (mkS (a ++ [111, 98, 106] ++ r))] w fun e w' => e = .returned (.tuple #[.string (mkS a), .string (mkS r), .nilIface]) ∧ Below w.heap.size w w' := by
  have h22 := Lib.hid (index22 a r ha hl w)
  have hz : (mkS (a ++ [111, 98, 106] ++ r)).size = a.length + 3 + r.length := by rw [mkS_size]; simp; omega
  have hx1 : (mkS (a ++ [111, 98, 106] ++ r)).extract 0 a.length = mkS a := by
    rw [mkS_ext]
    congr 1
    simp
  have hx2 : (mkS (a ++ [111, 98, 106] ++ r)).extract (a.length + 3) (a.length + 3 + r.length) = mkS r := by
    rw [mkS_ext]
    congr 1
    simp
  have hpos : 0 < a.length := List.length_pos_iff.2 hne
  generalize mkS (a ++ [111, 98, 106] ++ r) = S at *
  have hp : (0 : Int) < (a.length : Int) := by omega
  have b1 : (a.length : Int) ≤ (a.length : Int) + 3 + (r.length : Int) := by omega
  have b2 : (a.length : Int) + 3 ≤ (a.length : Int) + 3 + (r.length : Int) := by omega
  have b3 : a.length ≤ a.length + 3 + r.length := by omega
  simp at hl
  clear ha hne hpos
  generalize mkS a = A at *
  generalize mkS r = R at *
  generalize a.length = n at *
  generalize r.length = m at *
  go_enter Tryd.func15, Tryd.ntmps15
  go_wp2_with (go_at_call 22; refine h22.out.mono ?_; rintro e w1 ⟨rfl, rfl⟩)
  go_quiet (fail)
  obtain ⟨W4, hW4⟩ : ∃ X, w.drewN nq = X := ⟨_, rfl⟩
  have hB4 : Below w.heap.size w W4 := by rw [← hW4]; exact ⟨rfl, rfl, rfl, Nat.le_refl _, fun _ _ => rfl⟩
  rw [hW4]
  clear hW4
  go_wp2_with fail
  refine bodyPost_ret (v := .tuple #[.string A, .string R, .nilIface]) (by simp [results, Tryd.results15, go_sem, hx2]) rfl ⟨rfl, hB4⟩

/-- A builder stays one where no old block turns. -/
theorem isB_alloc {B b : Nat} {bs : List Value} {w : World} (h : Lib.IsBuilderF 53 5 B b bs w) (o : Obj) : Lib.IsBuilderF 53 5 B b bs (w.alloc o) := by
  have hb := (Below.refl w.heap.size w).alloc (Nat.le_refl _) o
  have key : ∀ p, Lib.BuilderAtF 53 5 B b p bs w → Lib.BuilderAtF 53 5 B b p bs (w.alloc o) := by
    rintro p ⟨hB, v, hv, hown, hne⟩
    refine ⟨hB, v, ?_, hown.kept (row := none) ⟨hb.os, hb.tape, hb.output, hb.size, fun k hk _ => hb.block k hk⟩ ?_, hne⟩
    · rw [hb.block b (Array.getElem?_eq_some_iff.1 hv).1]; exact hv
    · cases v.ownBlock <;> simp
  exact h.imp (key _) (key _)

theorem byteCells_snoc (l : List UInt8) (c : UInt8) : Lib.byteCells l ++ [.int .u8 (c.toNat : Int)] = Lib.byteCells (l ++ [c]) := by simp [Lib.byteCells]

set_option maxHeartbeats 1000000 in
set_option maxRecDepth 100000 in
theorem clean16 (pre rest : List UInt8) (c : UInt8) (hp : pre.all bl = true) (hc : Dig c) (hr : ∀ x ∈ c :: rest, Dig x ∨ x.toNat = 32) (hl : (pre ++ c :: rest).length ≤ 100000) (w : World) :
    Calls Tryd.prog 16 #[.string (mkS (pre ++ c :: rest))] w fun e w' => e = .returned (.tuple #[.string (mkS (c :: rest)), .nilIface]) ∧ Below w.heap.size w w' := by
  have h20 := Lib.hid (trimLeftSpace20 pre rest c hp hc hl w)
  generalize mkS (pre ++ c :: rest) = S at *
  obtain ⟨body, hb⟩ : ∃ body, c :: rest = body := ⟨_, rfl⟩
  have hbl : body.length ≤ 100000 := by rw [← hb]; simp at hl ⊢; omega
  have hbp : 0 < body.length := by rw [← hb]; simp
  rw [hb] at hr h20 ⊢
  clear hb hp hc hl
  have hz : (mkS body).size = body.length := mkS_size body
  have HD : Hid (∀ k b, body[k]? = some b → b.toNat < 128 → Utf8.decode (mkS body) k = (b.toNat, 1)) := Lib.hid fun k b h1 h2 => decode_ascii _ k b h1 h2
  have HOut : Hid ((⟨body.toArray⟩ : ByteArray) = mkS body) := Lib.hid rfl
  have HR := Lib.hid hr
  clear hr
  generalize mkS body = R at *
  have hne : ¬ (R.size : Int) = 0 := by omega
  have hne' : ¬ R.size = 0 := by omega
  have hbq : ((R.size : Int) == 0) = false := by simpa using hne'
  go_enter Tryd.func16, Tryd.ntmps16
  go_wp2_with (go_at_call 20; refine h20.out.mono ?_; rintro e w1 ⟨rfl, hb1⟩; refine Hid.out ?_)
  refine Lib.hid ?_
  have HB1 := Lib.hid hb1
  have hs1 := hb1.size
  clear hb1
  have hI0 : Hid (Lib.IsBuilderF 53 5 w1.heap.size w1.heap.size (Lib.byteCells []) (w1.alloc (.cells #[.pointer none, .slice none 0 0] 53))) := Lib.hid (Lib.IsBuilderF.of (Lib.fresh_isBuilder 53 5 w1))
  have HZ := Lib.hid hz
  clear hz
  go_wp2_with fail
  obtain ⟨W2, hW2⟩ : ∃ W2, w1.alloc (.cells #[.pointer none, .slice none 0 0] 53) = W2 := ⟨_, rfl⟩
  have hs2 : W2.heap.size = w1.heap.size + 1 := by rw [← hW2]; simp
  have hB2 : Below w.heap.size w W2 := by rw [← hW2]; exact HB1.out.alloc hs1 _
  rw [hW2] at hI0 ⊢
  clear hW2
  have hI1 : Hid (Lib.IsBuilderF 53 5 w1.heap.size w1.heap.size (Lib.byteCells []) (W2.iter R 0)) := Lib.hid (isB_alloc hI0.out _)
  go_loopw [6] (fun _ wr => ∃ k : Nat, Hid (k ≤ body.length) ∧ wr.heap[w1.heap.size + 1]? = some (.stringIter R k) ∧ Hid (Lib.IsBuilderF 53 5 w1.heap.size w1.heap.size (Lib.byteCells (body.take k)) wr) ∧ Hid (Below w.heap.size w wr)) (fun _ wr => R.size - wr.iterPos (w1.heap.size + 1))
  case atStart =>
    refine ⟨0, Lib.hid (by omega), ?_, hI1, Lib.hid (hB2.alloc (by omega) _)⟩
    rw [← hs2]
    exact World.iter_heap W2 R 0
  case round =>
    obtain ⟨k, hk, hit, HI, HB⟩ := hrel
    have hwr : w1.heap.size + 1 < wr.heap.size := (Array.getElem?_eq_some_iff.1 hit).1
    by_cases hkS : k < R.size
    · have hnx : ∀ ty, (Instr.next (.pointer (some ⟨w1.heap.size + 1, 0, none⟩)) true ty).run Tryd.prog wr = _ := fun ty => Lib.run_next_any_at wr (w1.heap.size + 1) R k ty hit hkS
      have hkb : k < body.length := by have := HZ.out; omega
      obtain ⟨x, hx⟩ : ∃ x, body[k]? = some x := ⟨body[k], List.getElem?_eq_getElem hkb⟩
      have hxd := HR.out x (List.mem_of_getElem? hx)
      have hx128 : x.toNat < 128 := by unfold Dig at hxd; omega
      rw [HD.out k x hx hx128] at hnx
      have hit2 := Lib.iterAt_heap wr (w1.heap.size + 1) R k (k + 1) hit
      have hI2 := HI.out.iterAt hit (k + 1)
      have hbw2 := Lib.below_iterAt HB.out (k := w1.heap.size + 1) (by omega) R (k + 1)
      have hzs := Lib.iterAt_size wr (w1.heap.size + 1) R (k + 1)
      obtain ⟨W3, hW3⟩ : ∃ W3, wr.iterAt (w1.heap.size + 1) R (k + 1) = W3 := ⟨_, rfl⟩
      have hnx1 : ∀ ty, (Instr.next (.pointer (some ⟨w1.heap.size + 1, 0, none⟩)) true ty).run Tryd.prog wr = .ok (.tuple #[.bool true, .int .i64 (k : Int), .int .i32 (x.toNat : Int)]) W3 := fun ty => by
        rw [← hW3]
        exact hnx ty
      rw [hW3] at hit2 hI2 hbw2 hzs
      have hw := writeRune w1.heap.size w1.heap.size _ (x.toNat : Int) (by omega) (by omega) W3 hI2 (by rw [Lib.byteCells_length, List.length_take]; omega) (by omega)
      rw [byteCells_snoc, show body.take k ++ [x] = body.take (k + 1) by
        obtain ⟨hk', rfl⟩ := List.getElem?_eq_some_iff.1 hx
        exact (List.take_succ_eq_append_getElem hk').symm] at hw
      have HW := Lib.hid hw
      have HIT := Lib.hid hit
      have HIT2 := Lib.hid hit2
      have HBW2 := Lib.hid hbw2
      have HKS := Lib.hid hkS
      have HKB := Lib.hid hkb
      have hcc : ((48 : Int) ≤ (x.toNat : Int) ∧ (x.toNat : Int) ≤ 57) ∨ (¬ (48 : Int) ≤ (x.toNat : Int) ∧ (x.toNat : Int) = 32) := by unfold Dig at hxd; omega
      have hsz3 : w1.heap.size ≤ W3.heap.size := by omega
      clear hnx hit hit2 hI2 hbw2 hzs hW3 hw hx hxd hx128 hkS hkb
      generalize (x.toNat : Int) = d at *
      rcases hcc with ⟨d0, d1⟩ | ⟨d0, rfl⟩
      all_goals
        go_wp2_with (go_at_call 23; refine HW.out.mono ?_; rintro e w4 ⟨rfl, hI4, hb4, hk4⟩; refine Hid.out ?_)
        refine Lib.hid ?_
        have HI4 := Lib.hid hI4
        have HB4 : Hid (Below w.heap.size w w4) := Lib.hid (HBW2.out.trans (hb4.mono hs1))
        have HIT4 := Lib.hid (hk4 _ _ _ HIT2.out)
        clear hI4 hb4 hk4
        go_wp2_with fail
        go_roundw
        case rel => exact ⟨k + 1, Lib.hid (by have := HKB.out; omega), HIT4.out, HI4, HB4⟩
        case measure =>
          have := HKS.out
          have hit := HIT.out
          have hit4 := HIT4.out
          simp only [World.iterPos, hit4, hit]
          omega
    · have hnx : ∀ ty, (Instr.next (.pointer (some ⟨w1.heap.size + 1, 0, none⟩)) true ty).run Tryd.prog wr = _ := fun ty => Lib.run_next_end_at wr (w1.heap.size + 1) R k ty hit hkS
      have hkb : k = body.length := by have := HZ.out; have := hk.out; omega
      have hI := HI.out
      rw [hkb, List.take_length] at hI
      have hstr := Lib.hid (Tryd.Builder_String_any_f w1.heap.size w1.heap.size body wr hI (by omega))
      clear hit hkS hkb hI
      go_wp2_with (go_at_call 24; refine hstr.out.mono ?_; rintro e w4 ⟨rfl, _, hb4⟩)
      refine bodyPost_ret (v := .tuple #[.string ⟨body.toArray⟩, .nilIface]) (by simp [results, Tryd.results16, go_sem]) rfl ⟨by rw [HOut.out], HB.out.trans (hb4.mono hs1)⟩
end Go.Proofs.YtgibcinbifaooaaDoor.att
