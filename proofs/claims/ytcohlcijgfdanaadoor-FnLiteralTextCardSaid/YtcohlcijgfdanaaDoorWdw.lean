/-
  spec.unit16 and spec.Wide: the walks.
-/
import Derived.Test.YtcohlcijgfdanaaDoorU16
import Derived.Test.YtcohlcijgfdanaaDoorWd
import Derived.Lib.OthersKept
import Derived.Laws.RangeAny
import Derived.Laws.BitsAll
namespace Go.Proofs.YtcohlcijgfdanaaDoor.wd
open Go.RowKit

theorem unit36 (u : Nat) (hu : u < 65536) (w : World) :
    Calls Tryd.prog 36 #[.int .i64 (u : Int)] w fun e w' => e = .returned (.string ⟨(be u).toArray⟩) ∧ Below w.heap.size w w' := by
  have hcv : (convert 29 9 (.slice (some ⟨w.heap.size, 0, none⟩) 2 2)).run Tryd.prog (w.alloc (.cells #[.int .u8 ((u : Int) / 256), .int .u8 ((u : Int) % 256)] 5)) = .ok (.string ⟨(be u).toArray⟩) (w.alloc (.cells #[.int .u8 ((u : Int) / 256), .int .u8 ((u : Int) % 256)] 5)) :=
    run_convert_bytes_back (P := Tryd.prog) (w.alloc (.cells #[.int .u8 ((u : Int) / 256), .int .u8 ((u : Int) % 256)] 5)) 29 9 5 ⟨w.heap.size, 0, none⟩ 2 (be u) Tryd.underlying29 Tryd.underlying5 Tryd.underlying9 (fun j hj => by
      match j, hj with
      | 0, _ => simp [go_sem, be, Addr.add]; omega
      | 1, _ => simp [go_sem, be, Addr.add])
  have hu' : (u : Int) < 65536 := by omega
  clear hu
  go_enter Tryd.func36, Tryd.ntmps36
  go_wp2
  go_ret
  exact ⟨rfl, (Below.refl _ _).alloc (Nat.le_refl _) _⟩

/-- What the loop has made of the runes before. -/
theorem cat_be (a : List UInt8) (u : Nat) : (⟨a.toArray⟩ : ByteArray) ++ ⟨(be u).toArray⟩ = ⟨(a ++ be u).toArray⟩ := by
  apply ByteArray.ext
  apply Array.toList_inj.1
  simp

theorem bytes_app (a b : List Nat) : bytes (a ++ b) = bytes a ++ bytes b := by simp [bytes]
theorem units_app (a b : List Nat) : units (a ++ b) = units a ++ units b := by simp [units]

set_option maxRecDepth 100000 in
theorem wide17_no (s : ByteArray) (w : World) (hV : Calls Tryd.prog 35 #[.string s] w fun e w' => e = .returned (.bool false) ∧ Below w.heap.size w w') :
    Calls Tryd.prog 17 #[.string s] w fun e w' => e = .returned (.tuple #[.string ⟨#[]⟩, .bool false]) ∧ Below w.heap.size w w' := by
  have HV := Lib.hid hV
  clear hV
  go_enter Tryd.func17, Tryd.ntmps17
  go_wp2_with (go_at_call 35; refine HV.out.mono ?_; rintro e w1 ⟨rfl, hb⟩)
  refine bodyPost_ret (v := .tuple #[.string ⟨#[]⟩, .bool false]) (by simp [results, Tryd.results17, go_sem]) rfl ⟨rfl, hb⟩

theorem decode_scal (s : ByteArray) (pos : Nat) : Scal (Utf8.decode s pos).1 := by
  rw [← Lib.decodeL_drop]
  exact scal_decode _
theorem runes_drop (s : ByteArray) (pos : Nat) (h : pos < s.size) : runes (s.data.toList.drop pos) = (Utf8.decode s pos).1 :: runes (s.data.toList.drop (pos + (Utf8.decode s pos).2)) := by
  have hne : s.data.toList.drop pos ≠ [] := by
    intro e
    have := congrArg List.length e
    rw [List.length_drop, List.length_nil, ← Lib.size_eq] at this
    omega
  rw [runes_step _ hne, Lib.decodeL_drop, List.drop_drop]
theorem runes_end (s : ByteArray) (pos : Nat) (h : ¬ pos < s.size) : runes (s.data.toList.drop pos) = [] := by
  rw [List.drop_eq_nil_of_le (by rw [← Lib.size_eq]; omega)]
  rfl
theorem width_pos (s : ByteArray) (pos : Nat) : 1 ≤ (Utf8.decode s pos).2 := by
  rw [← Lib.decodeL_drop]
  exact Lib.decodeL_width _

theorem i64_and_low (n : Nat) (h : n < 9223372036854775808) : bits .and .i64 (n : Int) 1023 = ((n % 1024 : Nat) : Int) := by
  have h127 : (BitVec.ofInt 64 1023).toNat = 2 ^ 10 - 1 := by decide
  have key : (BitVec.ofInt 64 (n : Int) &&& BitVec.ofInt 64 1023).toNat = ((n : Int) % ((2 ^ 64 : Nat) : Int)).toNat % 2 ^ 10 := by
    rw [BitVec.toNat_and, BitVec.toNat_ofInt, h127, Nat.and_two_pow_sub_one_eq_mod]
  show IntKind.i64.wrap ((BitVec.ofInt 64 (n : Int) &&& BitVec.ofInt 64 1023).toNat : Nat) = _
  rw [key, IntKind.wrap_i64]
  omega

theorem wide_pre_size (s : ByteArray) (hs : s.size ≤ 2147483647) (pre rest : List Nat) (h : pre ++ rest = runes s.data.toList) : (⟨(wide pre).toArray⟩ : ByteArray).size ≤ 8589934590 := by
  have h1 := wide_len s.data.toList
  rw [← h, ← Lib.size_eq] at h1
  have h2 : (wide (pre ++ rest)).length = (wide pre).length + (bytes (units rest)).length := by
    unfold wide
    rw [units_app, bytes_app]
    simp only [List.length_append, List.length_cons, List.length_nil]
    omega
  have h3 : (⟨(wide pre).toArray⟩ : ByteArray).size = (wide pre).length := by rw [Lib.size_eq]
  omega

set_option maxRecDepth 100000 in
set_option maxHeartbeats 1000000 in
theorem wide17 (s : ByteArray) (hs : s.size ≤ 2147483647) (w : World) (hV : Calls Tryd.prog 35 #[.string s] w fun e w' => e = .returned (.bool true) ∧ Below w.heap.size w w') :
    Calls Tryd.prog 17 #[.string s] w fun e w' => e = .returned (.tuple #[.string ⟨(wide (runes s.data.toList)).toArray⟩, .bool true]) ∧ Below w.heap.size w w' := by
  have HV := Lib.hid hV
  clear hV
  have hU := Lib.hid unit36
  go_enter Tryd.func17, Tryd.ntmps17
  go_wp2_with (go_at_call 35; refine HV.out.mono ?_; rintro e w1 ⟨rfl, hb⟩)
  go_loopw [4] (fun t wr => ∃ (pos : Nat) (pre : List Nat), t = .string ⟨(wide pre).toArray⟩ ∧ Hid (pre ++ runes (s.data.toList.drop pos) = runes s.data.toList) ∧ wr.heap[w1.heap.size]? = some (.stringIter s pos) ∧ Hid (Below w.heap.size w wr)) (fun _ wr => s.size - wr.iterPos w1.heap.size)
  case atStart =>
    refine ⟨0, [], rfl, rfl, World.iter_heap w1 s 0, Lib.hid (hb.alloc hb.size _)⟩
  case round =>
    obtain ⟨pos, pre, rfl, hpre, hit, HB⟩ := hrel
    have hw1 := hb.size
    have hsz : w1.heap.size < wr.heap.size := (Array.getElem?_eq_some_iff.1 hit).1
    by_cases hp : pos < s.size
    · have hnx : ∀ ty, (Instr.next (.pointer (some ⟨w1.heap.size, 0, none⟩)) true ty).run Tryd.prog wr = _ := fun ty => Lib.run_next_any_at wr w1.heap.size s pos ty hit hp
      have hwd := width_pos s pos
      have HWD := Lib.hid hwd
      have hsc := decode_scal s pos
      have hrd := Lib.hid (runes_drop s pos hp)
      have hit2 := Lib.iterAt_heap wr w1.heap.size s pos (pos + (Utf8.decode s pos).2) hit
      have hbw2 := Lib.hid (Lib.below_iterAt HB.out (k := w1.heap.size) (by omega) s (pos + (Utf8.decode s pos).2))
      generalize (Utf8.decode s pos).1 = c at hnx hsc hrd
      have hsi := Lib.iterAt_size wr w1.heap.size s (pos + (Utf8.decode s pos).2)
      by_cases h16 : c < 65536
      · have h16' : (c : Int) < 65536 := by omega
        have hw : Hid ((⟨(wide pre).toArray⟩ : ByteArray) ++ ⟨(be c).toArray⟩ = ⟨(wide (pre ++ [c])).toArray⟩) := Lib.hid (by
          rw [cat_be]
          unfold wide
          rw [units_app, bytes_app, List.append_assoc]
          simp [units, unit, h16, bytes])
        have hs0 := Lib.hid hsi
        have hU1 := Lib.hid fun w => hU.out c h16 w
        have hcc := Lib.hid hsc
        clear h16 hsi hsc hwd
        have h31 : (0 : Int) ≤ (c : Int) := by omega
        have hT := wide_pre_size s hs pre _ hpre.out
        have hBe : (⟨(be c).toArray⟩ : ByteArray).size = 2 := rfl
        clear hs
        generalize (⟨(wide pre).toArray⟩ : ByteArray) = T at hT hw ⊢
        generalize (⟨(be c).toArray⟩ : ByteArray) = C at hBe hw hU1 ⊢
        have HIT := Lib.hid hit
        have HIT2 := Lib.hid hit2
        have HP := Lib.hid hp
        have HSZ := Lib.hid hsz
        clear hit hit2 hsz hp
        generalize (c : Int) = d at hU1 hnx h16' h31 ⊢
        go_wp2_with (go_at_call 36; refine (hU1.out _).mono ?_; rintro e w2 ⟨rfl, hb2⟩; refine Hid.out ?_)
        refine Lib.hid ?_
        have hsz := HSZ.out
        have HB2 := Lib.hid (hbw2.out.trans (hb2.mono (by rw [hs0.out]; omega)))
        have hit3 : w2.heap[w1.heap.size]? = some (.stringIter s (pos + (Utf8.decode s pos).2)) := (hb2.block _ (by rw [hs0.out]; omega)).trans HIT2.out
        clear hb2 hnx hsz
        go_wp2_with fail
        go_roundw
        case rel => exact ⟨pos + (Utf8.decode s pos).2, pre ++ [c], congrArg Value.string hw.out, Lib.hid (by rw [← hpre.out, hrd.out]; simp), hit3, HB2⟩
        case measure =>
          have := HP.out
          have := HWD.out
          have hit := HIT.out
          simp only [World.iterPos, hit3, hit]
          omega
      · have h16' : ¬ (c : Int) < 65536 := by omega
        have hcm : c ≤ 1114111 := by rcases hsc with h | h <;> omega
        have hw : Hid ((⟨(wide pre).toArray⟩ : ByteArray) ++ ((⟨(be (55296 + (c - 65536) / 1024)).toArray⟩ : ByteArray) ++ ⟨(be (56320 + (c - 65536) % 1024)).toArray⟩) = ⟨(wide (pre ++ [c])).toArray⟩) := Lib.hid (by
          rw [cat_be]
          apply ByteArray.ext
          apply Array.toList_inj.1
          unfold wide
          rw [units_app, bytes_app]
          simp [units, unit, h16, bytes])
        have hs0 := Lib.hid hsi
        have hU1 : Hid (∀ w, Calls Tryd.prog 36 #[.int .i64 (55296 + ((c : Int) - 65536) / 1024)] w fun e w' => e = .returned (.string ⟨(be (55296 + (c - 65536) / 1024)).toArray⟩) ∧ Below w.heap.size w w') := Lib.hid fun w => by
          have := hU.out (55296 + (c - 65536) / 1024) (by omega) w
          rwa [show ((55296 + (c - 65536) / 1024 : Nat) : Int) = 55296 + ((c : Int) - 65536) / 1024 by omega] at this
        have hU2 : Hid (∀ w, Calls Tryd.prog 36 #[.int .i64 (56320 + (((c - 65536) % 1024 : Nat) : Int))] w fun e w' => e = .returned (.string ⟨(be (56320 + (c - 65536) % 1024)).toArray⟩) ∧ Below w.heap.size w w') := Lib.hid fun w => by
          have := hU.out (56320 + (c - 65536) % 1024) (by omega) w
          rwa [show ((56320 + (c - 65536) % 1024 : Nat) : Int) = 56320 + (((c - 65536) % 1024 : Nat) : Int) by omega] at this
        have e2 : bits .and .i64 ((c : Int) - 65536) 1023 = (((c - 65536) % 1024 : Nat) : Int) := by
          rw [show (c : Int) - 65536 = ((c - 65536 : Nat) : Int) by omega]
          rw [i64_and_low _ (by omega)]
        have hm0 : (0 : Int) ≤ (((c - 65536) % 1024 : Nat) : Int) := by omega
        have hm1 : (((c - 65536) % 1024 : Nat) : Int) ≤ 1023 := by omega
        have h30 : (c : Int) ≤ 1114111 := by omega
        have h31 : (65536 : Int) ≤ (c : Int) := by omega
        have hT := wide_pre_size s hs pre _ hpre.out
        have hBe : (⟨(be (55296 + (c - 65536) / 1024)).toArray⟩ : ByteArray).size = 2 := rfl
        have hCe : (⟨(be (56320 + (c - 65536) % 1024)).toArray⟩ : ByteArray).size = 2 := rfl
        have HIT := Lib.hid hit
        have HIT2 := Lib.hid hit2
        have HP := Lib.hid hp
        have HSZ := Lib.hid hsz
        clear hs hit hit2 hsz hp h16 hsi hsc hwd hcm
        generalize (⟨(wide pre).toArray⟩ : ByteArray) = T at hT hw ⊢
        generalize (⟨(be (55296 + (c - 65536) / 1024)).toArray⟩ : ByteArray) = C at hBe hw hU1 ⊢
        generalize (⟨(be (56320 + (c - 65536) % 1024)).toArray⟩ : ByteArray) = D at hCe hw hU2 ⊢
        generalize (((c - 65536) % 1024 : Nat) : Int) = m at hU2 e2 hm0 hm1
        generalize (c : Int) = d at hU1 e2 hnx h16' h30 h31 ⊢
        go_wp2_with (first
          | (go_at_call 36; (with_reducible refine (hU1.out _).mono ?_); rintro e w2 ⟨rfl, hb2⟩)
          | (go_at_call 36; (with_reducible refine (hU2.out _).mono ?_); rintro e w3 ⟨rfl, hb3⟩; refine Hid.out ?_))
        refine Lib.hid ?_
        have hsz := HSZ.out
        have HB2 := Lib.hid (hbw2.out.trans ((hb2.trans (hb3.mono hb2.size)).mono (by rw [hs0.out]; omega)))
        have hit3 : w3.heap[w1.heap.size]? = some (.stringIter s (pos + (Utf8.decode s pos).2)) := ((hb2.trans (hb3.mono hb2.size)).block _ (by rw [hs0.out]; omega)).trans HIT2.out
        clear hb2 hb3 hnx hsz
        go_wp2_with fail
        go_roundw
        case rel => exact ⟨pos + (Utf8.decode s pos).2, pre ++ [c], congrArg Value.string hw.out, Lib.hid (by rw [← hpre.out, hrd.out]; simp), hit3, HB2⟩
        case measure =>
          have := HP.out
          have := HWD.out
          have hit := HIT.out
          simp only [World.iterPos, hit3, hit]
          omega
    · have hnx : ∀ ty, (Instr.next (.pointer (some ⟨w1.heap.size, 0, none⟩)) true ty).run Tryd.prog wr = _ := fun ty => Lib.run_next_end_at wr w1.heap.size s pos ty hit hp
      have he := runes_end s pos hp
      have hpre' := hpre.out
      rw [he, List.append_nil] at hpre'
      subst hpre'
      clear hpre he
      go_wp2
      exact bodyPost_ret (v := .tuple #[.string ⟨(wide (runes s.data.toList)).toArray⟩, .bool true]) (by simp [results, Tryd.results17, go_sem]) rfl ⟨rfl, HB.out⟩
end Go.Proofs.YtcohlcijgfdanaaDoor.wd
