/-
  FnEncodeName: the law's walk, and what its row lists.
-/
import Derived.Test.YtcohlcijgfdanaaDoorNmb
import Derived.Test.YtcohlcijgfdanaaDoorNmd
import Derived.Stop.LaidErr
import Derived.Lib.LaidTab
namespace Go.Proofs.YtcohlcijgfdanaaDoor
open Go.RowKit

theorem implEnc (s : ByteArray) (hs : s.size ≤ 4096) (w : World) :
    Calls Tryd.prog 10 #[.string s] w fun e w' => e = .returned (.string ⟨(enc s.data.toList).toArray⟩) ∧ Below w.heap.size w w' := by
  have hc := Lib.hid (encodeName s hs w)
  go_enter Tryd.func10, Tryd.ntmps10
  go_wp2_with (go_at_call 29; refine hc.out.mono ?_; rintro e w' ⟨rfl, hb⟩)
  go_ret
  exact ⟨rfl, hb⟩
theorem specNameable (s : ByteArray) (hs : s.size ≤ 4096) (w : World) :
    Calls Tryd.prog 9 #[.string s] w fun e w' => e = .returned (.bool (nameOk s.data.toList)) ∧ w = w' := by
  have hc := Lib.hid (nameable s hs w)
  go_enter Tryd.func9, Tryd.ntmps9
  go_wp2_with (go_at_call 28; refine hc.out.mono ?_; rintro e w' ⟨rfl, rfl⟩)
  go_ret
  exact ⟨rfl, rfl⟩

set_option maxHeartbeats 2000000 in
theorem implDec (t : ByteArray) (bs : List UInt8) (ht : t.data.toList = enc bs) (hb0 : bs.length ≤ 4096) (h0 : nameOk bs = true) (w : World) (hE : ErrLen w) :
    Calls Tryd.prog 13 #[.string t] w fun e w' => e = .returned (.tuple #[.string ⟨bs.toArray⟩, .bool true]) ∧ Below w.heap.size w w' := by
  have hc := Lib.hid (decodeName t bs ht hb0 h0 w hE)
  clear ht hb0 h0
  go_enter Tryd.func13, Tryd.ntmps13
  go_wp2_with (go_at_call 33; refine hc.out.mono ?_; rintro e w' ⟨rfl, hb⟩)
  go_quiet (fail)
  go_wp2_with fail
  go_ret2
  exact ⟨rfl, below_drewN hb _⟩

set_option maxHeartbeats 8000000 in
theorem fnEncodeName_main (s : ByteArray) (hs : s.size ≤ 4096) (hno : nameOk s.data.toList = true) (w : World) (hE : ErrLen w) :
    Calls Tryd.prog 3 #[.string s] w fun e w' => e = .returned (.bool true) ∧ Below w.heap.size w w' := by
  have hw3 : 3 < w.heap.size := by obtain ⟨ev, h⟩ := hE; exact World.block_lt_of_cell? _ _ h
  obtain ⟨t, ht⟩ : ∃ t : ByteArray, t = ⟨(enc s.data.toList).toArray⟩ := ⟨_, rfl⟩
  have htd : t.data.toList = enc s.data.toList := by rw [ht]
  have hsl : s.data.toList.length ≤ 4096 := by rw [size_len]; exact hs
  have hC1 := Lib.hid fun w => specNameable s hs w
  rw [hno] at hC1
  have hC2 := Lib.hid fun w => implEnc s hs w
  have hM : (⟨s.data.toList.toArray⟩ : ByteArray) = s := Lib.mk_data s
  have hC3 := Lib.hid fun w => nameBytes t _ htd hsl hno w
  have hC4 := Lib.hid fun w hE => implDec t _ htd hsl hno w hE
  rw [← ht] at hC2
  rw [hM] at hC3 hC4
  have h12 := (enc_length s.data.toList).2
  have htz : t.size ≤ 12288 := by rw [← size_len, htd]; omega
  have hg : Hid (∀ k (h : k < t.size), good (t[k]).toNat = true) := by
    refine Lib.hid fun k h => ?_
    apply enc_good s.data.toList
    rw [← htd]
    have : t.data.toList[k]? = some (t[k]) := by
      rw [List.getElem?_eq_getElem (by rw [size_len]; exact h)]
      simp
      rfl
    exact List.mem_of_getElem? this
  have hs1 : ¬ (2147483647 : Int) < (s.size : Int) := by omega
  have hs2 : ¬ (4096 : Int) < (s.size : Int) := by omega
  clear ht htd hno h12 hM hsl
  go_enter Tryd.func3, Tryd.ntmps3
  go_wp2_with (first
    | (go_at_call 9; refine (hC1.out _).mono ?_; rintro e w' ⟨rfl, rfl⟩)
    | (go_at_call 10; refine (hC2.out _).mono ?_; rintro e w1 ⟨rfl, hb1⟩; refine Hid.out ?_))
  refine Lib.hid ?_
  go_wp2_with fail
  go_loop [4, 24] (fun _ vi => ∃ (k : Nat), vi = .int .i64 k ∧ k ≤ t.size)
    (fun _ vi => t.size - (intOf vi).toNat)
  case atStart => exact ⟨0, rfl, by omega⟩
  case round =>
    obtain ⟨k, rfl, hk⟩ := hrel
    by_cases hkn : k < t.size
    · have hgk := hg.out k hkn
      obtain ⟨c, hc⟩ : ∃ c, t[k] = c := ⟨_, rfl⟩
      rw [hc] at hgk
      have hr := Lib.hid fun w => regularGood c.toNat c.toNat_lt hgk w
      simp only [good, Bool.and_eq_true, decide_eq_true_eq] at hgk
      obtain ⟨⟨hg1, hg2⟩, _⟩ := hgk
      go_wp2_with (go_at_call 11; refine (hr.out _).mono ?_; rintro e w' ⟨rfl, rfl⟩)
      refine ⟨⟨k + 1, (by first | rfl | (congr 1; omega)), by omega⟩, by simp [intOf]; omega⟩
    · have hkk : k = t.size := by omega
      subst hkk
      go_wp2_with (first
        | (go_at_call 12; refine (hC3.out _).mono ?_; rintro e w2 ⟨rfl, hb2⟩; refine Hid.out ?_))
      refine Lib.hid ?_
      have hbw : Below w.heap.size w w2 := hb1.trans (hb2.mono hb1.size)
      go_wp2_with (first
        | (go_at_call 13; refine (hC4.out _ (hE.on hw3 hbw)).mono ?_; rintro e w3 ⟨rfl, hb3⟩))
      go_ret
      exact ⟨rfl, hbw.trans (hb3.mono hbw.size)⟩

set_option maxHeartbeats 4000000 in
theorem encodeName_walk (s : ByteArray) (w : World) (hE : ErrLen w) :
    Calls Tryd.prog 3 #[.string s] w fun e w' => e = .returned (.bool true) ∧ Below w.heap.size w w' := by
  by_cases hs : s.size ≤ 4096
  · cases hno : nameOk s.data.toList
    · have hC1 := Lib.hid fun w => specNameable s hs w
      rw [hno] at hC1
      have hs1 : ¬ (2147483647 : Int) < (s.size : Int) := by omega
      have hs2 : ¬ (4096 : Int) < (s.size : Int) := by omega
      clear hno
      go_enter Tryd.func3, Tryd.ntmps3
      go_wp2_with (go_at_call 9; refine (hC1.out _).mono ?_; rintro e w' ⟨rfl, rfl⟩)
      go_ret
      exact ⟨rfl, Below.refl _ _⟩
    · exact fnEncodeName_main s hs hno w hE
  · have hs2 : (4096 : Int) < (s.size : Int) := by omega
    by_cases hs1 : (2147483647 : Int) < (s.size : Int)
    · go_enter Tryd.func3, Tryd.ntmps3
      go_wp2_with fail
      go_ret
      exact ⟨rfl, Below.refl _ _⟩
    · go_enter Tryd.func3, Tryd.ntmps3
      go_wp2_with fail
      go_ret
      exact ⟨rfl, Below.refl _ _⟩

theorem gLen : Tryd.prog.globalNamed "encoding/hex.ErrLength" = some 3 := by kernel_rfl
theorem starE : "*" ++ "errors.errorString" = "*errors.errorString" := by decide
theorem errTypesE (u : TypeId) (h : Tryd.prog.typeName? 3 u = some "*errors.errorString") : u = 101 :=
  typeName_ptr_named (nm := "errors.errorString") (by rw [starE]; kernel_rfl) (by kernel_rfl) (by decide) u (by rw [starE]; exact h)
def fnEncodeNameTab := ErrLen
theorem fnEncodeName_tab {W : World} (h : laidMetH Tryd.prog Rows.fnEncodeNameRow.laid W) : fnEncodeNameTab W := by
  have h : laidMet Tryd.prog Rows.fnEncodeNameRow.laid W := h
  obtain ⟨a, s, hv, _⟩ := laid_sentinel (tp := 101) (te := 103) (ts := 9) h gLen (by kernel_rfl) Tryd.underlying37 errTypesE Tryd.underlying101 Tryd.underlying103 (by kernel_rfl) (by kernel_rfl) Tryd.underlying9 (by kernel_rfl) (by kernel_rfl)
  exact ⟨_, by simpa using World.var?_cell gLen hv 0⟩
theorem fnEncodeName_walk (s : ByteArray) (w : World) (h : fnEncodeNameTab w) (_ : s.size ≤ maxLen) :
    Calls Tryd.prog 3 #[.string s] w fun e w' => e = .returned (.bool true) ∧ Below w.heap.size w w' := encodeName_walk s w h
end Go.Proofs.YtcohlcijgfdanaaDoor
