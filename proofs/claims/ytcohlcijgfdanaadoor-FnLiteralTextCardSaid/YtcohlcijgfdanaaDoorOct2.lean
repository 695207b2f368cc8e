/-
  Contracts of ByteForOctalString for every string, and the walk of FnOctal.
-/
import Derived.Test.YtcohlcijgfdanaaDoorOct
import Derived.Test.YtcohlcijgfdanaaDoorShelfL
import Derived.Lib.AtoiErrMem
import Derived.Laws.BitsLemmas
namespace Go.Proofs.YtcohlcijgfdanaaDoor
open Go.RowKit

theorem octM_lt : ∀ (l : List UInt8) (k acc n : Nat), acc < 8 ^ k → octM acc l = some n → n < 8 ^ (k + l.length)
  | [], k, acc, n, h, e => by simp [octM] at e; subst e; simpa using h
  | c :: l, k, acc, n, h, e => by
    simp only [octM] at e
    split at e
    · rename_i hd
      have := octM_lt l (k + 1) _ n (by rw [Nat.pow_succ]; omega) e
      rw [show k + (c :: l).length = k + 1 + l.length by simp; omega]
      exact this
    · cases e

/-- ErrSyntax holds a value of an interface's type. -/
def ErrSyn (w : World) : Prop := ∃ ev, w.cell? ⟨6, 0, none⟩ = some ev ∧ (ev = .nilIface ∨ ∃ te pe, ev = .iface te pe)

theorem ErrSyn.on {w w' : World} (h : ErrSyn w) (hb : Below w.heap.size w w') : ErrSyn w' := by
  obtain ⟨ev, h1, h2⟩ := h
  exact ⟨ev, (hb.cell (p := ⟨6, 0, none⟩) (World.block_lt_of_cell? _ _ h1)).trans h1, h2⟩

theorem parseUintOk (s : ByteArray) (hne : s.size ≠ 0) (hmax : s.size ≤ 3) (n : Nat) (hn : octM 0 s.data.toList = some n) (w : World) :
    Calls Tryd.prog 66 #[.string s, .int .i64 8, .int .i64 16] w fun e w' => e = .returned (.tuple #[.int .u64 n, .nilIface]) ∧ Below w.heap.size w w' := by
  have hc := parseUint8 s hne hmax w
  rw [hn] at hc
  simp only [octV] at hc
  have hbel := Lib.bytesWorld_below w 5 s
  go_enter Tryd.func66, Tryd.ntmps66
  go_wp2_with (go_at_call 92; refine hc.mono ?_; rintro e w' ⟨rfl, rfl⟩)
  go_ret2
  exact ⟨rfl, hbel⟩

theorem parseUintErr (s : ByteArray) (hne : s.size ≠ 0) (hmax : s.size ≤ 3) (hn : octM 0 s.data.toList = none) (w : World) (hE : ErrSyn w) :
    Calls Tryd.prog 66 #[.string s, .int .i64 8, .int .i64 16] w fun e w' => (∃ N, e = .returned (.tuple #[.int .u64 0, .iface 126 (.pointer (some ⟨N, 0, none⟩))])) ∧ Below w.heap.size w w' := by
  have hc := parseUint8 s hne hmax w
  rw [hn] at hc
  simp only [octV] at hc
  have hbel := Lib.bytesWorld_below w 5 s
  obtain ⟨ev, hv, hev⟩ := hE.on hbel
  have hlim : s.size ≤ 281474976710656 := by omega
  have hT := Lib.hid (Tryd.strconv_toError_syntax ⟨#[80, 97, 114, 115, 101, 85, 105, 110, 116]⟩ s 8 16 ev (Lib.bytesWorld w 5 s) hlim hv hev)
  clear hv hev
  go_enter Tryd.func66, Tryd.ntmps66
  go_wp2_with (go_at_call 92; refine hc.mono ?_; rintro e w' ⟨rfl, rfl⟩)
  go_wp2_with (go_at_call 93; refine (hT.out).mono ?_; rintro e w' ⟨N, rfl, _, _, hb⟩)
  go_ret2
  exact ⟨⟨N, rfl⟩, hbel.trans (hb.mono hbel.size)⟩

theorem ret_u8 {a b : Int} (h : a = b) : Ending.returned (.int .u8 a) = .returned (.int .u8 b) := by rw [h]
/-- The byte that some digits are. -/
def ob (l : List UInt8) : Nat := if l.length = 0 ∨ 3 < l.length then 0 else match octM 0 l with
  | some n => n % 256
  | none => 0

theorem octByte (s : ByteArray) (w : World) (hE : ErrSyn w) :
    Calls Tryd.prog 41 #[.string s] w fun e w' => e = .returned (.int .u8 (ob s.data.toList)) ∧ Below w.heap.size w w' := by
  have hL : s.data.toList.length = s.size := by rw [Lib.size_eq]
  by_cases h0 : s.size = 0
  · have hz : ob s.data.toList = 0 := by unfold ob; rw [if_pos (Or.inl (by omega))]
    rw [hz]
    go_enter Tryd.func41, Tryd.ntmps41
    go_wp2
    go_ret
    exact ⟨rfl, Below.refl _ _⟩
  by_cases h3 : 3 < s.size
  · have hz : ob s.data.toList = 0 := by unfold ob; rw [if_pos (Or.inr (by omega))]
    rw [hz]
    clear hL hz
    go_enter Tryd.func41, Tryd.ntmps41
    go_wp2
    go_ret
    exact ⟨rfl, Below.refl _ _⟩
  have g0 : ((s.size : Int) == 0) = false := by
    rw [beq_eq_false_iff_ne]; omega
  have g1 : ¬ (3 : Int) < (s.size : Int) := by omega
  cases hn : octM 0 s.data.toList with
  | some n =>
    have hz : ob s.data.toList = n % 256 := by unfold ob; rw [if_neg (by omega), hn]
    rw [hz]
    have hc := Lib.hid (parseUintOk s h0 (by omega) n hn w)
    have hlt : n < 512 := by
      have := octM_lt _ 0 0 n (by decide) hn
      have := pow8 (show 0 + s.data.toList.length ≤ 3 by omega)
      omega
    have hb255 : bits BinOp.and IntKind.u64 (n : Int) 255 = (n : Int) % 256 := bits_mask .u64 64 (by decide) (fun n h0 h1 => by rw [IntKind.wrap_u64]; omega) 8 (by decide) (n : Int) (by omega) (by omega)
    have HB := Lib.hid hb255
    clear hL hz hn hb255 hlt
    go_enter Tryd.func41, Tryd.ntmps41
    go_wp2_with (go_at_call 66; refine hc.out.mono ?_; rintro e w' ⟨rfl, hb⟩)
    go_ret
    refine ⟨?_, hb⟩
    refine ret_u8 ?_
    rw [HB.out]
    omega
  | none =>
    have hz : ob s.data.toList = 0 := by unfold ob; rw [if_neg (by omega), hn]
    rw [hz]
    have hc := Lib.hid (parseUintErr s h0 (by omega) hn w hE)
    clear hL hz hn
    go_enter Tryd.func41, Tryd.ntmps41
    go_wp2_with (go_at_call 66; refine hc.out.mono ?_; rintro e w' ⟨⟨N, rfl⟩, hb⟩)
    go_ret
    exact ⟨rfl, hb⟩

theorem implOctal (s : ByteArray) (w : World) (hE : ErrSyn w) :
    Calls Tryd.prog 21 #[.string s] w fun e w' => e = .returned (.int .u8 (ob s.data.toList)) ∧ Below w.heap.size w w' := by
  have hc := Lib.hid (octByte s w hE)
  go_enter Tryd.func21, Tryd.ntmps21
  go_wp2_with (go_at_call 41; refine hc.out.mono ?_; rintro e w' ⟨rfl, hb⟩)
  go_ret
  exact ⟨rfl, hb⟩

set_option maxHeartbeats 4000000 in
theorem octal_walk (s : ByteArray) (w : World) (hE : ErrSyn w) :
    Calls Tryd.prog 6 #[.string s] w fun e w' => e = .returned (.bool true) ∧ Below w.heap.size w w' := by
  have hc := Lib.hid (implOctal s w hE)
  by_cases hbig : 10 < s.size
  · clear hc
    by_cases hb : 2147483647 < (s.size : Int)
    · go_enter Tryd.func6, Tryd.ntmps6
      go_wp2_with fail
      go_ret
      exact ⟨rfl, Below.refl _ _⟩
    · have hbig : (10 : Int) < (s.size : Int) := by omega
      go_enter Tryd.func6, Tryd.ntmps6
      go_wp2_with fail
      go_ret
      exact ⟨rfl, Below.refl _ _⟩
  have hb : ¬ 2147483647 < (s.size : Int) := by omega
  have hbig : ¬ (10 : Int) < (s.size : Int) := by omega
  obtain ⟨bs, hL⟩ : ∃ bs, bs = s.data.toList := ⟨_, rfl⟩
  have hLn : bs.length = s.size := by rw [hL, Lib.size_eq]
  have hget : ∀ k (h : k < s.size), s[k] = bs[k]'(by omega) := by
    intro k h
    subst hL
    simp
    rfl
  rw [← hL] at hc
  clear hL
  go_enter Tryd.func6, Tryd.ntmps6
  go_wp2_with fail
  go_loop [3, 4, 13] (fun v _ vi => ∃ (k acc : Nat), v = .int .i64 acc ∧ vi = .int .i64 k ∧ k ≤ s.size ∧ Hid (acc < 8 ^ k ∧ octM 0 bs = octM acc (bs.drop k) ∧ (s.size ≤ 3 ∨ k = 0)))
    (fun _ _ vi => s.size - (intOf vi).toNat)
  case atStart => exact ⟨0, 0, rfl, rfl, by omega, by decide, rfl, Or.inr rfl⟩
  case round =>
    obtain ⟨k, acc, rfl, rfl, hk, hh⟩ := hrel
    obtain ⟨hacc, hdec, h3⟩ := hh.out
    clear hh
    by_cases hkn : k < s.size
    · have hg := hget k hkn
      have hdrop : bs.drop k = bs[k]'(by omega) :: bs.drop (k + 1) := List.drop_eq_getElem_cons (by omega)
      rw [hdrop] at hdec
      generalize bs[k]'(by omega) = c at hg hdec
      have hc256 : c.toNat < 256 := c.toNat_lt
      clear hdrop hget
      by_cases hs3 : 3 < s.size
      · have hob : ob bs = 0 := by unfold ob; rw [if_pos (Or.inr (by omega))]
        rw [hob] at hc
        clear hdec hacc hob
        have hs3 : (3 : Int) < (s.size : Int) := by omega
        go_wp2_with (go_at_call 21; refine hc.out.mono ?_; rintro e w' ⟨rfl, hb1⟩)
        all_goals
          go_ret
          exact ⟨rfl, hb1⟩
      · have hs3 : ¬ (3 : Int) < (s.size : Int) := by omega
        by_cases hdig : 48 ≤ c.toNat ∧ c.toNat ≤ 55
        · obtain ⟨hd0, hd1⟩ := hdig
          have hF : octM acc (c :: bs.drop (k + 1)) = octM (acc * 8 + (c.toNat - 48)) (bs.drop (k + 1)) := by simp [octM, hd0, hd1]
          have h512 := pow8 (show k ≤ 3 by omega)
          have hacc2 : acc < 512 := by omega
          have HN : Hid (acc * 8 + (c.toNat - 48) < 8 ^ (k + 1) ∧ octM 0 bs = octM (acc * 8 + (c.toNat - 48)) (bs.drop (k + 1)) ∧ (s.size ≤ 3 ∨ k + 1 = 0)) := Lib.hid ⟨by rw [Nat.pow_succ]; omega, hdec.trans hF, Or.inl (by omega)⟩
          clear hacc hF hdec h512 hc h3
          go_wp2_with fail
          refine ⟨⟨k + 1, acc * 8 + (c.toNat - 48), (by first | rfl | (congr 1; omega)), (by first | rfl | (congr 1; omega)), by omega, HN⟩, by simp [intOf]; omega⟩
        · have hF : octM acc (c :: bs.drop (k + 1)) = none := by simp only [octM]; rw [if_neg hdig]
          have hob : ob bs = 0 := by
            unfold ob
            split
            · rfl
            · rw [hdec, hF]
          rw [hob] at hc
          clear hdec hacc hob hF
          go_wp2_with (go_at_call 21; refine hc.out.mono ?_; rintro e w' ⟨rfl, hb1⟩)
          all_goals
            go_ret
            exact ⟨rfl, hb1⟩
    · have hkk : k = s.size := by omega
      subst hkk
      have hF : octM acc (bs.drop s.size) = some acc := by rw [List.drop_eq_nil_of_le (by omega)]; rfl
      rw [hF] at hdec
      have hob : (ob bs : Int) = (acc : Int) % 256 := by
        unfold ob
        by_cases h0 : s.size = 0
        · rw [if_pos (Or.inl (by omega))]
          rw [h0] at hacc
          simp at hacc
          subst hacc
          rfl
        · rw [if_neg (by omega), hdec]
          simp
      have hacc2 : acc < 512 := by have := pow8 (show s.size ≤ 3 by omega); omega
      have hb255 : bits BinOp.and IntKind.i64 (acc : Int) 255 = (acc : Int) % 256 := bits_mask .i64 63 (by decide) (fun n h0 h1 => by rw [IntKind.wrap_i64]; omega) 8 (by decide) (acc : Int) (by omega) (by omega)
      rw [hob] at hc
      clear hacc hF hdec hob hget
      go_wp2_with (go_at_call 21; refine hc.out.mono ?_; rintro e w' ⟨rfl, hb1⟩)
      go_ret
      exact ⟨rfl, hb1⟩
end Go.Proofs.YtcohlcijgfdanaaDoor
