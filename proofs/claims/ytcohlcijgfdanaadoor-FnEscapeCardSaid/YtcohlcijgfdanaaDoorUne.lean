/-
  FnEscape: Unescape's contract at what Escape writes.
-/
import Derived.Test.YtcohlcijgfdanaaDoorLit
namespace Go.Proofs.YtcohlcijgfdanaaDoor.esc
open Go.RowKit

theorem regular (c : Int) (e : Bool) (w : World) (r : Bool) (hr : (decide (c ≠ 92) && !e) = r) : Calls Tryd.prog 72 #[.int .u8 c, .bool e] w fun x w' => x = .returned (.bool r) ∧ w = w' := by
  subst hr
  by_cases h : c = 92
  · subst h
    go_enter Tryd.func72, Tryd.ntmps72
    go_wp2
    go_ret
    exact ⟨rfl, rfl⟩
  · have hd : decide (c ≠ 92) = true := by simp [h]
    rw [hd]
    have hne : (c != 92) = true := by simp [h]
    cases e
    · go_enter Tryd.func72, Tryd.ntmps72
      go_wp2
      go_ret
      exact ⟨rfl, rfl⟩
    · go_enter Tryd.func72, Tryd.ntmps72
      go_wp2
      go_ret
      exact ⟨rfl, rfl⟩

theorem escaped (c x : Nat) (hp : Pair c x) (h92 : x ≠ 92) (w : World) : Calls Tryd.prog 73 #[.int .u8 x] w fun e w' => e = .returned (.tuple #[.bool false, .int .u8 c]) ∧ w = w' := by
  unfold Pair at hp
  rcases hp with ⟨hc, hx⟩ | ⟨hc, hx⟩ | ⟨hc, hx⟩ | ⟨hc, hx⟩ | ⟨hc, hx⟩ | ⟨hc, hx⟩ | ⟨hc, hx⟩ | ⟨hc, hx⟩
  all_goals
    subst hc hx
    first
    | (exact absurd rfl h92)
    | (go_enter Tryd.func73, Tryd.ntmps73
       go_wp2
       go_ret2
       exact ⟨rfl, rfl⟩)

/-- How far Unescape is; e: a reverse solidus was read. -/
structure UnSt (bs pre suf : List UInt8) (n : Nat) (e : Bool) : Prop where
  all : bs = pre ++ suf
  len : n = (escL pre).length + (if e then 1 else 0)
  mid : e = true → ∃ c l, suf = c :: l ∧ sp c.toNat = true

set_option maxHeartbeats 16000000 in
set_option maxRecDepth 100000 in
theorem unescape (t : ByteArray) (bs : List UInt8) (ht : t.data.toList = escL bs) (hb0 : bs.length ≤ 4096) (w : World) :
    Calls Tryd.prog 45 #[.string t] w fun e w' => (∃ v, e = .returned (.tuple #[v, .nilIface]) ∧ w'.ownsRow w.heap.size 5 1 v bs.length (Lib.byteCells bs)) ∧ Below w.heap.size w w' := by
  have hI0 : Lib.IsBuffer 81 5 w.heap.size w.heap.size (Lib.byteCells []) (w.alloc (.cells #[.slice none 0 0, .int .i64 0, .int .i8 0] 81)) := Lib.fresh_isBuffer 81 5 w
  have hB0 : Below w.heap.size w (w.alloc (.cells #[.slice none 0 0, .int .i64 0, .int .i8 0] 81)) := (Below.refl _ w).alloc (Nat.le_refl _) _
  have hsz : t.size = (escL bs).length := by rw [Lib.size_eq, ht]
  have h12 := (escL_length bs).2
  have htz : t.size ≤ 10000 := by omega
  have hget := Lib.hid fun k h c => get_of t _ ht k h c
  have HSZ := Lib.hid hsz
  clear ht hsz
  go_enter Tryd.func45, Tryd.ntmps45
  go_wp2
  go_loopw [4, 5, 6, 8, 9, 10] (fun e le oc i _ _ wr => ∃ (eb : Bool) (pre suf : List UInt8) (n : Nat), e = .bool eb ∧ le = .bool false ∧ oc = .string ⟨#[]⟩ ∧ i = .int .i64 n ∧ UnSt bs pre suf n eb ∧ n ≤ t.size ∧ Lib.IsBuffer 81 5 w.heap.size w.heap.size (Lib.byteCells pre) wr ∧ Below w.heap.size w wr)
    (fun _ _ _ i _ _ _ => t.size - (intOf i).toNat)
  case atStart => exact ⟨false, [], bs, 0, rfl, rfl, rfl, rfl, ⟨rfl, rfl, fun h => (by cases h)⟩, by omega, hI0, hB0⟩
  case round =>
    obtain ⟨eb, pre, suf, n, rfl, rfl, rfl, rfl, hst, hnt, hI, hnx⟩ := hrel
    have hsz1 := hnx.size
    clear hI0 hB0
    obtain ⟨hbs, hn, hmid⟩ := hst
    cases eb
    · simp only [Bool.false_eq_true, if_false, Nat.add_zero] at hn
      cases suf with
      | nil =>
        have hend : n = t.size := by rw [HSZ.out, hbs, hn]; simp
        rw [List.append_nil] at hbs
        subst hbs
        subst hend
        clear hget hmid hn
        go_wp2_with (go_at_call 74; refine (Tryd.Buffer_Bytes w.heap.size w.heap.size _ wr hI).mono ?_; rintro e w1 ⟨v, rfl, hown, m, rfl⟩)
        go_ret2
        refine ⟨⟨v, rfl, ?_⟩, ⟨hnx.os, hnx.tape, hnx.output, hnx.size, hnx.block⟩⟩
        rw [Lib.byteCells_length] at hown
        exact hown
      | cons c suf =>
        have hpl : pre.length ≤ 4096 := by rw [hbs] at hb0; simp at hb0; omega
        have hen : escL bs = escL pre ++ (esc1 c ++ escL suf) := by rw [hbs, escL_append, escL_cons]
        have hl1 := esc1_length c
        have hlen : n + (esc1 c).length ≤ t.size := by rw [HSZ.out, hen, hn]; simp only [List.length_append]; omega
        have hbs2 : bs = (pre ++ [c]) ++ suf := by rw [hbs]; simp
        have hn2 : n + (esc1 c).length = (escL (pre ++ [c])).length := by rw [escL_append, escL_cons, escL_nil]; simp only [List.length_append, List.length_nil]; omega
        have hc256 : c.toNat < 256 := c.toNat_lt
        have hlt : n < t.size := by omega
        cases hsp : sp c.toNat
        · obtain ⟨h1, n1, n2, n3, n4, n5, n6, n7, n8⟩ := of_plain c hsp
          rw [h1] at hlen hn2
          simp only [List.length_cons, List.length_nil] at hlen hn2
          have hg := hget.out n hlt c (by rw [hen, h1, hn]; simp)
          have hst2 : UnSt bs (pre ++ [c]) suf (n + 1) false := ⟨hbs2, by simp; omega, fun h => (by cases h)⟩
          have CR := Lib.hid fun w => regular (c.toNat : Int) false w true (by simp; omega)
          clear hget hn hn2 hbs hbs2 hen hl1 h1 hsp hmid
          go_wp2_with (first
            | (go_at_call 72; refine (CR.out _).mono ?_; rintro e w' ⟨rfl, rfl⟩)
            | (go_at_call 67; refine (bufB w.heap.size w.heap.size _ c wr hI hsz1 (by omega)).mono ?_; rintro e w1 ⟨rfl, hI1, hb1⟩))
          refine ⟨⟨false, pre ++ [c], suf, n + 1, rfl, rfl, rfl, rfl, hst2, by omega, hI1, hnx.trans hb1⟩, ?_⟩
          simp [intOf]; omega
        · obtain ⟨h1, hp⟩ := of_sp c hsp
          rw [h1] at hlen hn2
          simp only [List.length_cons, List.length_nil] at hlen hn2
          have hg := hget.out n hlt 92 (by rw [hen, h1, hn]; simp)
          have hst2 : UnSt bs pre (c :: suf) (n + 1) true := ⟨hbs, by simp; omega, fun _ => ⟨c, suf, rfl, hsp⟩⟩
          have CR := Lib.hid fun w => regular 92 false w false (by simp)
          clear hget hn hn2 hbs hbs2 hen hl1 h1 hsp hmid hp
          go_wp2_with (go_at_call 72; refine (CR.out _).mono ?_; rintro e w' ⟨rfl, rfl⟩)
          refine ⟨⟨true, pre, c :: suf, n + 1, rfl, rfl, rfl, rfl, hst2, by omega, hI, hnx⟩, ?_⟩
          simp [intOf]; omega
    · simp only [if_true] at hn
      obtain ⟨c, suf, rfl, hsp⟩ := hmid rfl
      have hpl : pre.length ≤ 4096 := by rw [hbs] at hb0; simp at hb0; omega
      have hen : escL bs = escL pre ++ (esc1 c ++ escL suf) := by rw [hbs, escL_append, escL_cons]
      obtain ⟨h1, hp⟩ := of_sp c hsp
      have hbs2 : bs = (pre ++ [c]) ++ suf := by rw [hbs]; simp
      have hlen : n + 1 ≤ t.size := by rw [HSZ.out, hen, hn, h1]; simp only [List.length_append, List.length_cons, List.length_nil]; omega
      have hn2 : n + 1 = (escL (pre ++ [c])).length := by rw [escL_append, escL_cons, escL_nil, h1]; simp only [List.length_append, List.length_cons, List.length_nil]; omega
      have hlt : n < t.size := by omega
      have hx := hget.out n hlt (escC c) (by rw [hen, h1, hn]; simp)
      have hst2 : UnSt bs (pre ++ [c]) suf (n + 1) false := ⟨hbs2, by simp; omega, fun h => (by cases h)⟩
      obtain ⟨x, hxn⟩ : ∃ x, escC c = x := ⟨_, rfl⟩
      rw [hxn] at hx hp
      have hx256 : x.toNat < 256 := x.toNat_lt
      have CR := Lib.hid fun w => regular (x.toNat : Int) true w false (by simp)
      by_cases h92 : x.toNat = 92
      · have hc92 : c = 92 := by
          apply UInt8.toNat_inj.1
          unfold Pair at hp
          rcases hp with h | h | h | h | h | h | h | h
          all_goals first | (exact h.1) | (exfalso; omega)
        subst hc92
        rw [h92] at CR
        clear hget hn hn2 hbs hbs2 hen h1 hsp hmid hp hxn
        go_wp2_with (first
          | (go_at_call 72; refine (CR.out _).mono ?_; rintro e w' ⟨rfl, rfl⟩)
          | (go_at_call 67; refine (bufB w.heap.size w.heap.size _ 92 wr hI hsz1 (by omega)).mono ?_; rintro e w1 ⟨rfl, hI1, hb1⟩))
        refine ⟨⟨false, _, suf, n + 1, rfl, rfl, rfl, rfl, hst2, by omega, hI1, hnx.trans hb1⟩, ?_⟩
        simp [intOf]; omega
      · have CE := Lib.hid fun w => escaped c.toNat x.toNat hp h92 w
        have h10 : x.toNat ≠ 10 := by
          unfold Pair at hp
          omega
        have h13 : x.toNat ≠ 13 := by
          unfold Pair at hp
          omega
        clear hget hn hn2 hbs hbs2 hen h1 hsp hmid hp hxn
        go_wp2_with (first
          | (go_at_call 72; refine (CR.out _).mono ?_; rintro e w' ⟨rfl, rfl⟩)
          | (go_at_call 73; refine (CE.out _).mono ?_; rintro e w' ⟨rfl, rfl⟩)
          | (go_at_call 67; refine (bufB w.heap.size w.heap.size _ c wr hI hsz1 (by omega)).mono ?_; rintro e w1 ⟨rfl, hI1, hb1⟩))
        refine ⟨⟨false, _, suf, n + 1, rfl, rfl, rfl, rfl, hst2, by omega, hI1, hnx.trans hb1⟩, ?_⟩
        simp [intOf]; omega
end Go.Proofs.YtcohlcijgfdanaaDoor.esc
