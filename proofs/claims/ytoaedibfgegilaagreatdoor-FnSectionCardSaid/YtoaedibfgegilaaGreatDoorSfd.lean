/-
  zzIsSpace; zzFields over a line of plain words.
-/
import Derived.Test.YtoaedibfgegilaaGreatDoorSln
import Derived.Lib.OthersKept
import Derived.Deep.LoopGhost
namespace Go.Proofs.YtoaedibfgegilaaGreatDoor.st
open Go.RowKit
set_option linter.unusedVariables false
set_option linter.unusedSimpArgs false

/-- A byte of a word. -/
def Wb (b : UInt8) : Prop := 33 ≤ b.toNat ∧ b.toNat ≤ 126
/-- A line of words and blanks. -/
def Plain (l : List UInt8) : Prop := ∀ b ∈ l, b = 32 ∨ Wb b
def stepF (s : List (List UInt8) × List UInt8) (b : UInt8) : List (List UInt8) × List UInt8 :=
  if b = 32 then (if s.2 = [] then (s.1, []) else (s.1 ++ [s.2], [])) else (s.1, s.2 ++ [b])
def stF (l : List UInt8) (k : Nat) : List (List UInt8) × List UInt8 := (l.take k).foldl stepF ([], [])
def fieldsOf (l : List UInt8) : List (List UInt8) := if (l.foldl stepF ([], [])).2 = [] then (l.foldl stepF ([], [])).1 else (l.foldl stepF ([], [])).1 ++ [(l.foldl stepF ([], [])).2]
theorem stF_zero (l : List UInt8) : stF l 0 = ([], []) := rfl
theorem stF_succ {l : List UInt8} {k : Nat} (h : k < l.length) : stF l (k + 1) = stepF (stF l k) l[k] := by
  unfold stF
  rw [List.take_add_one, List.getElem?_eq_getElem h, Option.toList_some, List.foldl_append]
  rfl
theorem stF_all (l : List UInt8) : stF l l.length = l.foldl stepF ([], []) := by unfold stF; rw [List.take_length]
/-- The word at hand is what was read last. -/
theorem stF_word {l : List UInt8} : ∀ k, k ≤ l.length → (stF l k).2.length ≤ k ∧ (stF l k).1.length + (stF l k).2.length ≤ k ∧ (l.drop (k - (stF l k).2.length)).take (stF l k).2.length = (stF l k).2
  | 0, _ => by simp [stF]
  | k + 1, h => by
    obtain ⟨h1, h2, h3⟩ := stF_word (l := l) k (by omega)
    rw [stF_succ (l := l) (k := k) (by omega)]
    unfold stepF
    by_cases hb : l[k] = 32
    · rw [if_pos hb]
      by_cases hc : (stF l k).2 = []
      · rw [if_pos hc]
        simp
        omega
      · rw [if_neg hc]
        have := List.length_pos_iff.2 hc
        simp
        omega
    · rw [if_neg hb]
      simp only [List.length_append, List.length_cons, List.length_nil]
      refine ⟨by omega, by omega, ?_⟩
      rw [show k + 1 - ((stF l k).2.length + (0 + 1)) = k - (stF l k).2.length by omega]
      rw [List.take_add_one, List.getElem?_drop, show k - (stF l k).2.length + (stF l k).2.length = k by omega, List.getElem?_eq_getElem (by omega)]
      simp only [Nat.zero_add, Option.toList_some]
      rw [h3]

theorem ext_str (l : List UInt8) (a b : Nat) : (str l).extract a b = str ((l.drop a).take (b - a)) := by
  have h := ext_list (str l) a b
  rw [str_list] at h
  have : ((str l).extract a b).data = ((l.drop a).take (b - a)).toArray := by
    rw [← h]
  exact ByteArray.ext this
theorem str_get {l : List UInt8} {k : Nat} (h : k < (str l).size) : (str l)[k]'h = l[k]'(by rw [str_size] at h; exact h) := by
  show (l.toArray)[k]'(by simpa [str_size] using h) = _
  simp

def sv (d : List (List UInt8)) : List Value := d.map fun x => .string (str x)
theorem info9f : (Tryz.prog.info? 9).map (fun i => (i.zero, i.size, i.bytes)) = some (some (.string ⟨#[]⟩), 1, 16) := by kernel_rfl
theorem app9 (w0 : World) (base : Nat) (v : Value) (d : List (List UInt8)) (e : List UInt8) (k : Nat) (hk : k = w0.heap.size) (hown : w0.ownsRow base 9 1 v d.length (sv d)) (hn : d.length ≤ 1000000) (hb : base ≤ w0.heap.size) :
    ∃ a C N w', (Builtin.append_ #[57, 57] 57 #[v, .slice (some ⟨k, 0, none⟩) 1 1]).run Tryz.prog (w0.alloc (.cells #[.string (str e)] 9)) = .ok (.slice a N C) w' ∧ w'.ownsRow base 9 1 (.slice a N C) (d ++ [e]).length (sv (d ++ [e])) ∧ Bel base [] w0 w' := by
  subst hk
  obtain ⟨i, hi, hz, hs, hby⟩ := info_parts info9f
  have hown' := hown.alloc (.cells #[.string (str e)] 9)
  obtain ⟨v', w', h1, h2, h3, _⟩ := run_append_own (P := Tryz.prog) (w := w0.alloc (.cells #[.string (str e)] 9)) base 57 57 9 i _ 1 16 Tryz.underlying57 hi hz hs hby rfl (by decide) v _ _ hown' ⟨w0.heap.size, 0, none⟩ 1 1 [.string (str e)] (by simp)
    (fun j u hj => by
      rw [addr_add, Nat.zero_add, cellsOf (heap_alloc_new w0 _)]
      simpa using hj) (fun u hu => by
      simp at hu
      rw [hu]
      rfl) (by unfold maxLen; omega) (by omega) (by simp; omega)
  obtain ⟨a, C, rfl⟩ := own_slice h2
  refine ⟨a, C, _, w', h1, ?_, ((Bel.refl base [] w0).alloc hb _).trans (grown_bel h3 (by simp; omega) fun g hg => (own_block hown' g hg).1)⟩
  have e1 : (d ++ [e]).length = d.length + 1 := by simp
  rw [e1]
  simpa [sv] using h2

set_option maxRecDepth 100000 in
theorem space47_yes (w : World) : Calls Tryz.prog 47 #[.int .i32 32] w fun e w' => e = .returned (.bool true) ∧ w' = w := by
  go_enter Tryz.func47, Tryz.ntmps47
  go_wp2_with fail
  go_ret
  exact ⟨rfl, rfl⟩
set_option maxRecDepth 100000 in
theorem space47_no (c : Int) (h1 : 33 ≤ c) (h2 : c ≤ 126) (w : World) : Calls Tryz.prog 47 #[.int .i32 c] w fun e w' => e = .returned (.bool false) ∧ w' = w := by
  have e1 : (c == 9) = false := by simp; omega
  have e2 : (c == 10) = false := by simp; omega
  have e3 : (c == 11) = false := by simp; omega
  have e4 : (c == 12) = false := by simp; omega
  have e5 : (c == 13) = false := by simp; omega
  have e6 : (c == 32) = false := by simp; omega
  have e7 : (c == 133) = false := by simp; omega
  have e8 : (c == 160) = false := by simp; omega
  have e9 : (c == 5760) = false := by simp; omega
  have e10 : (c == 8232) = false := by simp; omega
  have e11 : (c == 8233) = false := by simp; omega
  have e12 : (c == 8239) = false := by simp; omega
  have e13 : (c == 8287) = false := by simp; omega
  have e14 : (c == 12288) = false := by simp; omega
  have e15 : ¬ (8192 : Int) ≤ c := by omega
  have e16 : decide ((8192 : Int) ≤ c) = false := by simp; omega
  clear h1 h2
  go_enter Tryz.func47, Tryz.ntmps47
  go_wp2_with fail
  go_ret
  exact ⟨rfl, rfl⟩

theorem run_cut (S : ByteArray) (q k : Nat) (h1 : q ≤ k) (h2 : k ≤ S.size) (W : World) : (Instr.slice 9 (.string S) (some (.int .i64 (q : Int))) (some (.int .i64 (k : Int))) none).run Tryz.prog W = .ok (.string (S.extract q k)) W := by
  have h := run_slice_string_if (P := Tryz.prog) (w := W) 9 S .i64 .i64 (q : Int) (k : Int) Tryz.underlying9
  rw [if_pos (by omega), if_pos (by omega), Int.toNat_natCast, Int.toNat_natCast] at h
  exact h
theorem run_cut_end (S : ByteArray) (q : Nat) (h1 : q ≤ S.size) (W : World) : (Instr.slice 9 (.string S) (some (.int .i64 (q : Int))) none none).run Tryz.prog W = .ok (.string (S.extract q S.size)) W := by
  have h := run_slice_string_l (P := Tryz.prog) (w := W) (t := 9) (s := S) Tryz.underlying9 .i64 (q : Int) (by omega) (by omega)
  rw [Int.toNat_natCast] at h
  exact h
def startOf (k : Nat) (c : List UInt8) : Int := if c = [] then -1 else ((k - c.length : Nat) : Int)
structure FSt (w wr : World) (l : List UInt8) (k : Nat) (v : Value) : Prop where
  it : wr.heap[w.heap.size]? = some (.stringIter (str l) k)
  own : wr.ownsRow (w.heap.size + 1) 9 1 v (stF l k).1.length (sv (stF l k).1)
  bel : Below w.heap.size w wr
  size : w.heap.size + 1 ≤ wr.heap.size
def FieldsE (w : World) (l : List UInt8) (e : Ending) (w' : World) : Prop := ∃ v, e = .returned v ∧ w'.ownsRow (w.heap.size + 1) 9 1 v (fieldsOf l).length (sv (fieldsOf l)) ∧ Below w.heap.size w w'

set_option maxHeartbeats 8000000 in
set_option maxRecDepth 100000 in
theorem fields32 (l : List UInt8) (w : World) (hl : l.length ≤ 1000) (hp : Plain l) : Calls Tryz.prog 32 #[.string (str l)] w fun e w' => FieldsE w l e w' := by
  have hsz := str_size l
  have HP := Lib.hid hp
  have HL := Lib.hid hl
  have HZ := Lib.hid hsz
  obtain ⟨S, hS⟩ : ∃ S, str l = S := ⟨_, rfl⟩
  have HS := Lib.hid hS
  rw [hS] at hsz ⊢
  clear hp hl hS
  obtain ⟨W, hW⟩ : ∃ W, w.iter S 0 = W := ⟨_, rfl⟩
  have hst : FSt w W l 0 (.slice none 0 0) := by
    rw [← hW]
    refine ⟨?_, ⟨rfl, .inl ⟨rfl, rfl⟩⟩, (Below.refl _ _).alloc (Nat.le_refl _) _, by simp [World.iter]⟩
    rw [HS.out]
    exact World.iter_heap w S 0
  have HST := Lib.hid hst
  clear hst hsz
  go_enter Tryz.func32, Tryz.ntmps32
  go_wp2_with fail
  try rw [hW]
  clear hW
  go_loopg [3, 4] l.length (fun gk v s wr => ∃ k : Nat, gk = l.length - k ∧ Hid (k ≤ l.length ∧ s = .int .i64 (startOf k (stF l k).2) ∧ FSt w wr l k v))
  case atStart => exact ⟨0, rfl, Lib.hid ⟨by omega, rfl, HST.out⟩⟩
  case round =>
    obtain ⟨k, rfl, HK⟩ := hrel
    obtain ⟨hk, hs4, hF⟩ := HK.out
    obtain ⟨va, vC, rfl⟩ := own_slice hF.own
    subst hs4
    have hit := hF.it
    rw [HS.out] at hit
    have hsz : S.size = l.length := by rw [← HS.out]; exact HZ.out
    have hwd := stF_word k hk
    obtain ⟨cw, hcw⟩ : ∃ cw, (stF l k).2 = cw := ⟨_, rfl⟩
    obtain ⟨dn, hdn⟩ : ∃ dn, (stF l k).1.length = dn := ⟨_, rfl⟩
    have HW1 := Lib.hid hwd
    have HF := Lib.hid hF
    have HC := Lib.hid (And.intro hcw hdn)
    rw [hcw, hdn]
    have hkl := HL.out
    clear hF hwd HK hcw hdn
    rcases Nat.lt_or_ge k l.length with hlt | hge
    · have hks : k < S.size := by omega
      have hb : (S[k]'hks) = l[k] := by
        have h := str_get (l := l) (k := k) (by rw [str_size]; exact hlt)
        rw [← h]
        congr 1
        exact HS.out.symm
      have hmem := HP.out l[k] (List.getElem_mem hlt)
      have hlo : (S[k]'hks).toNat < 128 := by
        rw [hb]
        rcases hmem with h | h
        · rw [h]
          decide
        · unfold Wb at h
          omega
      have hnx : ∀ ty, (Instr.next (.pointer (some ⟨w.heap.size, 0, none⟩)) true ty).run Tryz.prog wr = _ := fun ty => Lib.run_next_ascii_at wr w.heap.size S k ty hit hks hlo
      have hit2 := Lib.iterAt_heap wr w.heap.size S k (k + 1) hit
      obtain ⟨W1, hW1⟩ : ∃ W1, wr.iterAt w.heap.size S (k + 1) = W1 := ⟨_, rfl⟩
      rw [hW1] at hnx hit2
      have k1 : Kept [w.heap.size] wr W1 := by
        rw [← hW1]
        exact ⟨rfl, rfl, rfl, by simp [World.iterAt], fun q hq hn => by simp [World.iterAt]; rw [Array.getElem?_setIfInBounds_ne (fun e => hn (by simp [e]))]⟩
      have hss := stF_succ hlt
      have HX := Lib.hid (And.intro k1 (And.intro hit2 hss))
      have hW1s : w.heap.size + 1 ≤ W1.heap.size := by have := k1.size; have := HF.out.size; omega
      clear hW1 k1 hit2 hss
      rw [hb] at hnx
      by_cases h32 : l[k] = 32
      · rw [h32] at hnx
        have H47 := Lib.hid fun V => space47_yes V
        by_cases hcz : cw = []
        · have hs0 : startOf k cw = -1 := by unfold startOf; rw [if_pos hcz]
          rw [hs0]
          have HFIN : Hid (FSt w W1 l (k + 1) (.slice va dn vC) ∧ startOf (k + 1) (stF l (k + 1)).2 = -1) := Lib.hid (by
            obtain ⟨k1, hit2, hss⟩ := HX.out
            obtain ⟨hcw, hdn⟩ := HC.out
            have he : stF l (k + 1) = ((stF l k).1, []) := by
              rw [hss]
              unfold stepF
              rw [if_pos h32, if_pos (by rw [hcw]; exact hcz)]
            refine ⟨⟨by rw [HS.out]; exact hit2, ?_, HF.out.bel.trans (k1.below (Nat.le_trans (Nat.le_succ _) HF.out.size) (by simp)), hW1s⟩, by rw [he]; rfl⟩
            rw [he]
            have h := own_kept HF.out.own k1 (fun g hg => by have := (own_block HF.out.own g hg).1; simp; omega)
            rw [hdn] at h ⊢
            exact h)
          clear HX hs0 hcz h32 hb hmem hlo
          go_wp2_with (first | (go_at_call 47; refine (H47.out _).mono ?_; rintro e V ⟨rfl, hv⟩; obtain rfl := hv.symm))
          go_roundg (l.length - (k + 1))
          case measure => omega
          case rel => exact ⟨k + 1, rfl, Lib.hid ⟨by omega, by rw [HFIN.out.2], HFIN.out.1⟩⟩
        · obtain ⟨q, hq⟩ : ∃ q, k - cw.length = q := ⟨_, rfl⟩
          have hs0 : startOf k cw = (q : Int) := by unfold startOf; rw [if_neg hcz, hq]
          rw [hs0]
          have hcut := run_cut S q k (by omega) (by omega)
          have hex : S.extract q k = str cw := by
            obtain ⟨h1, h2, h3⟩ := HW1.out
            rw [HC.out.1, hq] at h3
            have h5 : k - q = cw.length := by rw [HC.out.1] at h1; omega
            rw [← HS.out, ext_str, h5]
            exact congrArg str h3
          rw [hex] at hcut
          have HOW : Hid (W1.ownsRow (w.heap.size + 1) 9 1 (.slice va dn vC) (stF l k).1.length (sv (stF l k).1)) := Lib.hid (by
            have h := own_kept HF.out.own HX.out.1 (fun g hg => by have := (own_block HF.out.own g hg).1; simp; omega)
            rw [HC.out.2] at h ⊢
            exact h)
          have hd3 : (stF l k).1.length ≤ 1000000 := by have := HW1.out.2.1; omega
          have HD3 := Lib.hid hd3
          have hq0 : (0 : Int) ≤ (q : Int) := by omega
          have HB1 : Hid (Below w.heap.size w W1) := Lib.hid (HF.out.bel.trans (HX.out.1.below (Nat.le_trans (Nat.le_succ _) HF.out.size) (by simp)))
          clear hs0 hb hmem hlo hex hd3
          go_wp2_with (first | (go_at_call 47; refine (H47.out _).mono ?_; rintro e V ⟨rfl, hv⟩; obtain rfl := hv.symm) | (at_builtin; refine (app9 W1 (w.heap.size + 1) (.slice va dn vC) (stF l k).1 cw _ (by simp) HOW.out HD3.out hW1s).elim fun a h1 => h1.elim fun C h2 => h2.elim fun N h3 => h3.elim fun D h => Lib.wpList_append_run _ rfl _ _ 57 57 rfl _ _ rfl rfl _ _ h.1 ?_; refine Hid.out ?_))
          refine Lib.hid ?_
          have HFIN : Hid (FSt w D l (k + 1) (.slice a N C) ∧ startOf (k + 1) (stF l (k + 1)).2 = -1) := Lib.hid (by
            obtain ⟨k1, hit2, hss⟩ := HX.out
            obtain ⟨hcw, hdn⟩ := HC.out
            have he : stF l (k + 1) = ((stF l k).1 ++ [cw], []) := by
              rw [hss]
              unfold stepF
              rw [if_pos h32, if_neg (by rw [hcw]; exact hcz), hcw]
            refine ⟨⟨by rw [HS.out]; exact (h.2.2.block _ (by omega) (by simp)).trans hit2, ?_, HB1.out.trans (h.2.2.below' (by omega)), Nat.le_trans hW1s h.2.2.size⟩, by rw [he]; rfl⟩
            rw [he]
            exact h.2.1)
          clear h h1 h2 h3 hcut hnx h32
          go_wp2_with fail
          go_roundg (l.length - (k + 1))
          case measure => omega
          case rel => exact ⟨k + 1, rfl, Lib.hid ⟨by omega, by rw [HFIN.out.2], HFIN.out.1⟩⟩
      · have hwb : Wb l[k] := hmem.resolve_left h32
        have hr : (33 : Int) ≤ (l[k].toNat : Int) ∧ (l[k].toNat : Int) ≤ 126 := by unfold Wb at hwb; omega
        obtain ⟨c, hc⟩ : ∃ c : Int, (l[k].toNat : Int) = c := ⟨_, rfl⟩
        rw [hc] at hnx hr
        have H47 := Lib.hid fun V => space47_no c hr.1 hr.2 V
        have HFIN : Hid (FSt w W1 l (k + 1) (.slice va dn vC) ∧ (stF l (k + 1)).2 = cw ++ [l[k]]) := Lib.hid (by
          obtain ⟨k1, hit2, hss⟩ := HX.out
          obtain ⟨hcw, hdn⟩ := HC.out
          have he : stF l (k + 1) = ((stF l k).1, cw ++ [l[k]]) := by
            rw [hss]
            unfold stepF
            rw [if_neg h32, hcw]
          refine ⟨⟨by rw [HS.out]; exact hit2, ?_, HF.out.bel.trans (k1.below (Nat.le_trans (Nat.le_succ _) HF.out.size) (by simp)), hW1s⟩, by rw [he]⟩
          rw [he]
          have h := own_kept HF.out.own k1 (fun g hg => by have := (own_block HF.out.own g hg).1; simp; omega)
          rw [hdn] at h ⊢
          exact h)
        have hcl := HW1.out.1
        rw [HC.out.1] at hcl
        by_cases hcz : cw = []
        · have hs0 : startOf k cw = -1 := by unfold startOf; rw [if_pos hcz]
          rw [hs0]
          have HS2 : Hid (startOf (k + 1) (cw ++ [l[k]]) = (k : Int)) := Lib.hid (by
            unfold startOf
            rw [if_neg (by simp)]
            simp [hcz])
          clear hs0 hb hmem hlo h32 hwb hr hc hcz HX
          go_wp2_with (first | (go_at_call 47; refine (H47.out _).mono ?_; rintro e V ⟨rfl, hv⟩; obtain rfl := hv.symm))
          go_roundg (l.length - (k + 1))
          case measure => omega
          case rel => exact ⟨k + 1, rfl, Lib.hid ⟨by omega, by rw [HFIN.out.2, HS2.out], HFIN.out.1⟩⟩
        · obtain ⟨q, hq⟩ : ∃ q, k - cw.length = q := ⟨_, rfl⟩
          have hs0 : startOf k cw = (q : Int) := by unfold startOf; rw [if_neg hcz, hq]
          rw [hs0]
          have HS2 : Hid (startOf (k + 1) (cw ++ [l[k]]) = (q : Int)) := Lib.hid (by
            unfold startOf
            rw [if_neg (by simp)]
            simp
            omega)
          have hq0 : ¬ (q : Int) < 0 := by omega
          clear hs0 hb hmem hlo h32 hwb hr hc hcz HX hq
          go_wp2_with (first | (go_at_call 47; refine (H47.out _).mono ?_; rintro e V ⟨rfl, hv⟩; obtain rfl := hv.symm))
          go_roundg (l.length - (k + 1))
          case measure => omega
          case rel => exact ⟨k + 1, rfl, Lib.hid ⟨by omega, by rw [HFIN.out.2, HS2.out], HFIN.out.1⟩⟩
    · obtain rfl : k = l.length := by omega
      have hnx : ∀ ty, (Instr.next (.pointer (some ⟨w.heap.size, 0, none⟩)) true ty).run Tryz.prog wr = _ := fun ty => Lib.run_next_end_at wr w.heap.size S l.length ty hit (by omega)
      have hall := stF_all l
      by_cases hcz : cw = []
      · have hs0 : startOf l.length cw = -1 := by unfold startOf; rw [if_pos hcz]
        rw [hs0]
        have HFIN : Hid (wr.ownsRow (w.heap.size + 1) 9 1 (.slice va dn vC) (fieldsOf l).length (sv (fieldsOf l)) ∧ Below w.heap.size w wr) := Lib.hid (by
          have he : fieldsOf l = (stF l l.length).1 := by
            unfold fieldsOf
            rw [← hall, if_pos (by rw [HC.out.1]; exact hcz)]
          rw [he]
          have h := HF.out.own
          rw [HC.out.2] at h ⊢
          exact ⟨h, HF.out.bel⟩)
        clear hs0 hcz hall
        go_wp2_with fail
        go_ret
        exact ⟨_, rfl, HFIN.out.1, HFIN.out.2⟩
      · obtain ⟨q, hq⟩ : ∃ q, l.length - cw.length = q := ⟨_, rfl⟩
        have hs0 : startOf l.length cw = (q : Int) := by unfold startOf; rw [if_neg hcz, hq]
        rw [hs0]
        have hcut := run_cut_end S q (by omega)
        have hex : S.extract q S.size = str cw := by
          obtain ⟨h1, h2, h3⟩ := HW1.out
          rw [HC.out.1, hq] at h3
          have h5 : S.size - q = cw.length := by rw [HC.out.1] at h1; omega
          rw [← HS.out, ext_str, HS.out, h5]
          exact congrArg str h3
        rw [hex] at hcut
        have HOW : Hid (wr.ownsRow (w.heap.size + 1) 9 1 (.slice va dn vC) (stF l l.length).1.length (sv (stF l l.length).1)) := Lib.hid (by
          have h := HF.out.own
          rw [HC.out.2] at h ⊢
          exact h)
        have HD3 : Hid ((stF l l.length).1.length ≤ 1000000) := Lib.hid (by have := HW1.out.2.1; omega)
        have hq0 : (0 : Int) ≤ (q : Int) := by omega
        have hwr := HF.out.size
        have HE : Hid (fieldsOf l = (stF l l.length).1 ++ [cw]) := Lib.hid (by
          unfold fieldsOf
          rw [← hall, if_neg (by rw [HC.out.1]; exact hcz), HC.out.1])
        clear hs0 hex hall hcz
        go_wp2_with (first | (at_builtin; refine (app9 wr (w.heap.size + 1) (.slice va dn vC) (stF l l.length).1 cw _ (by simp) HOW.out HD3.out hwr).elim fun a h1 => h1.elim fun C h2 => h2.elim fun N h3 => h3.elim fun D h => Lib.wpList_append_run _ rfl _ _ 57 57 rfl _ _ rfl rfl _ _ h.1 ?_; refine Hid.out ?_))
        refine Lib.hid ?_
        have HR := Lib.hid h.2
        clear h h1 h2 h3 hcut hnx
        go_wp2_with fail
        go_ret
        exact ⟨_, rfl, by rw [HE.out]; exact HR.out.1, HF.out.bel.trans (HR.out.2.below' (by omega))⟩
end Go.Proofs.YtoaedibfgegilaaGreatDoor.st
