/-
  FnLiteralText: slices of bytes: types.IsUTF16BE, bytes.TrimPrefix, utf8.Valid, types.hasPDFDocEncodingControlByte.
-/
import Derived.Test.YtcohlcijgfdanaaDoorVal
import Derived.Test.YtcohlcijgfdanaaDoorTxo
namespace Go.Proofs.YtcohlcijgfdanaaDoor.lt
open Go.RowKit
open Go.Proofs.YtcohlcijgfdanaaDoor.u16 (mk)

/-- A slice that holds these bytes. -/
def Sl (W : World) (v : Value) (t : ByteArray) : Prop :=
  (v = .slice none 0 0 ∧ t.size = 0) ∨ ∃ g o c, v = .slice (some ⟨g, o, none⟩) t.size c ∧ t.size ≤ c ∧ c ≤ maxLen ∧ g < W.heap.size ∧ Vw W g o t

theorem Sl.of_row {W : World} {B : Nat} {v : Value} {l : List UInt8} (h : W.ownsRow B 5 1 v l.length (Lib.byteCells l)) : Sl W v (mkS l) := by
  have hz := mkS_size l
  rcases h.2 with ⟨rfl, h0⟩ | ⟨g, cap, cur, rfl, hb, hg, hn, hm, hc, ht⟩
  · exact .inl ⟨rfl, by rw [hz, h0]⟩
  · refine .inr ⟨g, 0, cap, by rw [hz], by omega, hm, (Array.getElem?_eq_some_iff.1 hg).1, fun j hj => ?_⟩
    rw [Nat.zero_add, h.cellAt j (by omega)]
    have hj' : j < l.length := by omega
    have e : l[j] = (mkS l)[j] := by
      have := get_list (mkS l) j hj
      rw [mkS_list, List.getElem?_eq_getElem hj'] at this
      exact Option.some.inj this
    rw [show (Lib.byteCells l)[j]? = some (.int .u8 (l[j].toNat : Int)) by simp [Lib.byteCells, hj'], e]
    rfl

theorem Sl.below {a W : World} {v : Value} {t : ByteArray} (h : Sl a v t) (hb : Below a.heap.size a W) : Sl W v t := by
  rcases h with h | ⟨g, o, c, h1, h2, h3, h4, h5⟩
  · exact .inl h
  · exact .inr ⟨g, o, c, h1, h2, h3, by have := hb.size; omega, h5.below hb h4⟩

theorem conv_at (W : World) (g o c : Nat) (t : ByteArray) (h : Vw W g o t) : (convert 29 9 (.slice (some ⟨g, o, none⟩) t.size c)).run Tryd.prog W = .ok (.string t) W := by
  have hl : t.data.toList.length = t.size := by rw [← Lib.size_eq]
  have := run_convert_bytes_back (P := Tryd.prog) W 29 9 5 ⟨g, o, none⟩ c t.data.toList Tryd.underlying29 Tryd.underlying5 Tryd.underlying9 (fun j hj => by
    have hj' : j < t.size := by omega
    have e := get_list t j hj'
    rw [List.getElem?_eq_getElem hj] at e
    rw [Option.some.inj e]
    have h' := h j hj'
    by_cases hj0 : j = 0
    · subst hj0
      simpa [Addr.add] using h'
    · simp only [Addr.add, hj0, if_false]
      exact h')
  rw [hl] at this
  exact this

theorem conv_sl (W : World) (v : Value) (t : ByteArray) (h : Sl W v t) : (convert 29 9 v).run Tryd.prog W = .ok (.string t) W := by
  rcases h with ⟨rfl, h0⟩ | ⟨g, o, c, rfl, h2, h3, h4, h5⟩
  · rw [run_convert_bytes_string (P := Tryd.prog) W 29 9 5 none 0 0 Tryd.underlying29 Tryd.underlying5 Tryd.underlying9]
    have : t = ByteArray.empty := by
      apply ByteArray.ext
      apply Array.toList_inj.1
      have : t.data.toList = [] := List.eq_nil_of_length_eq_zero (by rw [← Lib.size_eq]; exact h0)
      rw [this]
      rfl
    rw [this]
    rfl
  · exact conv_at W g o c t h5

/-- Bytes of an even number that begin with the mark. -/
def beq (l : List UInt8) : Bool := decide (l.length % 2 = 0) && mk l

theorem is77 (W : World) (v : Value) (t : ByteArray) (h : Sl W v t) : Calls Tryd.prog 77 #[v] W fun e w' => e = .returned (.bool (beq t.data.toList)) ∧ W = w' := by
  rcases h with ⟨rfl, h0⟩ | ⟨g, o, c, rfl, h2, h3, h4, h5⟩
  · have : t.data.toList = [] := List.eq_nil_of_length_eq_zero (by rw [← Lib.size_eq]; exact h0)
    rw [this, show beq [] = false from rfl]
    clear this h0
    go_enter Tryd.func77, Tryd.ntmps77
    go_wp2
    go_ret
    exact ⟨rfl, rfl⟩
  · obtain ⟨B, hB⟩ : ∃ B, beq t.data.toList = B := ⟨_, rfl⟩
    rw [hB]
    by_cases h0 : t.size = 0
    · have : t.data.toList = [] := List.eq_nil_of_length_eq_zero (by rw [← Lib.size_eq]; exact h0)
      have HB : Hid (B = false) := Lib.hid (by rw [← hB, this]; rfl)
      rw [h0]
      clear hB h5 h0 this h2
      go_enter Tryd.func77, Tryd.ntmps77
      go_wp2
      go_ret
      exact ⟨by rw [HB.out]; rfl, rfl⟩
    · have hz : ((t.size : Int) == 0) = false := by simpa using (show ¬ (t.size : Int) = 0 by omega)
      have hl : t.data.toList.length = t.size := by rw [← Lib.size_eq]
      by_cases hp : t.size % 2 = 0
      · have hpi : (t.size : Int) % 2 = 0 := by omega
        obtain ⟨a, b, r, hr⟩ : ∃ a b r, t.data.toList = a :: b :: r := by
          match ht : t.data.toList with
          | [] => rw [ht] at hl; simp at hl; omega
          | [a] => rw [ht] at hl; simp at hl; omega
          | a :: b :: r => exact ⟨a, b, r, rfl⟩
        have ha : t.get! 0 = a := by rw [← Lib.getD_get!', hr]; rfl
        have hb : t.get! 1 = b := by rw [← Lib.getD_get!', hr]; rfl
        have c0 := h5.get 0 (by omega) a ha
        have c1 := h5.get 1 (by omega) b hb
        rw [Nat.add_zero] at c0
        have HB : Hid (B = (a == 254 && b == 255)) := Lib.hid (by
          rw [← hB]
          unfold beq
          rw [hl, decide_eq_true hp, hr]
          rfl)
        have i0 : (0 : Int) < (t.size : Int) := by omega
        have i1 : (1 : Int) < (t.size : Int) := by omega
        have n0 : 0 < t.size := by omega
        have n1 : 1 < t.size := by omega
        have hcc : ((a.toNat : Int) == 254) = (a == 254) := by
          rw [Bool.eq_iff_iff]
          simp only [beq_iff_eq]
          constructor
          · intro h; exact UInt8.toNat_inj.1 (by show a.toNat = 254; omega)
          · intro h; rw [h]; rfl
        have hdd : ((b.toNat : Int) == 255) = (b == 255) := by
          rw [Bool.eq_iff_iff]
          simp only [beq_iff_eq]
          constructor
          · intro h; exact UInt8.toNat_inj.1 (by show b.toNat = 255; omega)
          · intro h; rw [h]; rfl
        clear hB h5 h0 ha hb hr hl hp
        generalize (a == (254 : UInt8)) = A at *
        generalize (b == (255 : UInt8)) = D at *
        generalize (a.toNat : Int) = x at *
        generalize (b.toNat : Int) = y at *
        cases A
        · go_enter Tryd.func77, Tryd.ntmps77
          go_wp2
          go_ret
          exact ⟨by rw [HB.out]; rfl, rfl⟩
        · cases D
          all_goals
            go_enter Tryd.func77, Tryd.ntmps77
            go_wp2
            go_ret
            exact ⟨by rw [HB.out]; rfl, rfl⟩
      · have hpi : ¬ (t.size : Int) % 2 = 0 := by omega
        have HB : Hid (B = false) := Lib.hid (by
          rw [← hB]
          unfold beq
          rw [hl, decide_eq_false hp]
          rfl)
        clear hB h5 h0 hl hp
        go_enter Tryd.func77, Tryd.ntmps77
        go_wp2
        go_ret
        exact ⟨by rw [HB.out]; rfl, rfl⟩

set_option maxRecDepth 1000000 in
theorem validSl (W : World) (v : Value) (t : ByteArray) (h : Sl W v t) (hs : t.size ≤ 100000) (hT : Lib.Utf8Tabs 0 1 W) : Calls Tryd.prog 79 #[v] W fun e w' => e = .returned (.bool (Lib.validD t.data.toList)) ∧ Below W.heap.size W w' := by
  rcases h with ⟨rfl, h0⟩ | ⟨g, o, c, rfl, h2, h3, h4, h5⟩
  · have : t.data.toList = [] := List.eq_nil_of_length_eq_zero (by rw [← Lib.size_eq]; exact h0)
    rw [this, Lib.validD_nil]
    clear this h0 hT
    go_enter Tryd.func79, Tryd.ntmps79
    go_wp2_with fail
    refine wp_loop_rounds 1 ?_
    rw [rounds_succ]
    go_wp2
    go_ret
    exact ⟨rfl, Below.refl _ _⟩
  · exact valid79 g o c t W h4 h5 hs h2 hT

set_option maxRecDepth 100000 in
theorem has98 (W : World) (v : Value) (t : ByteArray) (h : Sl W v t) (p : Nat) (hp : Vw W p 0 ⟨#[239, 187, 191]⟩) : Calls Tryd.prog 98 #[v, .slice (some ⟨p, 0, none⟩) 3 3] W fun e w' => e = .returned (.bool (bom t.data.toList)) ∧ W = w' := by
  have hcp := conv_at W p 0 3 _ hp
  rw [show (⟨#[239, 187, 191]⟩ : ByteArray).size = 3 from rfl] at hcp
  obtain ⟨B, hB⟩ : ∃ B, bom t.data.toList = B := ⟨_, rfl⟩
  rw [hB]
  by_cases h3 : 3 ≤ t.size
  · rcases h with ⟨rfl, h0⟩ | ⟨g, o, c, rfl, h2, hm, h4, h5⟩
    · omega
    · have hsl : (Instr.slice 29 (.slice (some ⟨g, o, none⟩) t.size c) none (some (.int .i64 3)) none).run Tryd.prog W = .ok (.slice (some ⟨g, o, none⟩) 3 c) W := by
        have : (3 : Int) ≤ (c : Int) := by omega
        have hc0 : ¬ c = 0 := by omega
        simp [go_sem, this, Addr.add]
      obtain ⟨T, hT⟩ : ∃ T, t.extract 0 3 = T := ⟨_, rfl⟩
      have hTs : T.size = 3 := by rw [← hT, ByteArray.size_extract]; omega
      have hV : Vw W g o T := fun j hj => by
        have hj' : j < t.size := by omega
        have e : T[j] = t[j] := by
          have e1 : T.data.toList[j]? = t.data.toList[j]? := by rw [← hT, ext3, List.getElem?_take_of_lt (by omega)]
          rw [get_list T j hj, get_list t j hj'] at e1
          exact Option.some.inj e1
        rw [e]
        exact h5 j hj'
      have hcv := conv_at W g o c T hV
      rw [hTs] at hcv
      have HB : Hid ((T.toList == ([239, 187, 191] : List UInt8)) = B) := Lib.hid (by rw [← hT, bom_eq t h3, hB])
      have h3i : (3 : Int) ≤ (t.size : Int) := by omega
      have C113 : Hid (Calls Tryd.prog 113 #[.slice (some ⟨g, o, none⟩) 3 c, .slice (some ⟨p, 0, none⟩) 3 3] W fun e w' => e = .returned (.bool B) ∧ W = w') := by
        refine Lib.hid ?_
        go_enter Tryd.func113, Tryd.ntmps113
        go_wp2
        go_ret
        exact ⟨by rw [← HB.out]; rfl, rfl⟩
      clear hB hT hV hcv HB h5 hp hTs hcp
      go_enter Tryd.func98, Tryd.ntmps98
      go_wp2_with (go_at_call 113; refine C113.out.mono ?_; rintro e w1 ⟨rfl, rfl⟩)
      go_ret
      exact ⟨rfl, rfl⟩
  · have h3i : ¬ (3 : Int) ≤ (t.size : Int) := by omega
    have HB : Hid (B = false) := Lib.hid (by
      rw [← hB]
      cases hb : bom t.data.toList
      · rfl
      · obtain ⟨r, hr⟩ := bom_split _ hb
        rw [Lib.size_eq, hr] at h3
        simp at h3)
    have hv : ∃ a c, v = .slice a t.size c := by
      rcases h with ⟨rfl, h0⟩ | ⟨g, o, c, rfl, h2, hm, h4, h5⟩
      · exact ⟨_, _, by rw [h0]⟩
      · exact ⟨_, _, rfl⟩
    obtain ⟨a, c, rfl⟩ := hv
    clear hB h hp hcp h3
    go_enter Tryd.func98, Tryd.ntmps98
    go_wp2
    go_ret
    exact ⟨by rw [HB.out]; rfl, rfl⟩

/-- What TrimPrefix gives. -/
def TrimR (W : World) (v : Value) (t : ByteArray) (e : Ending) : Prop := ∃ v', e = .returned v' ∧ (bom t.data.toList = true → Sl W v' (t.extract 3 t.size)) ∧ (bom t.data.toList = false → v' = v)

set_option maxRecDepth 100000 in
theorem trim78 (W : World) (v : Value) (t : ByteArray) (h : Sl W v t) (p : Nat) (hp : Vw W p 0 ⟨#[239, 187, 191]⟩) : Calls Tryd.prog 78 #[v, .slice (some ⟨p, 0, none⟩) 3 3] W fun e w' => TrimR W v t e ∧ W = w' := by
  have HC := Lib.hid (has98 W v t h p hp)
  cases hb : bom t.data.toList
  · rw [hb] at HC
    have HR : Hid (TrimR W v t (.returned v)) := Lib.hid ⟨v, rfl, fun h => (by rw [hb] at h; cases h), fun _ => rfl⟩
    clear hb h hp
    go_enter Tryd.func78, Tryd.ntmps78
    go_wp2_with (go_at_call 98; refine HC.out.mono ?_; rintro e w1 ⟨rfl, rfl⟩)
    go_ret
    exact ⟨HR.out, rfl⟩
  · obtain ⟨r, hr⟩ := bom_split _ hb
    have h3 : 3 ≤ t.size := by rw [Lib.size_eq, hr]; simp
    rcases h with ⟨rfl, h0⟩ | ⟨g, o, c, rfl, h2, hm, h4, h5⟩
    · omega
    · rw [hb] at HC
      have hz := Lib.ext_size t 3
      obtain ⟨o', hsl, hV⟩ : ∃ o', (Instr.slice 29 (.slice (some ⟨g, o, none⟩) t.size c) (some (.int .i64 3)) none none).run Tryd.prog W = .ok (.slice (some ⟨g, o', none⟩) (t.size - 3) (c - 3)) W ∧ Vw W g o' (t.extract 3 t.size) := by
        have h0 : (3 : Int) ≤ (t.size : Int) := by omega
        by_cases hc : c = 3
        · refine ⟨o, ?_, fun j hj => by omega⟩
          have ht : t.size = 3 := by omega
          rw [ht]
          subst hc
          simp [go_sem]
        · refine ⟨o + 3, ?_, fun j hj => ?_⟩
          · simp [go_sem, h0, hc]
          · rw [ext_get t 3 j hj (by omega), Nat.add_assoc]
            exact h5 (3 + j) (by omega)
      have HR : Hid (TrimR W (.slice (some ⟨g, o, none⟩) t.size c) t (.returned (.slice (some ⟨g, o', none⟩) (t.size - 3) (c - 3)))) := Lib.hid ⟨_, rfl, fun _ => .inr ⟨g, o', c - 3, by rw [hz], by omega, by omega, h4, hV⟩, fun h => (by rw [hb] at h; cases h)⟩
      clear hb h5 hp hr hV hz
      go_enter Tryd.func78, Tryd.ntmps78
      go_wp2_with (go_at_call 98; refine HC.out.mono ?_; rintro e w1 ⟨rfl, rfl⟩)
      go_ret
      exact ⟨HR.out, rfl⟩

/-- A byte from 24 to 31 is there. -/
def ctl (l : List UInt8) : Bool := l.any fun b => decide (24 ≤ b.toNat ∧ b.toNat ≤ 31)

set_option maxRecDepth 100000 in
theorem ctl80 (W : World) (v : Value) (t : ByteArray) (h : Sl W v t) (hs : t.size ≤ 100000) : Calls Tryd.prog 80 #[v] W fun e w' => e = .returned (.bool (ctl t.data.toList)) ∧ W = w' := by
  obtain ⟨B, hB⟩ : ∃ B, ctl t.data.toList = B := ⟨_, rfl⟩
  rw [hB]
  have HB := Lib.hid hB
  have hv : ∃ a c, v = .slice a t.size c ∧ (0 < t.size → ∃ g o, a = some ⟨g, o, none⟩ ∧ Vw W g o t) := by
    rcases h with ⟨rfl, h0⟩ | ⟨g, o, c, rfl, h2, hm, h4, h5⟩
    · exact ⟨_, _, by rw [h0], fun h => by omega⟩
    · exact ⟨_, _, rfl, fun _ => ⟨g, o, rfl, h5⟩⟩
  obtain ⟨a, c, rfl, hv⟩ := hv
  have HV := Lib.hid hv
  clear hB h hv
  go_enter Tryd.func80, Tryd.ntmps80
  go_wp2_with fail
  go_loopw [7] (fun i wr => ∃ k : Nat, i = .int .i64 (k : Int) ∧ Hid (k ≤ t.size) ∧ Hid (∀ b ∈ t.data.toList.take k, ¬ (24 ≤ b.toNat ∧ b.toNat ≤ 31)) ∧ Hid (W = wr)) (fun i _ => t.size - (intOf i).toNat)
  case atStart => exact ⟨0, rfl, Lib.hid (by omega), Lib.hid (by simp), Lib.hid rfl⟩
  case round =>
    obtain ⟨k, rfl, HK, HA, HW⟩ := hrel
    by_cases hk : k < t.size
    · have hki : (k : Int) < (t.size : Int) := by omega
      obtain ⟨g, o, rfl, hvw⟩ := HV.out (by omega)
      obtain ⟨b, hb⟩ : ∃ b, t[k] = b := ⟨_, rfl⟩
      have hcell := hvw k hk
      rw [hb, HW.out] at hcell
      have HT : Hid (t.data.toList.take (k + 1) = t.data.toList.take k ++ [b]) := Lib.hid (by rw [← hb]; exact take_succ t k hk)
      have HM : Hid (b ∈ t.data.toList) := Lib.hid (by rw [← hb]; exact List.mem_of_getElem? (get_list t k hk))
      have hk2 : Hid (k + 1 ≤ t.size) := Lib.hid hk
      have hrange : (0 : Int) ≤ (b.toNat : Int) ∧ (b.toNat : Int) ≤ 255 := by have := b.toNat_lt; omega
      have hA2 : ¬ (24 ≤ b.toNat ∧ b.toNat ≤ 31) → Hid (∀ b ∈ t.data.toList.take (k + 1), ¬ (24 ≤ b.toNat ∧ b.toNat ≤ 31)) := fun hd => Lib.hid (by
        rw [HT.out]
        intro c hc
        rcases List.mem_append.1 hc with hc | hc
        · exact HA.out c hc
        · rw [List.mem_singleton.1 hc]; exact hd)
      have hF : (24 ≤ b.toNat ∧ b.toNat ≤ 31) → Hid (B = true) := fun hd => Lib.hid (by
        rw [← HB.out]
        exact List.any_eq_true.2 ⟨b, HM.out, by simpa using hd⟩)
      have hcases : ((24 : Int) ≤ (b.toNat : Int) ∧ (b.toNat : Int) ≤ 31 ∧ (24 ≤ b.toNat ∧ b.toNat ≤ 31)) ∨ (¬ (24 : Int) ≤ (b.toNat : Int) ∧ ¬ (24 ≤ b.toNat ∧ b.toNat ≤ 31)) ∨ ((24 : Int) ≤ (b.toNat : Int) ∧ ¬ (b.toNat : Int) ≤ 31 ∧ ¬ (24 ≤ b.toNat ∧ b.toNat ≤ 31)) := by omega
      clear HT hb hvw HM
      generalize (b.toNat : Int) = d at *
      rcases hcases with ⟨h1, h2, h3⟩ | ⟨h1, h3⟩ | ⟨h1, h2, h3⟩
      · have HF := hF h3
        clear hA2 h3 hF
        go_wp2_with fail
        go_ret
        exact ⟨by rw [HF.out]; rfl, HW.out⟩
      all_goals
        have HA2 := hA2 h3
        clear hA2 h3 hF
        go_wp2_with fail
        go_roundw
        case rel => first | exact ⟨k + 1, rfl, hk2, HA2, HW⟩ | ((repeat apply Exists.intro); refine ⟨?_, rfl⟩; exact ⟨k + 1, rfl, hk2, HA2, HW⟩)
        case measure => simp [intOf]; omega
    · have hki : ¬ (k : Int) < (t.size : Int) := by omega
      have hke : k = t.size := by have := HK.out; omega
      have HF : Hid (B = false) := Lib.hid (by
        rw [← HB.out]
        refine List.any_eq_false.2 fun b hb => ?_
        have := HA.out
        rw [hke, take_all] at this
        simpa using this b hb)
      clear hke hk
      go_wp2_with fail
      go_ret
      exact ⟨by rw [HF.out]; rfl, HW.out⟩
end Go.Proofs.YtcohlcijgfdanaaDoor.lt
