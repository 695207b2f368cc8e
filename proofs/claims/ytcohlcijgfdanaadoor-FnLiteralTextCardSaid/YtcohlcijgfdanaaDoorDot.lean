/-
  FnLiteralText: spec.DocText, ascii, clean; laws.byteIn.
-/
import Derived.Test.YtcohlcijgfdanaaDoorDoc
namespace Go.Proofs.YtcohlcijgfdanaaDoor.lt
open Go.RowKit
open Go.Proofs.YtcohlcijgfdanaaDoor.wd (encode_mkS mkS_app encodeRune_len)

theorem get_list (s : ByteArray) (k : Nat) (h : k < s.size) : s.data.toList[k]? = some s[k] := by
  rw [List.getElem?_eq_getElem (by rw [← Lib.size_eq]; exact h)]
  simp
  rfl
theorem take_succ (s : ByteArray) (k : Nat) (h : k < s.size) : s.data.toList.take (k + 1) = s.data.toList.take k ++ [s[k]] := by
  rw [List.take_add_one, get_list s k h]
  rfl
theorem take_all (s : ByteArray) : s.data.toList.take s.size = s.data.toList := List.take_of_length_le (by rw [← Lib.size_eq]; exact Nat.le_refl _)

/-- The text that bytes are in PDFDocEncoding. -/
def docT (l : List UInt8) : List UInt8 := l.flatMap fun b => Lib.encodeRune (dsg b.toNat)
theorem docT_snoc (l : List UInt8) (b : UInt8) : docT (l ++ [b]) = docT l ++ Lib.encodeRune (dsg b.toNat) := by simp [docT]
theorem docT_len (l : List UInt8) : (docT l).length ≤ 4 * l.length := by
  induction l with
  | nil => simp [docT]
  | cons b r ih =>
    have := (encodeRune_len (dsg b.toNat)).2
    show (Lib.encodeRune _ ++ docT r).length ≤ _
    rw [List.length_append, List.length_cons]
    omega

/-- What DocText gives. -/
def DocR (s : ByteArray) (e : Ending) : Prop := ∃ (x : ByteArray) (ok : Bool), e = .returned (.tuple #[.string x, .bool ok]) ∧ (ok = true → x = mkS (docT s.data.toList) ∧ ∀ b ∈ s.data.toList, 0 ≤ dsg b.toNat)

set_option maxRecDepth 100000 in
set_option maxHeartbeats 2000000 in
theorem docText49 (s : ByteArray) (hs : s.size ≤ 10000) (w : World) :
    Calls Tryd.prog 49 #[.string s] w fun e w' => DocR s e ∧ Below w.heap.size w w' := by
  go_enter Tryd.func49, Tryd.ntmps49
  go_wp2_with fail
  go_loopw [4, 9] (fun o i wr => ∃ (A : ByteArray) (k : Nat), o = .string A ∧ i = .int .i64 (k : Int) ∧ Hid (k ≤ s.size) ∧ Hid (A = mkS (docT (s.data.toList.take k))) ∧ Hid (∀ b ∈ s.data.toList.take k, 0 ≤ dsg b.toNat) ∧ Hid (Below w.heap.size w wr)) (fun _ i _ => s.size - (intOf i).toNat)
  case atStart => exact ⟨_, 0, rfl, rfl, Lib.hid (by omega), Lib.hid rfl, Lib.hid (by simp), Lib.hid (Below.refl _ _)⟩
  case round =>
    obtain ⟨A, k, rfl, rfl, HK, HA, HD, HB⟩ := hrel
    by_cases hk : k < s.size
    · have hki : (k : Int) < (s.size : Int) := by omega
      have hA4 : A.size ≤ 40000 := by
        rw [HA.out, mkS_size]
        have h1 := docT_len (s.data.toList.take k)
        have h2 : (s.data.toList.take k).length ≤ k := by rw [List.length_take]; omega
        omega
      obtain ⟨b, hb⟩ : ∃ b, s[k] = b := ⟨_, rfl⟩
      have HT : Hid (s.data.toList.take (k + 1) = s.data.toList.take k ++ [b]) := Lib.hid (by rw [← hb]; exact take_succ s k hk)
      have HC := Lib.hid fun W => sign75 b.toNat b.toNat_lt W
      have hEs : (Utf8.encode (dsg b.toNat)).size ≤ 4 ∨ dsg b.toNat < 0 := by
        by_cases h : dsg b.toNat < 0
        · exact .inr h
        · obtain ⟨r, hr⟩ : ∃ r : Nat, dsg b.toNat = (r : Int) := ⟨(dsg b.toNat).toNat, by omega⟩
          exact .inl (by rw [hr, encode_mkS, mkS_size]; exact (encodeRune_len _).2)
      have HA2 : ¬ dsg b.toNat < 0 → Hid (A ++ Utf8.encode (dsg b.toNat) = mkS (docT (s.data.toList.take (k + 1)))) := fun h => Lib.hid (by
        obtain ⟨r, hr⟩ : ∃ r : Nat, dsg b.toNat = (r : Int) := ⟨(dsg b.toNat).toNat, by omega⟩
        rw [HT.out, docT_snoc, HA.out, ← mkS_app, hr, encode_mkS])
      have HD2 : ¬ dsg b.toNat < 0 → Hid (∀ c ∈ s.data.toList.take (k + 1), 0 ≤ dsg c.toNat) := fun h => Lib.hid (by
        rw [HT.out]
        intro c hc
        rcases List.mem_append.1 hc with hc | hc
        · exact HD.out c hc
        · rw [List.mem_singleton.1 hc]; omega)
      have hk2 : Hid (k + 1 ≤ s.size) := Lib.hid hk
      have hdl : dsg b.toNat ≤ 1114111 := by
        have h256 : b.toNat < 256 := b.toNat_lt
        have : ∀ x : Fin 256, dsg x.val ≤ 1114111 := by decide
        exact this ⟨_, h256⟩
      clear HT
      generalize dsg b.toNat = d at *
      generalize hE : Utf8.encode d = E at *
      by_cases hd : d < 0
      · clear HA2 HD2 hEs
        go_wp2_with (go_at_call 75; refine (HC.out _).mono ?_; rintro e w1 ⟨rfl, hbw⟩; replace hbw := Lib.hid hbw)
        exact bodyPost_ret (v := .tuple #[.string ⟨#[]⟩, .bool false]) (by simp [results, Tryd.results49, go_sem]) rfl ⟨⟨_, _, rfl, fun h => by cases h⟩, HB.out.trans (hbw.out.mono HB.out.size)⟩
      · have HA3 := HA2 hd
        have HD3 := HD2 hd
        have hE4 : E.size ≤ 4 := by omega
        clear HA2 HD2 hEs
        go_wp2_with (go_at_call 75; refine (HC.out _).mono ?_; rintro e w1 ⟨rfl, hbw⟩; replace hbw := Lib.hid hbw)
        go_roundw
        case rel =>
          have HB2 : Hid (Below w.heap.size w w1) := Lib.hid (HB.out.trans (hbw.out.mono HB.out.size))
          first | exact ⟨_, k + 1, rfl, rfl, hk2, HA3, HD3, HB2⟩ | ((repeat apply Exists.intro); refine ⟨?_, rfl⟩; exact ⟨_, k + 1, rfl, rfl, hk2, HA3, HD3, HB2⟩)
        case measure => simp [intOf]; omega
    · have hki : ¬ (k : Int) < (s.size : Int) := by omega
      have hke : k = s.size := by have := HK.out; omega
      have HA1 : Hid (A = mkS (docT s.data.toList)) := Lib.hid (by rw [HA.out, hke, take_all])
      have HD1 : Hid (∀ b ∈ s.data.toList, 0 ≤ dsg b.toNat) := Lib.hid (by have := HD.out; rw [hke, take_all] at this; exact this)
      clear hke hk
      go_wp2_with fail
      exact bodyPost_ret (v := .tuple #[.string A, .bool true]) (by simp [results, Tryd.results49, go_sem]) rfl ⟨⟨_, _, rfl, fun _ => ⟨HA1.out, HD1.out⟩⟩, HB.out⟩

set_option maxRecDepth 100000 in
theorem ascii48 (s : ByteArray) (hs : s.size ≤ 10000) (w : World) : Calls Tryd.prog 48 #[.string s] w fun e w' => e = .returned (.bool (s.data.toList.all fun b => decide (b.toNat ≤ 127))) ∧ w = w' := by
  obtain ⟨B, hB⟩ : ∃ B, (s.data.toList.all fun b => decide (b.toNat ≤ 127)) = B := ⟨_, rfl⟩
  rw [hB]
  have HB := Lib.hid hB
  clear hB
  go_enter Tryd.func48, Tryd.ntmps48
  go_wp2_with fail
  go_loopw [6] (fun i wr => ∃ k : Nat, i = .int .i64 (k : Int) ∧ Hid (k ≤ s.size) ∧ Hid (∀ b ∈ s.data.toList.take k, b.toNat ≤ 127) ∧ Hid (w = wr)) (fun i _ => s.size - (intOf i).toNat)
  case atStart => exact ⟨0, rfl, Lib.hid (by omega), Lib.hid (by simp), Lib.hid rfl⟩
  case round =>
    obtain ⟨k, rfl, HK, HA, HW⟩ := hrel
    by_cases hk : k < s.size
    · have hki : (k : Int) < (s.size : Int) := by omega
      obtain ⟨b, hb⟩ : ∃ b, s[k] = b := ⟨_, rfl⟩
      have HT : Hid (s.data.toList.take (k + 1) = s.data.toList.take k ++ [b]) := Lib.hid (by rw [← hb]; exact take_succ s k hk)
      have HM : Hid (b ∈ s.data.toList) := Lib.hid (by rw [← hb]; exact List.mem_of_getElem? (get_list s k hk))
      have hk2 : Hid (k + 1 ≤ s.size) := Lib.hid hk
      by_cases hd : b.toNat ≤ 127
      · have hdi : ¬ (127 : Int) < (b.toNat : Int) := by omega
        have HA2 : Hid (∀ b ∈ s.data.toList.take (k + 1), b.toNat ≤ 127) := Lib.hid (by
          rw [HT.out]
          intro c hc
          rcases List.mem_append.1 hc with hc | hc
          · exact HA.out c hc
          · rw [List.mem_singleton.1 hc]; exact hd)
        clear HT hd
        go_wp2_with fail
        go_roundw
        case rel => first | exact ⟨k + 1, rfl, hk2, HA2, HW⟩ | ((repeat apply Exists.intro); refine ⟨?_, rfl⟩; exact ⟨k + 1, rfl, hk2, HA2, HW⟩)
        case measure => simp [intOf]; omega
      · have hdi : (127 : Int) < (b.toNat : Int) := by omega
        have HF : Hid (B = false) := Lib.hid (by rw [← HB.out, List.all_eq_false]; exact ⟨b, HM.out, by simpa using hd⟩)
        clear HT hd
        go_wp2_with fail
        go_ret
        exact ⟨by rw [HF.out]; rfl, HW.out⟩
    · have hki : ¬ (k : Int) < (s.size : Int) := by omega
      have hke : k = s.size := by have := HK.out; omega
      have HF : Hid (B = true) := Lib.hid (by
        rw [← HB.out, List.all_eq_true]
        intro b hb
        have := HA.out
        rw [hke, take_all] at this
        simpa using this b hb)
      clear hke hk
      go_wp2_with fail
      go_ret
      exact ⟨by rw [HF.out]; rfl, HW.out⟩

set_option maxRecDepth 100000 in
theorem byteIn25 (s : ByteArray) (hs : s.size ≤ 10000) (c : UInt8) (w : World) : Calls Tryd.prog 25 #[.string s, .int .u8 (c.toNat : Int)] w fun e w' => e = .returned (.bool (decide (c ∈ s.data.toList))) ∧ w = w' := by
  obtain ⟨B, hB⟩ : ∃ B, decide (c ∈ s.data.toList) = B := ⟨_, rfl⟩
  rw [hB]
  have HB := Lib.hid hB
  clear hB
  go_enter Tryd.func25, Tryd.ntmps25
  go_wp2_with fail
  go_loopw [8] (fun i wr => ∃ k : Nat, i = .int .i64 (k : Int) ∧ Hid (k ≤ s.size) ∧ Hid (¬ c ∈ s.data.toList.take k) ∧ Hid (w = wr)) (fun i _ => s.size - (intOf i).toNat)
  case atStart => exact ⟨0, rfl, Lib.hid (by omega), Lib.hid (by simp), Lib.hid rfl⟩
  case round =>
    obtain ⟨k, rfl, HK, HA, HW⟩ := hrel
    by_cases hk : k < s.size
    · have hki : (k : Int) < (s.size : Int) := by omega
      obtain ⟨b, hb⟩ : ∃ b, s[k] = b := ⟨_, rfl⟩
      have HT : Hid (s.data.toList.take (k + 1) = s.data.toList.take k ++ [b]) := Lib.hid (by rw [← hb]; exact take_succ s k hk)
      have HM : Hid (b ∈ s.data.toList) := Lib.hid (by rw [← hb]; exact List.mem_of_getElem? (get_list s k hk))
      have hk2 : Hid (k + 1 ≤ s.size) := Lib.hid hk
      by_cases hd : b = c
      · have hdi : ((b.toNat : Int) == (c.toNat : Int)) = true := by rw [hd]; simp
        have HF : Hid (B = true) := Lib.hid (by rw [← HB.out]; exact decide_eq_true (by rw [← hd]; exact HM.out))
        clear HT hd
        go_wp2_with fail
        go_ret
        exact ⟨by rw [HF.out]; rfl, HW.out⟩
      · have hdi : ((b.toNat : Int) == (c.toNat : Int)) = false := by
          have h1 : ¬ (b.toNat : Int) = (c.toNat : Int) := fun h => hd (UInt8.toNat_inj.1 (by omega))
          simpa using h1
        have HA2 : Hid (¬ c ∈ s.data.toList.take (k + 1)) := Lib.hid (by
          rw [HT.out]
          intro hc
          rcases List.mem_append.1 hc with hc | hc
          · exact HA.out hc
          · exact hd (List.mem_singleton.1 hc).symm)
        clear HT hd
        go_wp2_with fail
        go_roundw
        case rel => first | exact ⟨k + 1, rfl, hk2, HA2, HW⟩ | ((repeat apply Exists.intro); refine ⟨?_, rfl⟩; exact ⟨k + 1, rfl, hk2, HA2, HW⟩)
        case measure => simp [intOf]; omega
    · have hki : ¬ (k : Int) < (s.size : Int) := by omega
      have hke : k = s.size := by have := HK.out; omega
      have HF : Hid (B = false) := Lib.hid (by
        rw [← HB.out]
        refine decide_eq_false fun hb => ?_
        have := HA.out
        rw [hke, take_all] at this
        exact this hb)
      clear hke hk
      go_wp2_with fail
      go_ret
      exact ⟨by rw [HF.out]; rfl, HW.out⟩

/-- What clean gives. -/
def CleanR (s : ByteArray) (e : Ending) : Prop := ∃ ok : Bool, e = .returned (.bool ok) ∧ (ok = true → ∀ b ∈ s.data.toList, ¬ (24 ≤ b.toNat ∧ b.toNat ≤ 31))

set_option maxRecDepth 100000 in
set_option maxHeartbeats 2000000 in
theorem clean47 (s : ByteArray) (hs : s.size ≤ 10000) (w : World) : Calls Tryd.prog 47 #[.string s] w fun e w' => CleanR s e ∧ w = w' := by
  go_enter Tryd.func47, Tryd.ntmps47
  go_wp2_with fail
  go_loopw [6] (fun i wr => ∃ k : Nat, i = .int .i64 (k : Int) ∧ Hid (k ≤ s.size) ∧ Hid (∀ b ∈ s.data.toList.take k, ¬ (24 ≤ b.toNat ∧ b.toNat ≤ 31)) ∧ Hid (w = wr)) (fun i _ => s.size - (intOf i).toNat)
  case atStart => exact ⟨0, rfl, Lib.hid (by omega), Lib.hid (by simp), Lib.hid rfl⟩
  case round =>
    obtain ⟨k, rfl, HK, HA, HW⟩ := hrel
    by_cases hk : k < s.size
    · have hki : (k : Int) < (s.size : Int) := by omega
      obtain ⟨b, hb⟩ : ∃ b, s[k] = b := ⟨_, rfl⟩
      have hcell : ((s[k]).toNat : Int) = (b.toNat : Int) := by rw [hb]
      have HT : Hid (s.data.toList.take (k + 1) = s.data.toList.take k ++ [b]) := Lib.hid (by rw [← hb]; exact take_succ s k hk)
      have hk2 : Hid (k + 1 ≤ s.size) := Lib.hid hk
      have hA2 : ¬ (24 ≤ b.toNat ∧ b.toNat ≤ 31) → Hid (∀ b ∈ s.data.toList.take (k + 1), ¬ (24 ≤ b.toNat ∧ b.toNat ≤ 31)) := fun hd => Lib.hid (by
        rw [HT.out]
        intro c hc
        rcases List.mem_append.1 hc with hc | hc
        · exact HA.out c hc
        · rw [List.mem_singleton.1 hc]; exact hd)
      have hrange : (0 : Int) ≤ (b.toNat : Int) ∧ (b.toNat : Int) ≤ 255 := by have := b.toNat_lt; omega
      have hcases : ((¬ (b.toNat : Int) < 32 ∧ ((b.toNat : Int) == 127) = false) ∧ ¬ (24 ≤ b.toNat ∧ b.toNat ≤ 31)) ∨ (¬ (b.toNat : Int) < 32 ∧ ((b.toNat : Int) == 127) = true) ∨ (((b.toNat : Int) = 9 ∨ (b.toNat : Int) = 10 ∨ (b.toNat : Int) = 13) ∧ ¬ (24 ≤ b.toNat ∧ b.toNat ≤ 31)) ∨ ((b.toNat : Int) < 32 ∧ ((b.toNat : Int) == 9) = false ∧ ((b.toNat : Int) == 10) = false ∧ ((b.toNat : Int) == 13) = false) := by
        simp only [beq_iff_eq, beq_eq_false_iff_ne, ne_eq]
        omega
      clear HT hb
      generalize (b.toNat : Int) = d at *
      rcases hcases with ⟨⟨h1, h2⟩, h3⟩ | ⟨h1, h2⟩ | ⟨h1 | h1 | h1, h3⟩ | ⟨h1, h2, h3, h4⟩
      · have HA2 := hA2 h3
        clear hA2 h3
        go_wp2_with fail
        go_roundw
        case rel => first | exact ⟨k + 1, rfl, hk2, HA2, HW⟩ | ((repeat apply Exists.intro); refine ⟨?_, rfl⟩; exact ⟨k + 1, rfl, hk2, HA2, HW⟩)
        case measure => simp [intOf]; omega
      · clear hA2
        go_wp2_with fail
        go_ret
        exact ⟨⟨_, rfl, fun h => by cases h⟩, HW.out⟩
      · have HA2 := hA2 h3
        clear hA2 h3
        subst h1
        go_wp2_with fail
        go_roundw
        case rel => first | exact ⟨k + 1, rfl, hk2, HA2, HW⟩ | ((repeat apply Exists.intro); refine ⟨?_, rfl⟩; exact ⟨k + 1, rfl, hk2, HA2, HW⟩)
        case measure => simp [intOf]; omega
      · have HA2 := hA2 h3
        clear hA2 h3
        subst h1
        go_wp2_with fail
        go_roundw
        case rel => first | exact ⟨k + 1, rfl, hk2, HA2, HW⟩ | ((repeat apply Exists.intro); refine ⟨?_, rfl⟩; exact ⟨k + 1, rfl, hk2, HA2, HW⟩)
        case measure => simp [intOf]; omega
      · have HA2 := hA2 h3
        clear hA2 h3
        subst h1
        go_wp2_with fail
        go_roundw
        case rel => first | exact ⟨k + 1, rfl, hk2, HA2, HW⟩ | ((repeat apply Exists.intro); refine ⟨?_, rfl⟩; exact ⟨k + 1, rfl, hk2, HA2, HW⟩)
        case measure => simp [intOf]; omega
      · clear hA2
        have j2 : ¬ d = 9 := by simpa using h2
        have j3 : ¬ d = 10 := by simpa using h3
        have j4 : ¬ d = 13 := by simpa using h4
        go_wp2_with fail
        go_ret
        exact ⟨⟨_, rfl, fun h => by cases h⟩, HW.out⟩
    · have hki : ¬ (k : Int) < (s.size : Int) := by omega
      have hke : k = s.size := by have := HK.out; omega
      have HF : Hid (∀ b ∈ s.data.toList, ¬ (24 ≤ b.toNat ∧ b.toNat ≤ 31)) := Lib.hid (by
        have := HA.out
        rw [hke, take_all] at this
        exact this)
      clear hke hk
      go_wp2_with fail
      go_ret
      exact ⟨⟨_, rfl, fun _ => HF.out⟩, HW.out⟩
end Go.Proofs.YtcohlcijgfdanaaDoor.lt
