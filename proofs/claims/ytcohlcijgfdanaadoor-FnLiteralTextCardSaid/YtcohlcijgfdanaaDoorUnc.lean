/-
  FnLiteralText: types.Unescape at every text without carriage returns.
-/
import Derived.Test.YtcohlcijgfdanaaDoorUnb
import Derived.Test.YtcohlcijgfdanaaDoorEsc
namespace Go.Proofs.YtcohlcijgfdanaaDoor.lt
open Go.RowKit

theorem enc_all : ∀ k : Fin 8, Utf8.encode ((48 + k.val : Nat) : Int) = ⟨#[UInt8.ofNat (48 + k.val)]⟩ := by decide +kernel
theorem enc_od (c : UInt8) (h : od c = true) : Utf8.encode (c.toNat : Int) = ⟨#[c]⟩ := by
  have hv : 48 ≤ c.toNat ∧ c.toNat ≤ 55 := by unfold od at h; simpa using h
  have := enc_all ⟨c.toNat - 48, by omega⟩
  simp only at this
  rw [show 48 + (c.toNat - 48) = c.toNat by omega, UInt8.ofNat_toNat] at this
  exact this

/-- How far Unescape is. -/
structure St (text pre suf out oc : List UInt8) (eb : Bool) : Prop where
  all : text = pre ++ suf
  un : unesc text = out ++ unesc ((if eb then 92 :: oc else []) ++ suf)
  oc1 : eb = false → oc = []
  dig : ∀ d ∈ oc, od d = true
  len : oc.length ≤ 2
  bound : out.length + oc.length + (if eb then 1 else 0) ≤ pre.length

variable {text pre suf out oc : List UInt8} {c : UInt8}
theorem St.plain (h : St text pre (c :: suf) out [] false) (hc : c ≠ 92) : St text (pre ++ [c]) suf (out ++ [c]) [] false where
  all := by rw [h.all]; simp
  un := by
    have := h.un
    simp only [Bool.false_eq_true, if_false, List.nil_append] at this ⊢
    rw [this, un_plain c suf hc]
    simp
  oc1 _ := rfl
  dig := by simp
  len := by simp
  bound := by have := h.bound; simp at this ⊢; omega
theorem St.bs (h : St text pre (92 :: suf) out [] false) : St text (pre ++ [92]) suf out [] true where
  all := by rw [h.all]; simp
  un := by
    have := h.un
    simp only [Bool.false_eq_true, if_false, List.nil_append] at this
    rw [this]
    rfl
  oc1 h := by cases h
  dig := by simp
  len := by simp
  bound := by have := h.bound; simp at this ⊢; omega
theorem St.nl (h : St text pre (10 :: suf) out [] true) : St text (pre ++ [10]) suf out [] false where
  all := by rw [h.all]; simp
  un := by
    have := h.un
    simp only [if_true] at this
    rw [this]
    show out ++ unesc (92 :: 10 :: suf) = out ++ unesc suf
    rw [un_nl]
  oc1 _ := rfl
  dig := by simp
  len := by simp
  bound := by have := h.bound; simp at this ⊢; omega
theorem St.esc (h : St text pre (c :: suf) out [] true) (h10 : c ≠ 10) (ho : od c = false) : St text (pre ++ [c]) suf (out ++ [esv c]) [] false where
  all := by rw [h.all]; simp
  un := by
    have := h.un
    simp only [if_true] at this
    rw [this]
    show out ++ unesc (92 :: c :: suf) = out ++ [esv c] ++ unesc suf
    rw [un_esc c suf h10 ho]
    simp
  oc1 _ := rfl
  dig := by simp
  len := by simp
  bound := by have := h.bound; simp at this ⊢; omega
theorem St.oct (h : St text pre (c :: suf) out oc true) (ho : od c = true) (hl : oc.length ≤ 1) : St text (pre ++ [c]) suf out (oc ++ [c]) true where
  all := by rw [h.all]; simp
  un := by
    have := h.un
    simp only [if_true] at this ⊢
    rw [this]
    simp
  oc1 h := by cases h
  dig d hd := by
    rcases List.mem_append.1 hd with hd | hd
    · exact h.dig d hd
    · rw [List.mem_singleton.1 hd]; exact ho
  len := by simp; omega
  bound := by have := h.bound; simp at this ⊢; omega
theorem St.oct3 (h : St text pre (c :: suf) out oc true) (ho : od c = true) (hl : oc.length = 2) : St text (pre ++ [c]) suf (out ++ [octB (oc ++ [c])]) [] false where
  all := by rw [h.all]; simp
  un := by
    have := h.un
    simp only [if_true] at this
    rw [this]
    show out ++ unesc (92 :: oc ++ (c :: suf)) = out ++ [octB (oc ++ [c])] ++ unesc suf
    rw [show (92 : UInt8) :: oc ++ (c :: suf) = 92 :: ((oc ++ [c]) ++ suf) by simp, un_oct (oc ++ [c]) suf (fun d hd => by
      rcases List.mem_append.1 hd with hd | hd
      · exact h.dig d hd
      · rw [List.mem_singleton.1 hd]; exact ho) (by simp) (by simp; omega) (Or.inl (by simp; omega))]
    simp
  oc1 _ := rfl
  dig := by simp
  len := by simp
  bound := by have := h.bound; simp at this ⊢; omega
theorem St.flush (h : St text pre (c :: suf) out oc true) (hn : oc ≠ []) (ho : od c = false) : St text pre (c :: suf) (out ++ [octB oc]) [] false where
  all := h.all
  un := by
    have := h.un
    simp only [if_true] at this
    rw [this]
    show out ++ unesc (92 :: (oc ++ (c :: suf))) = out ++ [octB oc] ++ unesc (c :: suf)
    rw [un_oct oc (c :: suf) h.dig hn (by have := h.len; omega) (Or.inr fun c' r' e => by
      obtain ⟨rfl, _⟩ := List.cons.inj e
      exact ho)]
    simp
  oc1 _ := rfl
  dig := by simp
  len := by simp
  bound := by have := h.bound; have := List.length_pos_iff.2 hn; simp at this ⊢; simp at *; omega
theorem St.end0 {eb : Bool} (h : St text pre [] out [] eb) : unesc text = out := by
  have := h.un
  cases eb
  · simpa [un_nil] using this
  · simpa [un_end] using this
theorem St.end1 (h : St text pre [] out oc true) (hn : oc ≠ []) : unesc text = out ++ [octB oc] := by
  have := h.un
  simp only [if_true, List.append_nil] at this
  rw [this]
  have h2 := un_oct oc [] h.dig hn (by have := h.len; omega) (Or.inr fun c' r' e => by cases e)
  rw [List.append_nil] at h2
  rw [h2, un_nil]
end Go.Proofs.YtcohlcijgfdanaaDoor.lt
