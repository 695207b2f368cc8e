/-
  laws.equal at two slices of one content.
-/
import Derived.Test.YtmihbmjillcjaaaDoorSup
import Derived.Test.YtmihbmjillcjaaaDoorUna8
import Derived.Shelf.Bytes.SlEqualAll
namespace Go.Proofs.YtmihbmjillcjaaaDoor.up
set_option linter.unusedVariables false
set_option linter.unusedSimpArgs false
open Go.RowKit

theorem rowL_getD {n : Nat} {f : Nat → Int} {i : Nat} (h : i < n) : (rowL n f).getD i 0 = f i := by
  rw [List.getD_eq_getElem?_getD, rowL_get h, Option.getD_some]

/-- A slice that reads as n of f, wherever it lies. -/
def Reads (w : World) (v : Value) (n : Nat) (f : Nat → Int) : Prop := (n = 0 ∧ ∃ p c, v = .slice p 0 c) ∨ ∃ b o c, v = .slice (some ⟨b, o, none⟩) n c ∧ 1 ≤ n ∧ ∀ i, i < n → w.cell? ⟨b, o + i, none⟩ = some (.int .u8 (f i))
theorem DataV.reads {w : World} {v : Value} {n : Nat} {f : Nat → Int} (h : DataV w v n f) : Reads w v n f := by
  rcases Nat.eq_zero_or_pos n with h0 | h0
  · subst h0
    rcases h with ⟨rfl, _⟩ | ⟨a, C, rfl, _⟩
    · exact .inl ⟨rfl, _, _, rfl⟩
    · exact .inl ⟨rfl, _, _, rfl⟩
  · obtain ⟨db, o, C, rfl, _, _, _, hc⟩ := data_addr h h0
    exact .inr ⟨db, o, C, rfl, h0, hc⟩
theorem Got.reads {w w' : World} {v : Value} {n : Nat} {f : Nat → Int} (h : Got w w' n f v) : Reads w' v n f := by
  obtain ⟨b, c, rfl, _, _, hc⟩ := h
  rcases Nat.eq_zero_or_pos n with h0 | h0
  · subst h0
    exact .inl ⟨rfl, _, _, rfl⟩
  · exact .inr ⟨b, 0, c, rfl, h0, fun i hi => by rw [Nat.zero_add]; exact hc i hi⟩
theorem Reads.kept {w w' : World} {v : Value} {n : Nat} {f : Nat → Int} {L : List Nat} (h : Reads w v n f) (k : Kept L w w') (hL : ∀ x ∈ L, w.heap.size ≤ x) : Reads w' v n f := by
  rcases h with h | ⟨b, o, c, e, h1, hc⟩
  · exact .inl h
  · refine .inr ⟨b, o, c, e, h1, fun i hi => k.cell (hc i hi) (fun e => ?_)⟩
    have := hL _ e
    have := World.block_lt_of_cell? _ _ (hc i hi)
    omega
theorem data_convert {w : World} {v : Value} {n : Nat} {f : Nat → Int} (h : Reads w v n f) : (convert 22 9 v).run Tryd.prog w = .ok (.string (strOfNums (rowL n f))) w := by
  rcases h with ⟨rfl, p, c, rfl⟩ | ⟨db, o, C, rfl, _, hc⟩
  · have e : strOfNums (rowL 0 f) = ByteArray.empty := rfl
    rw [e]
    exact run_convert_bytes_zero w 22 5 Tryd.underlying22 Tryd.underlying5 p c 9 Tryd.underlying9
  · exact run_convert_bytes_arg (P := Tryd.prog) w 22 5 Tryd.underlying22 Tryd.underlying5 db o n C (rowL n f) (rowL_length n f) (fun i hi => by rw [rowL_getD hi]; exact hc i hi) 9 Tryd.underlying9

theorem equal5 (a b : Value) (n : Nat) (f g : Nat → Int) (hfg : ∀ i, i < n → f i = g i) (w : World) (ha : Reads w a n f) (hb : Reads w b n g) : Calls Tryd.prog 5 #[a, b] w fun e w' => e = .returned (.bool true) ∧ w' = w := by
  have h1 := data_convert ha
  have h2 := data_convert hb
  rw [← rowL_congr hfg] at h2
  clear hfg
  go_enter Tryd.func5, Tryd.ntmps5
  go_wp2_with fail
  go_ret
  exact ⟨rfl, rfl⟩

end Go.Proofs.YtmihbmjillcjaaaDoor.up
