/-
  Rows of entries of a call's own; what is left of a range; appends of one entry, of one number, of a copy.
-/
import Derived.Test.YtoaedibfgegilaaGreatDoorTbl
namespace Go.Proofs.YtoaedibfgegilaaGreatDoor.st
open Go.RowKit Go.MapKept Go.ChangeMaps
set_option linter.unusedVariables false
set_option linter.unusedSimpArgs false

theorem info32f : (Tryz.prog.info? 32).map (fun i => (i.zero, i.size, i.bytes)) = some (some (.agg #[.int .i64 0, .bool false, .bool false, .int .i64 0, .int .i64 0, .bool false, .bool false, .int .i64 0, .int .i64 0]), 9, 56) := by kernel_rfl
theorem info3f : (Tryz.prog.info? 3).map (fun i => (i.zero, i.size, i.bytes)) = some (some (.int .i64 0), 1, 8) := by kernel_rfl

def flatE (d : List Ent) : List Value := d.flatMap fun e => (entC e).toList
theorem flatE_append (a b : List Ent) : flatE (a ++ b) = flatE a ++ flatE b := by simp [flatE]
theorem flatE_one (e : Ent) : flatE [e] = (entC e).toList := by simp [flatE]
theorem flatE_length : ∀ d : List Ent, (flatE d).length = d.length * 9
  | [] => rfl
  | a :: d => by
    have ih := flatE_length d
    simp only [flatE, List.flatMap_cons, List.length_append, List.length_cons] at ih ⊢
    rw [ih, Nat.succ_mul]
    simp [entC]
    omega
theorem flatE_get : ∀ (d : List Ent) (i : Nat) (e : Ent), d[i]? = some e → ∀ (j : Nat) (u : Value), (entC e)[j]? = some u → (flatE d)[i * 9 + j]? = some u
  | [], i, e, h, _, _, _ => by simp at h
  | a :: d, 0, e, h, j, u, hj => by
    obtain rfl : a = e := by simpa using h
    have hj9 : j < (entC a).toList.length := by simpa using (Array.getElem?_eq_some_iff.1 hj).1
    simp only [flatE, List.flatMap_cons, Nat.zero_mul, Nat.zero_add]
    rw [List.getElem?_append_left hj9, Array.getElem?_toList, hj]
  | a :: d, i + 1, e, h, j, u, hj => by
    have ih := flatE_get d i e (by simpa using h) j u hj
    simp only [flatE, List.flatMap_cons] at ih ⊢
    rw [List.getElem?_append_right (by simp [entC]; omega)]
    rw [show (i + 1) * 9 + j - (entC a).toList.length = i * 9 + j by simp [entC]; omega]
    exact ih
theorem ents_of_own {w : World} {B : Nat} {v : Value} {d : List Ent} (h : w.ownsRow B 32 9 v d.length (flatE d)) : EntsV w v d.length (fun i => d.getD i default) := by
  rcases h.2 with ⟨rfl, e⟩ | ⟨g, cap, cur, e, hB, hc, hn, hm, r⟩
  · exact .inl ⟨e, none, 0, rfl⟩
  · refine .inr ⟨g, 0, cap, e, hn, hm, fun i hi j u hj => ?_⟩
    have := h.cells (g := g) (by rw [e]; rfl) (i * 9 + j) u (flatE_get d i _ (by show d[i]? = some (d.getD i default); rw [List.getD_eq_getElem?_getD, List.getElem?_eq_getElem hi]; rfl) j u hj)
    rw [addr_add, Nat.zero_add] at this
    rw [Nat.zero_add]
    exact this

/-- An entry appended: the row of one lies in the world's last block. -/
theorem app32 (w0 : World) (base : Nat) (v : Value) (d : List Ent) (e : Ent) (k : Nat) (hk : k = w0.heap.size) (hown : w0.ownsRow base 32 9 v d.length (flatE d)) (hn : d.length ≤ 1000000) (hb : base ≤ w0.heap.size) :
    ∃ a C w', (Builtin.append_ #[22, 22] 22 #[v, .slice (some ⟨k, 0, none⟩) 1 1]).run Tryz.prog (w0.alloc (.cells (entC e) 32)) = .ok (.slice a (d ++ [e]).length C) w' ∧ w'.ownsRow base 32 9 (.slice a (d ++ [e]).length C) (d ++ [e]).length (flatE (d ++ [e])) ∧ Bel base [] w0 w' := by
  subst hk
  obtain ⟨i, hi, hz, hs, hby⟩ := info_parts info32f
  have hown' := hown.alloc (.cells (entC e) 32)
  obtain ⟨v', w', h1, h2, h3, _⟩ := run_append_own (P := Tryz.prog) (w := w0.alloc (.cells (entC e) 32)) base 22 22 32 i _ 9 56 Tryz.underlying22 hi hz hs hby rfl (by decide) v _ _ hown' ⟨w0.heap.size, 0, none⟩ 1 1 (entC e).toList (by simp [entC])
    (fun j u hj => by
      rw [addr_add, Nat.zero_add, cellsOf (heap_alloc_new w0 _)]
      simpa using hj) (fun u hu => by
      simp [entC] at hu
      rcases hu with rfl | rfl | rfl | rfl | rfl | rfl | rfl | rfl | rfl <;> rfl) (by unfold maxLen; omega) (by omega) (by simp; omega)
  obtain ⟨a, C, rfl⟩ := own_slice h2
  have e1 : (d ++ [e]).length = d.length + 1 := by simp
  rw [e1, flatE_append, flatE_one]
  exact ⟨a, C, w', h1, h2, ((Bel.refl base [] w0).alloc hb _).trans (grown_bel h3 (by simp; omega) fun g hg => (own_block hown' g hg).1)⟩

def iv (l : List Int) : List Value := l.map (Value.int .i64)
theorem iv_append (a b : List Int) : iv (a ++ b) = iv a ++ iv b := by simp [iv]
/-- What is left of a range behind one step more. -/
theorem left_perm (es : Array MapEntry) (seen : Array Nat) (e : MapEntry) (he : e ∈ (leftOf es seen).toList) (hn : (es.toList.map (·.born)).Nodup) :
    ((leftOf es seen).toList.map (·.born)).Perm (e.born :: (leftOf es (seen.push e.born)).toList.map (·.born)) := by
  have h1 : (leftOf es seen).toList = es.toList.filter fun x => !seen.contains x.born := by simp [leftOf]
  have h2 : (leftOf es (seen.push e.born)).toList = (leftOf es seen).toList.filter fun x => x.born != e.born := by
    rw [h1]
    simp only [leftOf, Array.toList_filter, List.filter_filter]
    apply List.filter_congr
    intro x _
    simp [Bool.and_comm, bne, BEq.beq]
  have h3 : ((leftOf es seen).toList.map (·.born)).Nodup := by
    rw [h1]
    exact (List.Sublist.map _ List.filter_sublist).nodup hn
  have h4 : (leftOf es (seen.push e.born)).toList.map (·.born) = ((leftOf es seen).toList.map (·.born)).erase e.born := by
    rw [h2, h3.erase_eq_filter, List.filter_map]
    rfl
  rw [h4]
  exact List.perm_cons_erase (List.mem_map.2 ⟨e, he, rfl⟩)
theorem left_step (es : Array MapEntry) (seen : Array Nat) (e x : MapEntry) (hx : x ∈ (leftOf es seen).toList) : x.born = e.born ∨ x ∈ (leftOf es (seen.push e.born)).toList := by
  by_cases h : x.born = e.born
  · exact .inl h
  · right
    simp [leftOf] at hx ⊢
    exact ⟨hx.1, hx.2, h⟩
end Go.Proofs.YtoaedibfgegilaaGreatDoor.st
