/-
  Objects as plain data: integers, names, lists of integers, dictionaries; rows of them.
-/
import Derived.Test.YtcandemhaddkjaaDoorSew
import Derived.Test.YtcandemhaddkjaaDoorFlSem
import Derived.Test.YtcandemhaddkjaaDoorMpp
import Derived.Deep.RegionLaw
namespace Go.Proofs.YtcandemhaddkjaaDoor.xs
open Go.RowKit
set_option linter.unusedVariables false
set_option linter.unusedSimpArgs false

/-- An object: an integer, a name, a list, a dictionary. -/
def intO (n : Int) : Array Value := #[.int .i64 2, .int .i64 n, .int .i64 0, .float .f64 0, .string ⟨#[]⟩, .slice none 0 0, .slice none 0 0]
def nameO (s : ByteArray) : Array Value := #[.int .i64 6, .int .i64 0, .int .i64 0, .float .f64 0, .string s, .slice none 0 0, .slice none 0 0]
def listO (part : Value) : Array Value := #[.int .i64 7, .int .i64 0, .int .i64 0, .float .f64 0, .string ⟨#[]⟩, .slice none 0 0, part]
def dictO (keys kids : Value) : Array Value := #[.int .i64 8, .int .i64 0, .int .i64 0, .float .f64 0, .string ⟨#[]⟩, keys, kids]
def zeroO : Array Value := #[.int .i64 0, .int .i64 0, .int .i64 0, .float .f64 0, .string ⟨#[]⟩, .slice none 0 0, .slice none 0 0]

/-- Seven cells, each one cell. -/
def Seven (o : Array Value) : Prop := o.size = 7 ∧ ∀ u ∈ o.toList, u.oneCell' = true
theorem intO_seven (n : Int) : Seven (intO n) := ⟨rfl, fun u hu => by
  simp [intO] at hu
  rcases hu with rfl | rfl | rfl | rfl | rfl | rfl <;> rfl⟩
theorem nameO_seven (s : ByteArray) : Seven (nameO s) := ⟨rfl, fun u hu => by
  simp [nameO] at hu
  rcases hu with rfl | rfl | rfl | rfl | rfl <;> rfl⟩
theorem listO_seven (a : Option Addr) (n c : Nat) : Seven (listO (.slice a n c)) := ⟨rfl, fun u hu => by
  simp [listO] at hu
  rcases hu with rfl | rfl | rfl | rfl | rfl | rfl <;> rfl⟩

def flat (os : List (Array Value)) : List Value := os.flatMap Array.toList
theorem flat_append (a b : List (Array Value)) : flat (a ++ b) = flat a ++ flat b := by simp [flat]
theorem flat_one (o : Array Value) : flat [o] = o.toList := by simp [flat]
theorem flat_get : ∀ (os : List (Array Value)), (∀ o ∈ os, Seven o) → ∀ (i : Nat) (o : Array Value), os[i]? = some o → ∀ (j : Nat) (u : Value), o[j]? = some u → (flat os)[i * 7 + j]? = some u
  | [], _, i, o, h, _, _, _ => by simp at h
  | a :: os, hs, 0, o, h, j, u, hj => by
    obtain rfl : a = o := by simpa using h
    have hsz := (hs a (by simp)).1
    have hj7 : j < a.toList.length := by simpa using (Array.getElem?_eq_some_iff.1 hj).1
    simp only [flat, List.flatMap_cons, Nat.zero_mul, Nat.zero_add]
    rw [List.getElem?_append_left hj7, Array.getElem?_toList, hj]
  | a :: os, hs, i + 1, o, h, j, u, hj => by
    have hsz := (hs a (by simp)).1
    have ih := flat_get os (fun o ho => hs o (by simp [ho])) i o (by simpa using h) j u hj
    simp only [flat, List.flatMap_cons] at ih ⊢
    rw [List.getElem?_append_right (by simp [hsz]; omega), Array.length_toList, hsz, show (i + 1) * 7 + j - 7 = i * 7 + j by omega]
    exact ih

/-- A slice that reads as these objects. -/
def Rows (w : World) (v : Value) (os : List (Array Value)) : Prop :=
  ∃ g C, v = .slice (some ⟨g, 0, none⟩) os.length C ∧ os.length ≤ C ∧ C ≤ maxLen ∧ g < w.heap.size ∧ ∀ i o, os[i]? = some o → ∀ j u, o[j]? = some u → w.cell? ⟨g, i * 7 + j, none⟩ = some u
theorem Rows.kept {w w' : World} {v : Value} {os : List (Array Value)} (h : Rows w v os) (k : Kept [] w w') : Rows w' v os := by
  obtain ⟨g, C, h1, h2, h3, h4, h5⟩ := h
  exact ⟨g, C, h1, h2, h3, Nat.lt_of_lt_of_le h4 k.size, fun i o hi j u hj => k.cell (h5 i o hi j u hj) (by simp)⟩
theorem Rows.of_own {w : World} {B : Nat} {v : Value} {os : List (Array Value)} (h : w.ownsRow B 33 7 v os.length (flat os)) (hs : ∀ o ∈ os, Seven o) (hne : 0 < os.length) : Rows w v os := by
  rcases h.2 with ⟨_, e⟩ | ⟨g, cap, cur, e, hB, hc, hn, hm, r⟩
  · omega
  · refine ⟨g, cap, e, hn, hm, (Array.getElem?_eq_some_iff.1 hc).1, fun i o hi j u hj => ?_⟩
    have := h.cells (g := g) (by rw [e]; rfl) (i * 7 + j) u (flat_get os hs i o hi j u hj)
    rwa [addr_add, Nat.zero_add] at this

/-- A slice that reads as these strings. -/
def Strs (w : World) (v : Value) (ks : List ByteArray) : Prop :=
  ∃ g C, v = .slice (some ⟨g, 0, none⟩) ks.length C ∧ ks.length ≤ C ∧ C ≤ maxLen ∧ g < w.heap.size ∧ ∀ i k, ks[i]? = some k → w.cell? ⟨g, i, none⟩ = some (.string k)
def sv (ks : List ByteArray) : List Value := ks.map Value.string
theorem Strs.kept {w w' : World} {v : Value} {ks : List ByteArray} (h : Strs w v ks) (k : Kept [] w w') : Strs w' v ks := by
  obtain ⟨g, C, h1, h2, h3, h4, h5⟩ := h
  exact ⟨g, C, h1, h2, h3, Nat.lt_of_lt_of_le h4 k.size, fun i s hi => k.cell (h5 i s hi) (by simp)⟩
theorem Strs.of_own {w : World} {B : Nat} {v : Value} {ks : List ByteArray} (h : w.ownsRow B 9 1 v ks.length (sv ks)) (hne : 0 < ks.length) : Strs w v ks := by
  rcases h.2 with ⟨_, e⟩ | ⟨g, cap, cur, e, hB, hc, hn, hm, r⟩
  · omega
  · refine ⟨g, cap, e, hn, hm, (Array.getElem?_eq_some_iff.1 hc).1, fun i k hi => ?_⟩
    have := h.cells (g := g) (by rw [e]; rfl) i (.string k) (by simp [sv, hi])
    rwa [addr_add, Nat.zero_add] at this

theorem info33f : (Tryd.prog.info? 33).map (fun i => (i.zero, i.size, i.bytes)) = some (some (.agg #[.int .i64 0, .int .i64 0, .int .i64 0, .float .f64 0, .string ⟨#[]⟩, .slice none 0 0, .slice none 0 0]), 7, 96) := by kernel_rfl
theorem info9f : (Tryd.prog.info? 9).map (fun i => (i.zero, i.size, i.bytes)) = some (some (.string ⟨#[]⟩), 1, 16) := by kernel_rfl

/-- An object of one value appended to a row of objects of the call's own. -/
theorem app33 (w : World) (base : Nat) (v : Value) (os : List (Array Value)) (hown : w.ownsRow base 33 7 v os.length (flat os)) (ad : Addr) (c : Nat) (o : Array Value) (ho : Seven o) (hc : ∀ j u, o.toList[j]? = some u → w.cell? (ad.add j) = some u) (hn : os.length ≤ 1000000) (hb : base ≤ w.heap.size) (ty : TypeId) :
    ∃ v' w', (Builtin.append_ #[31, 31] ty #[v, .slice (some ad) 1 c]).run Tryd.prog w = .ok v' w' ∧ w'.ownsRow base 33 7 v' (os ++ [o]).length (flat (os ++ [o])) ∧ w.grownBy w' v.ownBlock := by
  obtain ⟨i, hi, hz, hs, hby⟩ := info_parts info33f
  obtain ⟨v', w', h1, h2, h3, _⟩ := run_append_own (P := Tryd.prog) (w := w) base 31 ty 33 i _ 7 96 Tryd.underlying31 hi hz hs hby rfl (by decide) v _ _ hown ad 1 c o.toList (by simp [ho.1]) hc ho.2 (by unfold maxLen; omega) (by omega) hb
  refine ⟨v', w', h1, ?_, h3⟩
  rw [flat_append, flat_one]
  simpa using h2
/-- A string appended. -/
theorem app9 (w : World) (base : Nat) (v : Value) (ks : List ByteArray) (hown : w.ownsRow base 9 1 v ks.length (sv ks)) (ad : Addr) (c : Nat) (s : ByteArray) (hc : w.cell? ad = some (.string s)) (hn : ks.length ≤ 1000000) (hb : base ≤ w.heap.size) (ty : TypeId) :
    ∃ v' w', (Builtin.append_ #[30, 30] ty #[v, .slice (some ad) 1 c]).run Tryd.prog w = .ok v' w' ∧ w'.ownsRow base 9 1 v' (ks ++ [s]).length (sv (ks ++ [s])) ∧ w.grownBy w' v.ownBlock := by
  obtain ⟨i, hi, hz, hs, hby⟩ := info_parts info9f
  obtain ⟨v', w', h1, h2, h3, _⟩ := run_append_own (P := Tryd.prog) (w := w) base 30 ty 9 i _ 1 16 Tryd.underlying30 hi hz hs hby rfl (by decide) v _ _ hown ad 1 c [.string s] (by simp) (fun j u hj => by
    rcases j with _ | j
    · simp at hj
      subst hj
      rw [Addr.add_zero']
      exact hc
    · simp at hj) (fun u hu => by simp at hu; subst hu; rfl) (by unfold maxLen; omega) (by omega) hb
  refine ⟨v', w', h1, ?_, h3⟩
  simpa [sv] using h2

/-- An append of which the run is known, as one step of a region that draws. -/
theorem step_append_run {ops : Array Oper} {o : Oper} {a : Act} {w : World} {K : Act → World → Prop} {Q : Exit → Act → World → Prop} {F : Prop} (T : TypeId)
    (hg : o.guard = none) (s x : Operand) (hop : o.op = Op.call { callee := Callee.builtin Builtin.append, args := #[s, x], argTypes := #[T, T] }) (vs vx : Value) (hs : a.eval s = vs) (hx : a.eval x = vx) (v' : Value) (w' : World)
    (hr : (Builtin.append_ #[T, T] o.type #[vs, vx]).run Tryd.prog w = .ok v' w') (hK : K (a.put o.dst v') w') :
    if Region.wanted o (yielded ops a.tmps) = true then Oper.wp Tryd.prog o a w K Q else F := by
  have hw : Region.wanted o (yielded ops a.tmps) = true := by simp [Region.wanted, hg]
  rw [if_pos hw]
  unfold Oper.wp
  simp [execOp, hop, resolve, invoke, builtin, hs, hx, hr, Result.andThen]
  exact hK

theorem int14 (n : Int) (w : World) : Calls Tryd.prog 14 #[.int .i64 n] w fun e w' => e = .returned (.agg (intO n)) ∧ w' = w.alloc (.cells (intO n) 33) := by
  unfold intO
  go_enter Tryd.func14, Tryd.ntmps14
  go_wp2_with fail
  refine bodyPost_ret (v := .agg (intO n)) ?_ rfl ⟨rfl, rfl⟩
  have hres : Tryd.f14.results = #[.cell 2 33] := by kernel_rfl
  unfold intO
  simp only [results, hres]
  go_simp
end Go.Proofs.YtcandemhaddkjaaDoor.xs
