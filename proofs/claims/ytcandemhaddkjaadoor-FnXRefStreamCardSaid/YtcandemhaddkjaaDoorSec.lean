/-
  Sections of a cross reference stream: plain words. Pairs (start, count), each above the one before it, of 1 to 5000 numbers, below size; the numbers that they name.
-/
namespace Go.Proofs.YtcandemhaddkjaaDoor.xs
set_option linter.unusedVariables false

/-- The numbers s, s + 1 .. (c of them). -/
def runN (s : Int) (c : Nat) : List Int := (List.range c).map fun (i : Nat) => s + (i : Int)
theorem runN_length (s : Int) (c : Nat) : (runN s c).length = c := by simp [runN]
theorem runN_zero (s : Int) : runN s 0 = [] := rfl
theorem runN_succ (s : Int) (c : Nat) : runN s (c + 1) = runN s c ++ [s + (c : Int)] := by simp [runN, List.range_succ]
theorem runN_get (s : Int) (c i : Nat) (h : i < c) : (runN s c)[i]? = some (s + (i : Int)) := by simp [runN, h]

/-- Where the first k pairs end; what they name. -/
def endK (z : Nat → Int) : Nat → Int
  | 0 => 0
  | k + 1 => z (2 * k) + z (2 * k + 1)
def outK (z : Nat → Int) : Nat → List Int
  | 0 => []
  | k + 1 => outK z k ++ runN (z (2 * k)) (z (2 * k + 1)).toNat

/-- The first K pairs rise and lie below size. -/
def OkK (size : Int) (z : Nat → Int) (K : Nat) : Prop := ∀ j, j < K → endK z j ≤ z (2 * j) ∧ 1 ≤ z (2 * j + 1) ∧ z (2 * j + 1) ≤ 5000 ∧ z (2 * j) ≤ size - z (2 * j + 1)

theorem OkK.zero (size : Int) (z : Nat → Int) : OkK size z 0 := fun j h => by omega
theorem OkK.succ {size : Int} {z : Nat → Int} {k : Nat} (h : OkK size z k) (h1 : endK z k ≤ z (2 * k)) (h2 : 1 ≤ z (2 * k + 1)) (h3 : z (2 * k + 1) ≤ 5000) (h4 : z (2 * k) ≤ size - z (2 * k + 1)) : OkK size z (k + 1) := fun j hj => by
  rcases (show j < k ∨ j = k by omega) with e | rfl
  · exact h j e
  · exact ⟨h1, h2, h3, h4⟩
theorem OkK.bound {size : Int} {z : Nat → Int} (hs : 0 ≤ size) : ∀ {K : Nat}, OkK size z K → ∀ k, k ≤ K → 0 ≤ endK z k ∧ endK z k ≤ size ∧ ((outK z k).length : Int) ≤ endK z k ∧ (k : Int) ≤ endK z k := by
  intro K h k
  induction k with
  | zero => intro _; simp [endK, outK, hs]
  | succ k ih =>
    intro hk
    obtain ⟨a, b, c, d⟩ := ih (by omega)
    obtain ⟨p, q, r, s⟩ := h k (by omega)
    refine ⟨?_, ?_, ?_, ?_⟩ <;> simp only [endK, outK, List.length_append, runN_length] <;> omega
theorem OkK.start {size : Int} {z : Nat → Int} (hs : 0 ≤ size) {K : Nat} (h : OkK size z K) (k : Nat) (hk : k < K) : 0 ≤ z (2 * k) := by
  have := (h.bound hs k (by omega)).1
  have := (h k hk).1
  omega
/-- What is named lies below size. -/
theorem OkK.mem {size : Int} {z : Nat → Int} (hs : 0 ≤ size) {K : Nat} (h : OkK size z K) : ∀ k, k ≤ K → ∀ x ∈ outK z k, 0 ≤ x ∧ x < size := by
  intro k
  induction k with
  | zero => intro _ x hx; simp [outK] at hx
  | succ k ih =>
    intro hk x hx
    rw [outK] at hx
    rcases List.mem_append.1 hx with hx | hx
    · exact ih (by omega) x hx
    · simp [runN] at hx
      obtain ⟨i, hi, rfl⟩ := hx
      have := h.start hs k (by omega)
      have := h k (by omega)
      omega

/-- Without pairs: one of all. -/
def z0 (size : Int) : Nat → Int := fun i => if i = 0 then 0 else size
theorem out_z0 (size : Int) : outK (z0 size) 1 = runN 0 size.toNat := by simp [outK, z0]
theorem ok_z0 {size : Int} (h1 : 1 ≤ size) (h2 : size ≤ 5000) : OkK size (z0 size) 1 := fun j hj => by
  obtain rfl : j = 0 := by omega
  simp [z0, endK]
  omega
end Go.Proofs.YtcandemhaddkjaaDoor.xs
