/-
  Rows of samples and their prediction (PNG, 9; TIFF 6.0, 14): plain laws.
-/
namespace Go.Proofs.YtmihbmjillcjaaaDoor.up
set_option linter.unusedVariables false
set_option linter.unusedSimpArgs false

def iabs (n : Int) : Int := if 0 ≤ n then n else -n
/-- Which of three is nearest to l + u - c. -/
def paeth (l u c : Int) : Int :=
  if iabs (u - c) ≤ iabs (l - c) ∧ iabs (u - c) ≤ iabs (u - c + (l - c)) then l else if iabs (l - c) ≤ iabs (u - c + (l - c)) then u else c
def pred (tag l u c : Int) : Int :=
  if tag = 1 then l else if tag = 2 then u else if tag = 3 then (l + u) / 2 else if tag = 4 then paeth l u c else 0

/-- A row's bytes behind the prediction. -/
def pv (tag : Int) (bpp : Nat) (raw above : Nat → Int) (i : Nat) : Int :=
  (raw i + pred tag (if _h : 1 ≤ bpp ∧ bpp ≤ i then pv tag bpp raw above (i - bpp) else 0) (above i) (if bpp ≤ i then above (i - bpp) else 0)) % 256
termination_by i
decreasing_by omega

theorem pv_near {tag : Int} {bpp : Nat} {raw above : Nat → Int} {i : Nat} (h : i < bpp) : pv tag bpp raw above i = (raw i + pred tag 0 (above i) 0) % 256 := by
  rw [pv, dif_neg (by omega), if_neg (by omega)]
theorem pv_far {tag : Int} {bpp : Nat} {raw above : Nat → Int} {i : Nat} (h1 : 1 ≤ bpp) (h : bpp ≤ i) : pv tag bpp raw above i = (raw i + pred tag (pv tag bpp raw above (i - bpp)) (above i) (above (i - bpp))) % 256 := by
  rw [pv, dif_pos ⟨h1, h⟩, if_pos h]
theorem pv_ge (tag : Int) (bpp : Nat) (raw above : Nat → Int) (i : Nat) : 0 ≤ pv tag bpp raw above i := by
  rw [pv]; omega
theorem pv_le (tag : Int) (bpp : Nat) (raw above : Nat → Int) (i : Nat) : pv tag bpp raw above i ≤ 255 := by
  rw [pv]; omega
/-- Only what lies in the row counts. -/
theorem pv_congr {tag : Int} {bpp : Nat} {raw raw' above above' : Nat → Int} (hb : 1 ≤ bpp) (n : Nat) (h : ∀ i, i < n → raw i = raw' i) (ha : ∀ i, i < n → above i = above' i) : ∀ i, i < n → pv tag bpp raw above i = pv tag bpp raw' above' i := by
  intro i
  induction i using Nat.strongRecOn with
  | _ i ih =>
    intro hi
    by_cases hb2 : bpp ≤ i
    · rw [pv_far hb hb2, pv_far hb hb2, h i hi, ha i hi, ih (i - bpp) (by omega) (by omega), ha (i - bpp) (by omega)]
    · rw [pv_near (by omega), pv_near (by omega), h i hi, ha i hi]

/-- The tag of row r: h is 1 where each row begins with a byte that tells its filter, 0 where the rows are differences to the left. -/
def tg (z : Nat → Int) (h size r : Nat) : Int := if h = 1 then z (r * (size + h)) else 1
def raw (z : Nat → Int) (h size r : Nat) : Nat → Int := fun i => z (r * (size + h) + h + i)
/-- Row r. -/
def ro (z : Nat → Int) (h size bpp : Nat) : Nat → Nat → Int
  | 0 => pv (tg z h size 0) bpp (raw z h size 0) fun _ => 0
  | r + 1 => pv (tg z h size (r + 1)) bpp (raw z h size (r + 1)) (ro z h size bpp r)
/-- The row above row r. -/
def ab (z : Nat → Int) (h size bpp : Nat) (r : Nat) : Nat → Int := match r with | 0 => fun _ => 0 | r + 1 => ro z h size bpp r
theorem ro_eq (z : Nat → Int) (h size bpp r : Nat) : ro z h size bpp r = pv (tg z h size r) bpp (raw z h size r) (ab z h size bpp r) := by
  cases r <;> rfl
theorem ro_ge (z : Nat → Int) (h size bpp r i : Nat) : 0 ≤ ro z h size bpp r i := by rw [ro_eq]; exact pv_ge ..
theorem ro_le (z : Nat → Int) (h size bpp r i : Nat) : ro z h size bpp r i ≤ 255 := by rw [ro_eq]; exact pv_le ..
theorem ab_ge (z : Nat → Int) (h size bpp r i : Nat) : 0 ≤ ab z h size bpp r i := by cases r with | zero => exact Int.le_refl 0 | succ r => exact ro_ge ..
theorem ab_le (z : Nat → Int) (h size bpp r i : Nat) : ab z h size bpp r i ≤ 255 := by cases r with | zero => show (0 : Int) ≤ 255; omega | succ r => exact ro_le ..

/-- The first n of f. -/
def rowL (n : Nat) (f : Nat → Int) : List Int := (List.range n).map f
theorem rowL_length (n : Nat) (f : Nat → Int) : (rowL n f).length = n := by simp [rowL]
theorem rowL_congr {n : Nat} {f g : Nat → Int} (h : ∀ i, i < n → f i = g i) : rowL n f = rowL n g := by
  unfold rowL
  exact List.map_congr_left fun i hi => h i (List.mem_range.1 hi)
theorem rowL_mem {n : Nat} {f : Nat → Int} {x : Int} (h : x ∈ rowL n f) : ∃ i, i < n ∧ f i = x := by
  simpa [rowL] using h
theorem rowL_get {n : Nat} {f : Nat → Int} {i : Nat} (h : i < n) : (rowL n f)[i]? = some (f i) := by
  simp [rowL, h]

/-- The first k rows, one behind the other. -/
def outL (z : Nat → Int) (h size bpp : Nat) : Nat → List Int
  | 0 => []
  | k + 1 => outL z h size bpp k ++ rowL size (ro z h size bpp k)
theorem outL_length (z : Nat → Int) (h size bpp : Nat) : ∀ k, (outL z h size bpp k).length = k * size
  | 0 => by simp [outL]
  | k + 1 => by rw [outL, List.length_append, outL_length z h size bpp k, rowL_length, Nat.succ_mul]
theorem outL_byte (z : Nat → Int) (h size bpp : Nat) : ∀ k, ∀ x ∈ outL z h size bpp k, 0 ≤ x ∧ x ≤ 255
  | 0, x, hx => by simp [outL] at hx
  | k + 1, x, hx => by
    rw [outL] at hx
    rcases List.mem_append.1 hx with hx | hx
    · exact outL_byte z h size bpp k x hx
    · obtain ⟨i, _, rfl⟩ := rowL_mem hx
      exact ⟨ro_ge .., ro_le ..⟩
end Go.Proofs.YtmihbmjillcjaaaDoor.up
