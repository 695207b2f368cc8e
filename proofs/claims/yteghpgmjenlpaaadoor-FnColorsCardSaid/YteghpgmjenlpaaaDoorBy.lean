/-
  The floats that stand for a byte by 255: plain facts, each by the kernel over the 256 bytes.
-/
import Derived.Laws.FloatArith
namespace Go.Proofs.YteghpgmjenlpaaaDoor.By

/-- A byte by 255, in 32 bits. -/
def q (b : Nat) : Nat := (floatBits .quo .f32 (floatOfInt .f32 (b : Int)) 1132396544).getD 0
/-- The same in 64 bits. -/
def d (b : Nat) : Nat := (floatToFloatBits .f32 (q b) .f64).getD 0
def m (b : Nat) : Nat := (floatBits .mul .f64 (d b) 4643176031446892544).getD 0
def s (b : Nat) : Nat := (floatBits .sub .f64 (m b) (floatOfInt .f64 (b : Int))).getD 0
def a (b : Nat) : Nat := s b &&& 9223372036854775807

theorem quo (b : Nat) (h : b < 256) : floatBits .quo .f32 (floatOfInt .f32 (b : Int)) 1132396544 = some (q b) := by
  have all : ∀ b : Fin 256, floatBits .quo .f32 (floatOfInt .f32 (b.val : Int)) 1132396544 = some (q b.val) := by decide +kernel
  exact all ⟨b, h⟩
theorem wide (b : Nat) (h : b < 256) : floatToFloatBits .f32 (q b) .f64 = some (d b) := by
  have all : ∀ b : Fin 256, floatToFloatBits .f32 (q b.val) .f64 = some (d b.val) := by decide +kernel
  exact all ⟨b, h⟩
theorem mul (b : Nat) (h : b < 256) : floatBits .mul .f64 (d b) 4643176031446892544 = some (m b) := by
  have all : ∀ b : Fin 256, floatBits .mul .f64 (d b.val) 4643176031446892544 = some (m b.val) := by decide +kernel
  exact all ⟨b, h⟩
theorem sub (b : Nat) (h : b < 256) : floatBits .sub .f64 (m b) (floatOfInt .f64 (b : Int)) = some (s b) := by
  have all : ∀ b : Fin 256, floatBits .sub .f64 (m b.val) (floatOfInt .f64 (b.val : Int)) = some (s b.val) := by decide +kernel
  exact all ⟨b, h⟩
theorem fits (b : Nat) (h : b < 256) : s b < 18446744073709551616 := by
  have all : ∀ b : Fin 256, s b.val < 18446744073709551616 := by decide +kernel
  exact all ⟨b, h⟩
theorem less (b : Nat) (h : b < 256) : (FloatKind.f64.format.order (a b) 4562254508917369340 == some .lt) = true := by
  have all : ∀ b : Fin 256, (FloatKind.f64.format.order (a b.val) 4562254508917369340 == some .lt) = true := by decide +kernel
  exact all ⟨b, h⟩
theorem same (b : Nat) (h : b < 256) : (FloatKind.f64.format.order (d b) (d b) == some .eq) = true := by
  have all : ∀ b : Fin 256, (FloatKind.f64.format.order (d b.val) (d b.val) == some .eq) = true := by decide +kernel
  exact all ⟨b, h⟩
end Go.Proofs.YteghpgmjenlpaaaDoor.By
