/-
  color.NewSimpleColorForHexCode: the walk at a text of seven bytes, six of them digits.
-/
import Derived.Test.YteghpgmjenlpaaaDoorCol
import Derived.Test.YteghpgmjenlpaaaDoorShelf
namespace Go.Proofs.YteghpgmjenlpaaaDoor.col
open Go.RowKit Go.Lib

/-- A digit's byte, as the law writes it. -/
def dg (k : Nat) : UInt8 := if k < 10 then UInt8.ofNat (48 + k) else UInt8.ofNat (55 + k)
theorem v_dg (k : Nat) (h : k < 16) : Hx.v (dg k) = k := by
  have all : ∀ k : Fin 16, Hx.v (dg k.val) = k.val := by decide +kernel
  exact all ⟨k, h⟩

theorem pair (p : Nat) (h : p < 256) (t : List UInt8) : Hx.decode (dg (p / 16) :: dg (p % 16) :: t) = (UInt8.ofNat p :: (Hx.decode t).1, (Hx.decode t).2) := by
  rw [Hx.decode_two, v_dg _ (by omega), v_dg _ (by omega), if_neg (by omega), if_neg (by omega), show p / 16 * 16 + p % 16 = p by omega]

/-- The six digits of a colour. -/
def six (r g b : Nat) : List UInt8 := [dg (r / 16), dg (r % 16), dg (g / 16), dg (g % 16), dg (b / 16), dg (b % 16)]
theorem dec (r g b : Nat) (hr : r < 256) (hg : g < 256) (hb : b < 256) : Hx.decode (six r g b) = ([UInt8.ofNat r, UInt8.ofNat g, UInt8.ofNat b], .ok) := by
  unfold six
  rw [pair r hr, pair g hg, pair b hb, Hx.decode_nil]

def text (r g b : Nat) : ByteArray := ⟨#[35, dg (r / 16), dg (r % 16), dg (g / 16), dg (g % 16), dg (b / 16), dg (b % 16)]⟩
theorem text_tail (r g b : Nat) : ((text r g b).extract 1 7).data.toList = six r g b := rfl
theorem text_size (r g b : Nat) : (text r g b).size = 7 := rfl
theorem text_head (r g b : Nat) (h : 0 < (text r g b).size) : (text r g b)[0] = 35 := rfl

theorem decoded (r g b : Nat) (hr : r < 256) (hg : g < 256) (hb : b < 256) (w : World) (ev : Value) (hE : w.cell? ⟨10, 0, none⟩ = some ev) :
    Calls Tryd.prog 21 #[.string ((text r g b).extract 1 7)] w fun e w' => e = .returned (.tuple #[.slice (some ⟨w.heap.size, 0, none⟩) 3 3, .nilIface]) ∧ Below w.heap.size w w' ∧
      w'.cell? ⟨w.heap.size, 0, none⟩ = some (.int .u8 (r : Int)) ∧ w'.cell? ⟨w.heap.size, 1, none⟩ = some (.int .u8 (g : Int)) ∧ w'.cell? ⟨w.heap.size, 2, none⟩ = some (.int .u8 (b : Int)) := by
  have hz : ((text r g b).extract 1 7).size = 6 := rfl
  refine (Tryd.hex_DecodeString _ w ev hE (by rw [hz]; decide)).mono ?_
  rintro e w' ⟨rfl, hrow, hbel⟩
  rw [text_tail, dec r g b hr hg hb, hz] at *
  refine ⟨rfl, hbel, ?_, ?_, ?_⟩
  · rw [hrow.cell (by decide)]
    simp [Hx.rowP]; omega
  · rw [hrow.cell (by decide)]
    simp [Hx.rowP]; omega
  · rw [hrow.cell (by decide)]
    simp [Hx.rowP]; omega

theorem code15 (r g b : Nat) (hr : r < 256) (hg : g < 256) (hb : b < 256) (w : World) (ev : Value) (hE : w.cell? ⟨10, 0, none⟩ = some ev) :
    Calls Tryd.prog 15 #[.string (text r g b)] w fun e w' => e = .returned (.tuple #[.agg #[.float .f32 (By.q r), .float .f32 (By.q g), .float .f32 (By.q b)], .nilIface]) ∧ Below w.heap.size w w' := by
  have c1 := Lib.hid fun (w : World) (hE : w.cell? ⟨10, 0, none⟩ = some ev) => decoded r g b hr hg hb w ev hE
  have z := text_size r g b
  have z0 := text_head r g b (by rw [z]; decide)
  have k1 := fun t w => run_float_arith (P := Tryd.prog) w .quo t .f32 _ _ _ (By.quo r hr)
  have k2 := fun t w => run_float_arith (P := Tryd.prog) w .quo t .f32 _ _ _ (By.quo g hg)
  have k3 := fun t w => run_float_arith (P := Tryd.prog) w .quo t .f32 _ _ _ (By.quo b hb)
  have lt := World.block_lt_of_cell? _ _ hE
  have HE := Lib.hid hE
  clear hE
  generalize text r g b = t at c1 z z0 ⊢
  have lt' : 10 < w.heap.size := lt
  go_enter Tryd.func15, Tryd.ntmps15
  go_wp2_with (go_at_call 21; refine (c1.out _ (((((Below.refl w.heap.size _).alloc (Nat.le_refl _) _).alloc (by simp) _).cell (p := ⟨10, 0, none⟩) lt').trans HE.out)).mono ?_; rintro e w1 ⟨rfl, hbel, h0, h1, h2⟩)
  have q0 : w1.cell? ⟨w.heap.size, 0, none⟩ = some (.float .f32 0) := (hbel.cell (p := ⟨w.heap.size, 0, none⟩) (by simp; omega)).trans (by simp [go_sem])
  have q1 : w1.cell? ⟨w.heap.size, 1, none⟩ = some (.float .f32 0) := (hbel.cell (p := ⟨w.heap.size, 1, none⟩) (by simp; omega)).trans (by simp [go_sem])
  have q2 : w1.cell? ⟨w.heap.size, 2, none⟩ = some (.float .f32 0) := (hbel.cell (p := ⟨w.heap.size, 2, none⟩) (by simp; omega)).trans (by simp [go_sem])
  have p0 : w1.frozen? ⟨w.heap.size, 0, none⟩ = false := (hbel.frozen (p := ⟨w.heap.size, 0, none⟩) (by simp; omega)).trans (by simp [go_sem])
  have p1 : w1.frozen? ⟨w.heap.size, 1, none⟩ = false := (hbel.frozen (p := ⟨w.heap.size, 1, none⟩) (by simp; omega)).trans (by simp [go_sem])
  have p2 : w1.frozen? ⟨w.heap.size, 2, none⟩ = false := (hbel.frozen (p := ⟨w.heap.size, 2, none⟩) (by simp; omega)).trans (by simp [go_sem])
  have bel := ((((Below.refl w.heap.size _).alloc (Nat.le_refl _) _).alloc (by simp) _).trans (hbel.mono (by simp; omega)))
  simp only [World.size_alloc] at h0 h1 h2
  have HB := Lib.hid bel
  clear hbel bel
  go_region
  go_wp2
  refine bodyPost_ret (v := .tuple #[.agg #[.float .f32 (By.q r), .float .f32 (By.q g), .float .f32 (By.q b)], .nilIface]) (by simp [results, Tryd.results15, go_sem, q0, q1, q2]) rfl ⟨rfl, ?_⟩
  exact (((HB.out.setCell (p := ⟨w.heap.size, 0, none⟩) (Nat.le_refl _) _).setCell (p := ⟨w.heap.size, 1, none⟩) (Nat.le_refl _) _).setCell (p := ⟨w.heap.size, 2, none⟩) (Nat.le_refl _) _).drew
end Go.Proofs.YteghpgmjenlpaaaDoor.col
