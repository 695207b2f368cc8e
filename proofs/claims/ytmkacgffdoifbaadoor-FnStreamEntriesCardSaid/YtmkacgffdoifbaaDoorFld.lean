/-
  spec.field, and the reader's own reading of it: big-endian numbers.
-/
import Derived.Test.YtmkacgffdoifbaaDoorSea
import Derived.Laws.MakeOwn
import Derived.Laws.OwnMore
namespace Go.Proofs.YtmkacgffdoifbaaDoor.se
open Go.RowKit Go.MapKept Go.ChangeMaps
set_option linter.unusedVariables false
set_option linter.unusedSimpArgs false

/-- A number as so many bytes, the highest first. -/
def fb (n : Nat) : Nat → List Nat
  | 0 => []
  | k + 1 => fb (n / 256) k ++ [n % 256]
theorem fb_length (n k : Nat) : (fb n k).length = k := by
  induction k generalizing n with
  | zero => rfl
  | succ k ih => simp [fb, ih]
def be (l : List Nat) : Nat := l.foldl (fun a b => a * 256 + b) 0
theorem be_snoc (l : List Nat) (b : Nat) : be (l ++ [b]) = be l * 256 + b := by simp [be]
theorem be_fb (n k : Nat) (h : n < 256 ^ k) : be (fb n k) = n := by
  induction k generalizing n with
  | zero => simp [fb, be]; omega
  | succ k ih =>
    rw [fb, be_snoc, ih (n / 256) (by rw [Nat.pow_succ] at h; omega)]
    omega
theorem fb_byte {n k : Nat} : ∀ b ∈ fb n k, b < 256 := by
  induction k generalizing n with
  | zero => simp [fb]
  | succ k ih =>
    intro b hb
    simp [fb] at hb
    rcases hb with hb | rfl
    · exact ih b hb
    · omega
/-- Bytes as cells. -/
def bv (l : List Nat) : List Value := l.map fun (b : Nat) => Value.int .u8 (b : Int)
theorem bv_append (a b : List Nat) : bv (a ++ b) = bv a ++ bv b := by simp [bv]
theorem bv_length (l : List Nat) : (bv l).length = l.length := by simp [bv]
theorem bv_get {l : List Nat} {i : Nat} (h : i < l.length) : (bv l)[i]? = some (.int .u8 ((l.getD i 0 : Nat) : Int)) := by
  simp [bv, List.getElem?_map, List.getElem?_eq_getElem h, List.getD_eq_getElem?_getD]

theorem info5f : (Tryd.prog.info? 5).map (fun i => (i.zero, i.size, i.bytes)) = some (some (.int .u8 0), 1, 1) := by kernel_rfl

/-- How far field is. -/
structure FSt (w wr : World) (n0 width j m : Nat) (S : List Nat) : Prop where
  blk : wr.heap[w.heap.size]? = some (.cells ⟨bv (List.replicate j 0 ++ S)⟩ 5 (0, 0))
  rest : fb n0 width = fb m j ++ S
  below : Below w.heap.size w wr
  size : wr.heap.size = w.heap.size + 1
theorem FSt.round {w wr : World} {n0 width j m : Nat} {S : List Nat} (h : FSt w wr n0 width (j + 1) m S) : FSt w (wr.setCell ⟨w.heap.size, j, none⟩ (.int .u8 ((m % 256 : Nat) : Int))) n0 width j (m / 256) (m % 256 :: S) := by
  refine ⟨?_, ?_, h.below.setCell (Nat.le_refl _) _, by simp [h.size]⟩
  · rw [heap_set h.blk]
    congr 2
    apply Array.ext'
    simp only [Array.toList_setIfInBounds]
    simp [bv, List.replicate_succ', List.set_append, List.length_replicate]
  · rw [h.rest, fb]
    simp

theorem make5 (w : World) (n : Nat) (h : n ≤ 6) : (Instr.makeSlice 27 (.int .i64 (n : Int)) (.int .i64 (n : Int))).run Tryd.prog w = .ok (.slice (some ⟨w.heap.size, 0, none⟩) n n) (w.alloc (.cells ⟨bv (List.replicate n 0)⟩ 5)) := by
  obtain ⟨i, hi, hz, hs, hb⟩ := info_parts info5f
  have := run_makeSlice (P := Tryd.prog) w 27 5 i _ Tryd.underlying27 hi hz .i64 .i64 (n : Int) (n : Int) (by omega) (by omega) (by rw [hs]; omega) (by rw [hb]; omega) (by omega)
  rw [this, hs]
  have e : madeCells (Value.int .u8 0).cells ((n : Int).toNat * 1) = ⟨bv (List.replicate n 0)⟩ := by
    apply Array.ext'
    rw [Int.toNat_natCast, Nat.mul_one, show (Value.int .u8 0).cells = #[.int .u8 0] from rfl, toList_madeCells_one]
    simp [bv]
  rw [e, Int.toNat_natCast]

def FieldE (w : World) (n width : Nat) (e : Ending) (w' : World) : Prop := e = .returned (.slice (some ⟨w.heap.size, 0, none⟩) width width) ∧ w'.heap[w.heap.size]? = some (.cells ⟨bv (fb n width)⟩ 5 (0, 0)) ∧ Below w.heap.size w w' ∧ w'.heap.size = w.heap.size + 1

set_option maxHeartbeats 1000000 in
set_option maxRecDepth 100000 in
theorem field8 (n width : Nat) (hw : width ≤ 6) (hn : n < 4611686018427387904) (w : World) : Calls Tryd.prog 8 #[.int .i64 (n : Int), .int .i64 (width : Int)] w fun e w' => FieldE w n width e w' := by
  have hmk := make5 w width hw
  have h0 : FSt w (w.alloc (.cells ⟨bv (List.replicate width 0)⟩ 5)) n width width n [] := ⟨by rw [List.append_nil]; exact heap_alloc_new w _, by simp, (Below.refl _ _).alloc (Nat.le_refl _) _, by simp⟩
  have H0 := Lib.hid h0
  generalize bv (List.replicate width 0) = cs at hmk H0
  clear h0
  go_enter Tryd.func8, Tryd.ntmps8
  go_wp2_with fail
  go_loopw [0, 6] (fun s i wr => ∃ (j m : Nat) (x : Int) (S : List Nat), s = .int .i64 (m : Int) ∧ i = .int .i64 x ∧ x = (j : Int) - 1 ∧ j ≤ width ∧ m < 4611686018427387904 ∧ Hid (FSt w wr n width j m S)) (fun _ i _ => (intOf i + 1).toNat)
  case atStart => exact ⟨width, n, _, _, rfl, rfl, by omega, by omega, hn, H0⟩
  case round =>
    obtain ⟨j, m, x, S, rfl, rfl, hx, hj, hm, HS⟩ := hrel
    by_cases hj0 : j = 0
    · subst hj0
      have hxn : ¬ (0 : Int) ≤ x := by omega
      clear hx
      go_wp2_with fail
      go_ret
      exact ⟨rfl, by rw [HS.out.blk, HS.out.rest]; simp [fb], HS.out.below, HS.out.size⟩
    · obtain ⟨k, rfl⟩ : ∃ k, j = k + 1 := ⟨j - 1, by omega⟩
      obtain ⟨y, hy⟩ : ∃ y : Int, y = (k : Int) - 1 := ⟨_, rfl⟩
      have hxx : x = (k : Int) := by omega
      subst hxx
      have HX := Lib.hid (And.intro hj (And.intro hm hy))
      have hkw : (k : Int) < (width : Int) := by omega
      have c0 : wr.cell? ⟨w.heap.size, k, none⟩ = some (.int .u8 0) := by
        rw [cellsOf HS.out.blk]
        simp [bv, List.getElem?_append_left]
      have f0 : wr.frozen? ⟨w.heap.size, k, none⟩ = false := frozenOf HS.out.blk k
      have hm2 : (m : Int) < 9223372036854775808 := by omega
      clear hx hj hj0 hm hy
      go_wp2_with fail
      go_roundw
      case rel =>
        refine ⟨k, m / 256, _, _, by push_cast; rfl, rfl, by omega, by have := HX.out.1; omega, by have := HX.out.2.1; omega, Lib.hid HS.out.round⟩
      case measure => simp [intOf]
end Go.Proofs.YtmkacgffdoifbaaDoor.se
