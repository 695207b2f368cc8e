/-
  color.zzIndex and color.zzSplit at a text of seven bytes without a blank.
-/
import Derived.Test.YteghpgmjenlpaaaDoorHex
import Derived.WalkSpells
import Derived.WalkLawsBesides
import Derived.Laws.AppendOwn
import Derived.Laws.Append
namespace Go.Proofs.YteghpgmjenlpaaaDoor.col
open Go.RowKit

theorem dg_ne (k : Nat) (h : k < 16) : dg k ≠ 32 := by
  have all : ∀ k : Fin 16, dg k.val ≠ 32 := by decide +kernel
  exact all ⟨k, h⟩

/-- No blank in a text. -/
def NoBlank (s : ByteArray) : Prop := ∀ i (h : i < s.size), s[i] ≠ 32

theorem one_ne (s : ByteArray) (hs : NoBlank s) (k : Nat) (h : k < s.size) : ((s.extract k (k + 1)).toList == [32]) = false := by
  rw [beq_eq_false_iff_ne]
  intro he
  rw [ByteArray.toList_eq] at he
  have hz : (s.extract k (k + 1)).size = 1 := by rw [Lib.size_eq, he]; rfl
  have h1 : (s.extract k (k + 1)).data.toList[0]? = some ((s.extract k (k + 1))[0]'(by omega)) := by
    rw [List.getElem?_eq_getElem (by rw [← Lib.size_eq]; omega)]
    simp
    rw [ByteArray.getElem_extract]
    rfl
  rw [he] at h1
  have h2 := Option.some.inj h1
  rw [ByteArray.getElem_extract] at h2
  exact hs k h (by simpa using h2.symm)

theorem index20 (s : ByteArray) (hs : NoBlank s) (hz : s.size ≤ 1000) (w : World) :
    Calls Tryd.prog 20 #[.string s, .string ⟨#[32]⟩] w fun e w' => e = .returned (.int .i64 (-1)) ∧ w = w' := by
  have hone := one_ne s hs
  go_enter Tryd.func20, Tryd.ntmps20
  go_wp2
  go_loop [5] (fun i => ∃ k : Nat, k ≤ s.size ∧ i = .int .i64 k) (fun i => s.size - (intOf i).toNat)
  case atStart => exact ⟨0, Nat.zero_le _, rfl⟩
  case round =>
    obtain ⟨k, hk, rfl⟩ := hrel
    by_cases hlt : k < s.size
    · have h1 := hone k hlt
      have h3 : (k : Int) + 1 ≤ (s.size : Int) := by omega
      clear hone
      go_wp2
      go_round
      case rel => exact ⟨k + 1, by omega, by go_num⟩
      case measure => simp [intOf]; omega
    · have h3 : ¬ (k : Int) + 1 ≤ (s.size : Int) := by omega
      go_wp2
      go_ret
      exact ⟨rfl, rfl⟩

theorem split13 (s : ByteArray) (hs : NoBlank s) (hz : s.size ≤ 1000) (w : World) :
    Calls Tryd.prog 13 #[.string s, .string ⟨#[32]⟩] w fun e w' => ∃ b cap, e = .returned (.slice (some ⟨b, 0, none⟩) 1 cap) ∧ w'.cell? ⟨b, 0, none⟩ = some (.string s) ∧ Below w.heap.size w w' := by
  have c1 := Lib.hid fun w => index20 s hs hz w
  go_enter Tryd.func13, Tryd.ntmps13
  go_wp2
  go_loop [0, 5] (fun a b => a = .string s ∧ b = .slice none 0 0) (fun _ _ => 0)
  case atStart => exact ⟨rfl, rfl⟩
  case round =>
    obtain ⟨rfl, rfl⟩ := hrel
    go_wp2_with (go_at_call 20; refine (c1.out _).mono ?_; rintro e w1 ⟨rfl, rfl⟩)
    go_ret
    refine ⟨_, _, rfl, ?_, ?_⟩
    · simp [go_sem]
      rw [Array.getElem?_append_left (by simp)]
      rfl
    · exact (((Below.refl w.heap.size _).alloc (Nat.le_refl _) _).alloc (by simp) _).drew

theorem no_blank (r g b : Nat) (hr : r < 256) (hg : g < 256) (hb : b < 256) : NoBlank (text r g b) := by
  intro i hi
  have hz : i < 7 := hi
  match i, hz with
  | 0, _ => show (35 : UInt8) ≠ 32; decide
  | 1, _ => exact dg_ne _ (by omega)
  | 2, _ => exact dg_ne _ (by omega)
  | 3, _ => exact dg_ne _ (by omega)
  | 4, _ => exact dg_ne _ (by omega)
  | 5, _ => exact dg_ne _ (by omega)
  | 6, _ => exact dg_ne _ (by omega)

theorem parse10 (r g b : Nat) (hr : r < 256) (hg : g < 256) (hb : b < 256) (w : World) (ev : Value) (hE : w.cell? ⟨10, 0, none⟩ = some ev) :
    Calls Tryd.prog 10 #[.string (text r g b)] w fun e w' => e = .returned (.tuple #[.agg #[.float .f32 (By.q r), .float .f32 (By.q g), .float .f32 (By.q b)], .nilIface]) ∧ Below w.heap.size w w' := by
  have c2 := Lib.hid fun (w : World) (hE : w.cell? ⟨10, 0, none⟩ = some ev) => code15 r g b hr hg hb w ev hE
  have z := text_size r g b
  have z0 := text_head r g b (by rw [z]; decide)
  have c1 := Lib.hid fun w => split13 (text r g b) (no_blank r g b hr hg hb) (by rw [z]; decide) w
  have lt' : 10 < w.heap.size := World.block_lt_of_cell? _ _ hE
  have HE := Lib.hid hE
  clear hE
  generalize text r g b = t at c1 c2 z z0 ⊢
  go_enter Tryd.func10, Tryd.ntmps10
  go_wp2_with (first
    | (go_at_call 13; refine (c1.out _).mono ?_; rintro e w1 ⟨bb, cap, rfl, hcell, hbel⟩)
    | (go_at_call 15; refine (c2.out _ ((hbel.cell (p := ⟨10, 0, none⟩) (by simp; omega)).trans (((((Below.refl w.heap.size _).alloc (Nat.le_refl _) _).alloc (by simp) _).cell (p := ⟨10, 0, none⟩) lt').trans HE.out))).mono ?_
       rintro e w2 ⟨rfl, hbel2⟩
       have bel2 := hbel.trans (hbel2.mono hbel.size)
       have q0 : w2.cell? ⟨w.heap.size, 0, none⟩ = some (.float .f32 0) := (bel2.cell (p := ⟨w.heap.size, 0, none⟩) (by simp; omega)).trans (by simp [go_sem])
       have q1 : w2.cell? ⟨w.heap.size, 1, none⟩ = some (.float .f32 0) := (bel2.cell (p := ⟨w.heap.size, 1, none⟩) (by simp; omega)).trans (by simp [go_sem])
       have q2 : w2.cell? ⟨w.heap.size, 2, none⟩ = some (.float .f32 0) := (bel2.cell (p := ⟨w.heap.size, 2, none⟩) (by simp; omega)).trans (by simp [go_sem])
       have p0 : w2.frozen? ⟨w.heap.size, 0, none⟩ = false := (bel2.frozen (p := ⟨w.heap.size, 0, none⟩) (by simp; omega)).trans (by simp [go_sem])
       have p1 : w2.frozen? ⟨w.heap.size, 1, none⟩ = false := (bel2.frozen (p := ⟨w.heap.size, 1, none⟩) (by simp; omega)).trans (by simp [go_sem])
       have p2 : w2.frozen? ⟨w.heap.size, 2, none⟩ = false := (bel2.frozen (p := ⟨w.heap.size, 2, none⟩) (by simp; omega)).trans (by simp [go_sem])
       have HB := Lib.hid ((((Below.refl w.heap.size _).alloc (Nat.le_refl _) _).alloc (by simp) _).trans (bel2.mono (by simp; omega)))
       clear bel2 hbel hbel2))
  refine bodyPost_ret (v := .tuple #[.agg #[.float .f32 (By.q r), .float .f32 (By.q g), .float .f32 (By.q b)], .nilIface]) (by simp [results, Tryd.results10, go_sem, q0, q1, q2]) rfl ⟨rfl, ?_⟩
  exact (((HB.out.setCell (p := ⟨w.heap.size, 0, none⟩) (Nat.le_refl _) _).setCell (p := ⟨w.heap.size, 1, none⟩) (Nat.le_refl _) _).setCell (p := ⟨w.heap.size, 2, none⟩) (Nat.le_refl _) _)
end Go.Proofs.YteghpgmjenlpaaaDoor.col
