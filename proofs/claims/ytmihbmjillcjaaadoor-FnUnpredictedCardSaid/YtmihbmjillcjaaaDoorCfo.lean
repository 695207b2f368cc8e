/-
  The parameters of spec.Unpredict and of impl.Unpredicted, and the ends of reading.
-/
import Derived.Test.YtmihbmjillcjaaaDoorFit
import Derived.Test.YtmihbmjillcjaaaDoorLeq
import Derived.Test.YtmihbmjillcjaaaDoorUna8
import Derived.Test.YtmihbmjillcjaaaDoorRows
import Derived.Stop.LaidErr
import Derived.OpenShut
import Derived.ShutString
import Derived.LaidMore
import Derived.ChangeSlices
namespace Go.Proofs.YtmihbmjillcjaaaDoor.up
set_option linter.unusedVariables false
set_option linter.unusedSimpArgs false
open Go.RowKit

/-- The two ends of reading, as the variables hold them. -/
def Ends (w : World) : Prop := ∃ ea eu : Addr, w.cell? ⟨0, 0, none⟩ = some (.iface 86 (.pointer (some ea))) ∧ w.cell? ⟨2, 0, none⟩ = some (.iface 86 (.pointer (some eu))) ∧ Ptr w ea ∧ Ptr w eu
theorem Ends.kept {w w' : World} {L : List Nat} (h : Ends w) (k : Kept L w w') (hL : ∀ x ∈ L, w.heap.size ≤ x) : Ends w' := by
  obtain ⟨ea, eu, h1, h2, h3, h4⟩ := h
  refine ⟨ea, eu, k.cell h1 (fun e => ?_), k.cell h2 (fun e => ?_), h3.kept k (fun e => ?_), h4.kept k (fun e => ?_)⟩
  · have := hL _ e; have := World.block_lt_of_cell? _ _ h1; omega
  · have := hL _ e; have := World.block_lt_of_cell? _ _ h2; omega
  · have := hL _ e; have := h3.lt; omega
  · have := hL _ e; have := h4.lt; omega
theorem Ends.below {w w' : World} (h : Ends w) (k : Below w.heap.size w w') : Ends w' := h.kept (Kept.of_below k []) (by simp)

/-- The three bytes that the law tries first. -/
def z3 : Nat → Int := fun i => if i = 0 then 2 else if i = 1 then 1 else if i = 2 then 2 else 0
theorem z3_bytes : Bytes z3 := ⟨fun i => by unfold z3; (repeat' split) <;> omega, fun i => by unfold z3; (repeat' split) <;> omega⟩
def z2 : Nat → Int := fun i => if i = 0 then 1 else 2
theorem z3_out : ∀ i, i < 2 → outF z3 1 2 1 1 i = z2 i := by
  intro i hi
  have hr : ∀ j, raw z3 1 2 0 j = z3 (1 + j) := fun j => by unfold raw; simp
  rw [outF_eq z3 1 2 1 (by omega) 1 i (by omega)]
  have ht : tg z3 1 2 0 = 2 := by simp [tg, z3]
  rcases (show i = 0 ∨ i = 1 by omega) with rfl | rfl
  · rw [show 0 / 2 = 0 by omega, show 0 % 2 = 0 by omega, ro_eq, ht, pv_near (by omega), hr]
    simp [pred, ab, z3, z2]
  · rw [show 1 / 2 = 0 by omega, show 1 % 2 = 1 by omega, ro_eq, ht, pv_far (by omega) (by omega), hr]
    simp [pred, ab, z3, z2]
theorem env3 : Env 12 1 8 2 2 1 1 z3 3 1 where
  CF := ⟨.inl ⟨rfl, by omega⟩, by omega, by omega, by omega, by omega, by omega, by omega, by omega⟩
  hp := by simp
  hbits := by simp
  hsz := by decide
  hbpp := by decide
  hz := z3_bytes
  htag := fun r hr => by
    obtain rfl : r = 0 := by omega
    refine ⟨fun _ => ?_, fun h => by omega⟩
    have ht : tg z3 1 2 0 = 2 := by simp [tg, z3]
    rw [ht]
    exact .inr (.inr (.inl rfl))
  hN := rfl
  hN2 := by omega

theorem cfg_of (p colors bits columns : Int) (hF : Fits p colors bits columns) (h1 : p ≠ 1) (h2 : p = 2 → bits = 8) : ∃ c d size bpp h : Nat, colors = (c : Int) ∧ columns = (d : Int) ∧ Cfg p c d size bpp h ∧ bits ∈ [(1 : Int), 2, 4, 8, 16] ∧ p ∈ [(2 : Int), 10, 11, 12, 13, 14, 15] ∧ (bits * c * d + 7) / 8 = (size : Int) ∧ (bits * c + 7) / 8 = (bpp : Int) ∧
    ∀ z, Bytes z → ∀ N v w, DataV w v N z → N ≤ 100000 → Calls Tryd.prog 7 #[v, .agg #[.int .i64 p, .int .i64 colors, .int .i64 bits, .int .i64 columns, .int .i64 0]] w fun e w' => ∃ x s, e = .returned (.tuple #[x, .int .i64 s]) ∧ Hid (Told w w' size bpp h z N x s) := by
  obtain ⟨hp, hc1, hc2, hb, hd1, hd2⟩ := hF
  obtain ⟨c, rfl⟩ : ∃ c : Nat, colors = (c : Int) := ⟨colors.toNat, by omega⟩
  obtain ⟨d, rfl⟩ : ∃ d : Nat, columns = (d : Int) := ⟨columns.toNat, by omega⟩
  by_cases e : p = 2
  · obtain rfl := h2 e
    subst e
    have hB0 : ((8 : Int) * c * d) = 8 * ((d * c : Nat) : Int) := by push_cast; rw [Int.mul_assoc, Int.mul_comm (c : Int)]
    have hle : d * c ≤ 1000 * 8 := Nat.mul_le_mul (by omega) (by omega)
    have hge : 1 * c ≤ d * c := Nat.mul_le_mul_right c (by omega)
    have hsz : ((8 : Int) * c * d + 7) / 8 = ((d * c : Nat) : Int) := by rw [hB0]; omega
    have CF : Cfg 2 c d (d * c) c 0 := ⟨.inr ⟨rfl, rfl, rfl, rfl⟩, by omega, by omega, by omega, by omega, by omega, by omega, by omega⟩
    exact ⟨c, d, d * c, c, 0, rfl, rfl, CF, hb, by simp, hsz, by omega, fun z hz N v w hD hN => spec7_tiff c d (d * c) 0 CF hsz z hz N v w hD hN⟩
  · have hA0 : (1 : Int) ≤ bits * c ∧ bits * c ≤ 128 := by
      have hb' := hb
      simp at hb'
      rcases hb' with rfl | rfl | rfl | rfl | rfl <;> constructor <;> omega
    have hB1 : bits * c * 1 ≤ bits * c * (d : Int) := Int.mul_le_mul_of_nonneg_left (by omega) (by omega)
    have hB2 : bits * c * (d : Int) ≤ 128 * 1000 := Int.mul_le_mul hA0.2 (by omega) (by omega) (by omega)
    obtain ⟨size, hs⟩ : ∃ size : Nat, (bits * c * d + 7) / 8 = (size : Int) := ⟨((bits * c * d + 7) / 8).toNat, by omega⟩
    obtain ⟨bpp, hbp⟩ : ∃ bpp : Nat, (bits * c + 7) / 8 = (bpp : Int) := ⟨((bits * c + 7) / 8).toNat, by omega⟩
    have CF : Cfg p c d size bpp 1 := ⟨.inl ⟨rfl, e⟩, by omega, by omega, by omega, by omega, by omega, by omega, by omega⟩
    exact ⟨c, d, size, bpp, 1, rfl, rfl, CF, hb, by simp; omega, hs, hbp, fun z hz N v w hD hN => spec7_png p c bits d size bpp 0 CF h1 e hb hs hbp z hz N v w hD hN⟩


set_option maxRecDepth 100000 in
open Go.ChangeShapes Go.WideShapes in
/-- An argument []byte reads as bytes. -/
theorem open_data {H : Type} {enc : TypeId × Value → H} {W : World} {b0 : Nat} {v : Value} {d : DataW H} {ps : List MemPlace} (hval : Value.okWide Tryd.prog W .any b0 22 v) (hd : DataW.Trod enc Tryd.prog W 0 (fun _ => true) true 22 v d ps) : ∃ (N : Nat) (z : Nat → Int), Bytes z ∧ DataV W v N z := by
  obtain ⟨a0, len0, cap0, rfl⟩ := okWide_slice Tryd.underlying22 hval
  obtain ⟨fuel, hf⟩ := hd
  rcases open_ints Tryd.underlying22 Tryd.underlying5 (by kernel_rfl) hf with ⟨h, _⟩ | ⟨a, len, cap, zs, h, _, hl, hm, hlen, _, hc, hw⟩
  · simp [Value.cells] at h
    obtain ⟨rfl, rfl, rfl⟩ := h
    exact ⟨0, fun _ => 0, ⟨fun _ => by omega, fun _ => by omega⟩, .inl ⟨rfl, rfl⟩⟩
  · simp [Value.cells] at h
    obtain ⟨rfl, rfl, rfl⟩ := h
    rw [if_pos rfl] at hlen
    have hb : a.block < W.heap.size := by
      simp only [Value.okWide, Tryd.underlying22, Cell.okWide, Cell.ok] at hval
      have h3 := hval.2.2
      simp only [World.has] at h3
      obtain ⟨_, _, row, cells, hsh, _⟩ := h3
      rcases Nat.lt_or_ge a.block W.heap.size with h | h
      · exact h
      · exfalso
        have e : W.heap[a.block]? = none := by simp; omega
        simp [World.shape?, e] at hsh
    have hx : ∀ i, 0 ≤ zs.getD i 0 ∧ zs.getD i 0 ≤ 255 := fun i => by
      rw [List.getD_eq_getElem?_getD]
      exact range_u8 hw i
    exact ⟨len0, fun i => zs.getD i 0, ⟨fun i => (hx i).1, fun i => (hx i).2⟩, .inr ⟨a, cap0, rfl, hl, hm, hb, fun i hi => hc i (by omega)⟩⟩
end Go.Proofs.YtmihbmjillcjaaaDoor.up
