/-
  FnLiteralText: bytes under a slice; unicode/utf8.word at them.
-/
import Derived.Test.YtcohlcijgfdanaaDoorEdg
import Derived.Shelf.Unicode.WordAny
import Derived.Shelf.Unicode.DecodeAny
import Derived.Lib.ValidAsc
import Derived.Laws.BitsAllLaws
import Derived.Deep.LoopGhost
import Derived.Deep.DeepMust
import Derived.Deep.DeepBigQuietO
import Derived.Deep.CutBlock
import Derived.Deep.DeepCutAuto
namespace Go.Proofs.YtcohlcijgfdanaaDoor.lt
open Go.RowKit Go.Shelf Go.Lib

/-- The bytes that lie from an address on. -/
def Vw (W : World) (g o : Nat) (t : ByteArray) : Prop := ∀ j (h : j < t.size), W.cell? ⟨g, o + j, none⟩ = some (.int .u8 ((t[j]).toNat : Int))

theorem Vw.get {W : World} {g o : Nat} {t : ByteArray} (h : Vw W g o t) (j : Nat) (hj : j < t.size) (x : UInt8) (hx : t.get! j = x) : W.cell? ⟨g, o + j, none⟩ = some (.int .u8 (x.toNat : Int)) := by
  rw [h j hj, ← hx, Utf8W.get!_of_lt t j hj]

theorem Vw.below {a W : World} {g o B : Nat} {t : ByteArray} (h : Vw a g o t) (hb : Below B a W) (hg : g < B) : Vw W g o t := fun j hj =>
  (hb.cell (p := ⟨g, o + j, none⟩) hg).trans (h j hj)

theorem Vw.drew {W : World} {g o : Nat} {t : ByteArray} (h : Vw W g o t) (k : Nat) : Vw (W.drewN k) g o t := h

theorem ext_get (t : ByteArray) (k j : Nat) (h : j < (t.extract k t.size).size) (h2 : k + j < t.size) : (t.extract k t.size)[j] = t[k + j] := by
  have e : (t.extract k t.size).data.toList[j]? = t.data.toList[k + j]? := by rw [Lib.ext_list, List.getElem?_drop]
  rw [List.getElem?_eq_getElem (by rw [← Lib.size_eq]; exact h), List.getElem?_eq_getElem (by rw [← Lib.size_eq]; exact h2)] at e
  exact Option.some.inj e

theorem slice_k (g o : Nat) (t : ByteArray) (k : Nat) (hk : k ≤ t.size) (hm : t.size ≤ maxLen) : ∃ o', (∀ W : World, (Instr.slice 29 (.slice (some ⟨g, o, none⟩) t.size t.size) (some (.int .i64 (k : Int))) none none).run Tryd.prog W = .ok (.slice (some ⟨g, o', none⟩) (t.extract k t.size).size (t.extract k t.size).size) W) ∧ ∀ W, Vw W g o t → Vw W g o' (t.extract k t.size) := by
  have hz := Lib.ext_size t k
  have h0 : (k : Int) ≤ (t.size : Int) := by omega
  by_cases he : t.size = k
  · refine ⟨o, fun W => ?_, fun W _ j hj => by omega⟩
    rw [hz]
    simp [go_sem, he]
  · refine ⟨o + k, fun W => ?_, fun W hv j hj => ?_⟩
    · rw [hz]
      simp [go_sem, he, h0]
    · rw [ext_get t k j hj (by omega), Nat.add_assoc]
      exact hv (k + j) (by omega)

set_option maxHeartbeats 8000000 in
set_option maxRecDepth 100000 in
theorem word99 (g o c : Nat) (s : ByteArray) (hs : 8 ≤ s.size) (W : World) (hv : Vw W g o s) :
    Calls Tryd.prog 99 #[.slice (some ⟨g, o, none⟩) s.size c] W fun e w' => e = .returned (.int .u64 (Lib.leNat [s.get! 0, s.get! 1, s.get! 2, s.get! 3, s.get! 4, s.get! 5, s.get! 6, s.get! 7])) ∧ ∃ q, w' = W.drewN q := by
  obtain ⟨x0, hx0⟩ : ∃ x, s.get! 0 = x := ⟨_, rfl⟩
  have hs0 := hv.get 0 (by omega) x0 hx0
  have h0 : x0.toNat < 256 := x0.toNat_lt
  have p0 : 0 < s.size := by omega
  have q0 : (0 : Int) < (s.size : Int) := by omega
  obtain ⟨x1, hx1⟩ : ∃ x, s.get! 1 = x := ⟨_, rfl⟩
  have hs1 := hv.get 1 (by omega) x1 hx1
  have h1 : x1.toNat < 256 := x1.toNat_lt
  have p1 : 1 < s.size := by omega
  have q1 : (1 : Int) < (s.size : Int) := by omega
  obtain ⟨x2, hx2⟩ : ∃ x, s.get! 2 = x := ⟨_, rfl⟩
  have hs2 := hv.get 2 (by omega) x2 hx2
  have h2 : x2.toNat < 256 := x2.toNat_lt
  have p2 : 2 < s.size := by omega
  have q2 : (2 : Int) < (s.size : Int) := by omega
  obtain ⟨x3, hx3⟩ : ∃ x, s.get! 3 = x := ⟨_, rfl⟩
  have hs3 := hv.get 3 (by omega) x3 hx3
  have h3 : x3.toNat < 256 := x3.toNat_lt
  have p3 : 3 < s.size := by omega
  have q3 : (3 : Int) < (s.size : Int) := by omega
  obtain ⟨x4, hx4⟩ : ∃ x, s.get! 4 = x := ⟨_, rfl⟩
  have hs4 := hv.get 4 (by omega) x4 hx4
  have h4 : x4.toNat < 256 := x4.toNat_lt
  have p4 : 4 < s.size := by omega
  have q4 : (4 : Int) < (s.size : Int) := by omega
  obtain ⟨x5, hx5⟩ : ∃ x, s.get! 5 = x := ⟨_, rfl⟩
  have hs5 := hv.get 5 (by omega) x5 hx5
  have h5 : x5.toNat < 256 := x5.toNat_lt
  have p5 : 5 < s.size := by omega
  have q5 : (5 : Int) < (s.size : Int) := by omega
  obtain ⟨x6, hx6⟩ : ∃ x, s.get! 6 = x := ⟨_, rfl⟩
  have hs6 := hv.get 6 (by omega) x6 hx6
  have h6 : x6.toNat < 256 := x6.toNat_lt
  have p6 : 6 < s.size := by omega
  have q6 : (6 : Int) < (s.size : Int) := by omega
  obtain ⟨x7, hx7⟩ : ∃ x, s.get! 7 = x := ⟨_, rfl⟩
  have hs7 := hv.get 7 (by omega) x7 hx7
  have h7 : x7.toNat < 256 := x7.toNat_lt
  have p7 : 7 < s.size := by omega
  have q7 : (7 : Int) < (s.size : Int) := by omega
  rw [hx0, hx1, hx2, hx3, hx4, hx5, hx6, hx7]
  have HV : Hid (((Lib.leNat [x0, x1, x2, x3, x4, x5, x6, x7] : Nat) : Int) = (x0.toNat : Int) + (x1.toNat : Int) * 256 + (x2.toNat : Int) * 65536 + (x3.toNat : Int) * 16777216 + (x4.toNat : Int) * 4294967296 + (x5.toNat : Int) * 1099511627776 + (x6.toNat : Int) * 281474976710656 + (x7.toNat : Int) * 72057594037927936) := Lib.hid (by
    simp only [Lib.leNat]
    push_cast
    omega)
  rw [Nat.add_zero] at hs0
  have mixed : Tryd.prog.follows Departure.mixedOrders = true := rfl
  clear hv hx0 hx1 hx2 hx3 hx4 hx5 hx6 hx7
  go_enter Tryd.func99, Tryd.ntmps99
  go_wp2
  go_quiet_o (fail)
  go_wp2
  go_ret
  refine ⟨?_, _, rfl⟩
  simp (disch := omega) only [u64_wrap_id, u64_or8, u64_or16, u64_or24, u64_or32, u64_or40, u64_or48, u64_or56]
  rw [HV.out]
  rfl
end Go.Proofs.YtcohlcijgfdanaaDoor.lt
