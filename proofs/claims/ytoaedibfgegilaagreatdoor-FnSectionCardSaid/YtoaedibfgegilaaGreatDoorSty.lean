/-
  spec.EntryText.
-/
import Derived.Test.YtoaedibfgegilaaGreatDoorStp
import Derived.Deep.RegionLaw
import Derived.Deep.RegionWith
namespace Go.Proofs.YtoaedibfgegilaaGreatDoor.st
open Go.RowKit
set_option linter.unusedVariables false
set_option linter.unusedSimpArgs false

theorem cellK {w w' : World} {a : Addr} {v : Value} (h : w.cell? a = some v) (k : Kept [] w w') : w'.cell? a = some v := k.cell h (by simp)
theorem cellA {w w' : World} {a : Addr} {v : Value} {o : Obj} (h : w.cell? a = some v) (k : Kept [] (w.alloc o) w') : w'.cell? a = some v := k.cell (((Kept.refl [] w).alloc o).cell h (by simp)) (by simp)
theorem cellN {w w' : World} {c : Array Value} {t : TypeId} (k : Kept [] (w.alloc (.cells c t)) w') (i : Nat) : w'.cell? ⟨w.heap.size, i, none⟩ = c[i]? := by
  have hb := (k.block w.heap.size (by simp) (by simp)).trans (heap_alloc_new w (.cells c t))
  exact cellsOf hb i

set_option maxHeartbeats 8000000 in
set_option maxRecDepth 100000 in
theorem entry10 (num off gen st ix : Int) (fr cm hf hh : Bool) (z : Nat) (w : World) (hz : z ≤ 2) (ho : Ok ⟨num, fr, cm, off, gen, hf, hh, st, ix⟩) (hT : Tab w) : Calls Tryz.prog 10 #[.agg #[.int .i64 num, .bool fr, .bool cm, .int .i64 off, .int .i64 gen, .bool hf, .bool hh, .int .i64 st, .int .i64 ix], .int .i64 (z : Int)] w fun e w' => e = .returned (.string (str (entL ⟨num, fr, cm, off, gen, hf, hh, st, ix⟩ z))) ∧ Kept [] w w' := by
  have o0 : 0 ≤ off := ho.off0
  have o1 : off ≤ 9999999999 := ho.off1
  have g0 : 0 ≤ gen := ho.gen0
  have g1 : gen ≤ 65535 := ho.gen1
  have HA : Hid (∀ V, Kept [] w V → Calls Tryz.prog 16 #[.int .i64 off, .int .i64 10] V fun e w' => e = .returned (.string (str (pad off 10))) ∧ Kept [] V w') := Lib.hid fun V hV => padded16 off 10 o0 (by omega) (by omega) V (hT.kept hV)
  have HG : Hid (∀ V, Kept [] w V → Calls Tryz.prog 16 #[.int .i64 gen, .int .i64 5] V fun e w' => e = .returned (.string (str (pad gen 5))) ∧ Kept [] V w') := Lib.hid fun V hV => padded16 gen 5 g0 (by omega) (by omega) V (hT.kept hV)
  have sA : (str (pad off 10)).size = 10 := by rw [str_size]; exact pad_length o0 10 (by omega) (by simp; omega)
  have sG : (str (pad gen 5)).size = 5 := by rw [str_size]; exact pad_length g0 5 (by omega) (by simp; omega)
  have HE : Hid ((((((str (pad off 10) ++ ⟨#[32]⟩) ++ str (pad gen 5)) ++ ⟨#[32]⟩) ++ str [if fr then 102 else 110]) ++ str (endB z)) = str (entL ⟨num, fr, cm, off, gen, hf, hh, st, ix⟩ z)) := Lib.hid (by
    rw [show (⟨#[32]⟩ : ByteArray) = str [32] from rfl, str_cat, str_cat, str_cat, str_cat, str_cat]
    rfl)
  obtain ⟨R, hR⟩ : ∃ R, str (entL ⟨num, fr, cm, off, gen, hf, hh, st, ix⟩ z) = R := ⟨_, rfl⟩
  rw [hR] at HE ⊢
  obtain ⟨A, hA⟩ : ∃ A, str (pad off 10) = A := ⟨_, rfl⟩
  obtain ⟨G, hG⟩ : ∃ G, str (pad gen 5) = G := ⟨_, rfl⟩
  rw [hA] at HA HE sA
  rw [hG] at HG HE sG
  clear hR hA hG ho hT o0 o1 g0 g1
  have sz1 : ∀ c : UInt8, (⟨#[c]⟩ : ByteArray).size = 1 := fun _ => rfl
  have y1 : (A ++ ⟨#[32]⟩).size = 11 := by simp [sA, sz1]
  have y2 : (A ++ ⟨#[32]⟩ ++ G).size = 16 := by simp [sA, sG, sz1]
  have y3 : (A ++ ⟨#[32]⟩ ++ G ++ ⟨#[32]⟩).size = 17 := by simp [sA, sG, sz1]
  have y4 : ∀ c : UInt8, (A ++ ⟨#[32]⟩ ++ G ++ ⟨#[32]⟩ ++ ⟨#[c]⟩).size = 18 := fun c => by simp [sA, sG, sz1]
  have y4f := y4 102
  have y4n := y4 110
  clear y4 sz1
  have kd : Hid (Kept [] w (w.alloc (.cells #[.int .i64 num, .bool fr, .bool cm, .int .i64 off, .int .i64 gen, .bool hf, .bool hh, .int .i64 st, .int .i64 ix] 32)).drew) := Lib.hid ((Kept.refl [] w).alloc _).drew
  obtain ⟨V, hV⟩ : ∃ V, w.alloc (.cells #[.int .i64 num, .bool fr, .bool cm, .int .i64 off, .int .i64 gen, .bool hf, .bool hh, .int .i64 st, .int .i64 ix] 32) = V := ⟨_, rfl⟩
  have hb : V.heap[w.heap.size]? = some (.cells #[.int .i64 num, .bool fr, .bool cm, .int .i64 off, .int .i64 gen, .bool hf, .bool hh, .int .i64 st, .int .i64 ix] 32 (0, 0)) := by rw [← hV]; exact heap_alloc_new w _
  have c1 : V.cell? ⟨w.heap.size, 1, none⟩ = some (.bool fr) := cellsOf hb 1
  have c3 : V.cell? ⟨w.heap.size, 3, none⟩ = some (.int .i64 off) := cellsOf hb 3
  have c4 : V.cell? ⟨w.heap.size, 4, none⟩ = some (.int .i64 gen) := cellsOf hb 4
  rw [hV] at kd
  have c4d : V.drew.cell? ⟨w.heap.size, 4, none⟩ = some (.int .i64 gen) := by simpa using c4
  have hVs : V.heap.size = w.heap.size + 1 := by rw [← hV]; simp
  clear hb
  have hz3 : z = 0 ∨ z = 1 ∨ z = 2 := by omega
  have kd0 : Hid (Kept [] w V) := Lib.hid (by rw [← hV]; exact (Kept.refl [] w).alloc _)
  have zi : (z : Int) < 3 := by omega
  have HS : Hid (∀ U : World, (U.alloc (.cells #[.string ⟨#[32, 13]⟩, .string ⟨#[32, 10]⟩, .string ⟨#[13, 10]⟩] 9)).cell? ⟨U.heap.size, z, none⟩ = some (.string (str (endB z)))) := Lib.hid fun U => by
    rw [cellsOf (heap_alloc_new U _) z]
    rcases hz3 with rfl | rfl | rfl <;> rfl
  have sE : (str (endB z)).size = 2 := by rcases hz3 with rfl | rfl | rfl <;> rfl
  obtain ⟨E, hE⟩ : ∃ E, str (endB z) = E := ⟨_, rfl⟩
  rw [hE] at HS HE sE
  obtain ⟨W1, hW1⟩ : ∃ W1, (V.alloc (.cells #[.string ⟨#[32, 13]⟩, .string ⟨#[32, 10]⟩, .string ⟨#[13, 10]⟩] 9)).drew = W1 := ⟨_, rfl⟩
  have kVW : Kept [] V W1 := by rw [← hW1]; exact ((Kept.refl [] V).alloc _).drew
  have w3 := cellK c3 kVW
  have w4 := cellK c4 kVW
  have wE : W1.cell? ⟨w.heap.size + 1, z, none⟩ = some (.string E) := by rw [← hW1, ← hVs]; exact HS.out V
  have kd1 := Lib.hid (kd0.out.trans kVW)
  have hEn : Hid (endB z = endB z) := Lib.hid rfl
  clear hz hz3 hE kVW
  cases fr
  all_goals
    go_enter Tryz.func10, Tryz.ntmps10
    go_wp2_with fail
    try rw [hV]
    clear hV
    go_region_law (first
      | (go_simp; go_at_call 16; (with_reducible refine (HA.out _ (by first | exact kd.out | exact kd1.out)).mono ?_); rintro e V1 ⟨rfl, hk⟩; (have HK1 := Lib.hid ((show Kept [] w _ from by first | exact kd.out | exact kd1.out).trans hk)); (have c41 : V1.cell? ⟨w.heap.size, 4, none⟩ = some (.int .i64 gen) := by first | exact cellK c4d hk | exact cellK w4 hk); (have c42 := ((Kept.refl [] V1).alloc (.cells #[.string ⟨#[32, 13]⟩, .string ⟨#[32, 10]⟩, .string ⟨#[13, 10]⟩] 9)).cell c41 (by simp)); (have u1 := HS.out V1); (try have v1 := cellK wE hk); clear hk)
      | (go_simp; go_at_call 16; (with_reducible refine (HG.out _ (by first | exact HK1.out | exact HK1.out.alloc _)).mono ?_); rintro e V2 ⟨rfl, hk2⟩; (have HK2 := Lib.hid ((show Kept [] w _ from by first | exact HK1.out | exact HK1.out.alloc _).trans hk2)); (have u2 := HS.out V2); (try have v2 := cellK v1 hk2); (try have v3 := cellK u1 hk2); clear hk2)
      | fail)
    all_goals
      go_wp2_with fail
      go_ret
      exact ⟨by rw [← HE.out]; rfl, by first | exact HK2.out | exact HK2.out.alloc _⟩
end Go.Proofs.YtoaedibfgegilaaGreatDoor.st
