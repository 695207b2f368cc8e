/-
  The two sorts at rows of a call's own.
-/
import Derived.Test.YtoaedibfgegilaaGreatDoorSso
import Derived.Test.YtoaedibfgegilaaGreatDoorSer
namespace Go.Proofs.YtoaedibfgegilaaGreatDoor.st
open Go.RowKit Go.MapKept Go.ChangeMaps Go.Shelf Go.Lib Go.Sort
set_option linter.unusedVariables false
set_option linter.unusedSimpArgs false

theorem tiny25 (v : Value) (h : v = .slice none 0 0) (W : World) (Bs : Nat) : Calls Tryz.prog 25 #[.iface 22 v, .func (.func 26) #[] #[.pointer (some ⟨Bs, 0, none⟩)]] W fun e w' => e = .returned (.tuple #[]) ∧ ∃ os, w' = grow W os := by
  subst h
  exact Any.sort_Slice_tiny Tryz.laysGg6 22 32 siT siE (by kernel_rfl) (by kernel_rfl) (by kernel_rfl) (by kernel_rfl) 25 (fun _ => by kernel_rfl) none 0 0 (by omega) 51 (by kernel_rfl) (.func 26) #[] #[.pointer (some ⟨Bs, 0, none⟩)] W

theorem sort25_own : Sort25 := by
  intro B Bs v d L w hd hown hBs hlt hB hp hL
  have hcl := fun g hg => hown.cells (g := g) hg
  rcases hown.2 with ⟨rfl, h0⟩ | ⟨g, cap, cur, rfl, hg, hb, hn, hm, hsz, htk⟩
  · obtain rfl : d = [] := List.length_eq_zero_iff.1 h0
    obtain rfl : L = [] := by simpa using hp
    refine (tiny25 _ rfl w Bs).mono ?_
    rintro e w' ⟨rfl, os, rfl⟩
    have k := kept_grow w os
    exact ⟨rfl, Bel.of_kept k hB, .inl ⟨rfl, _, _, rfl⟩, k.cell hBs (by simp)⟩
  · have hgl : g < w.heap.size := (Array.getElem?_eq_some_iff.1 hb).1
    have hH : HoldsK encE 9 w g 0 d.toArray := by
      intro q hq
      rw [size_flatK] at hq
      have hq' : q < d.length * 9 := by simpa using hq
      refine ⟨?_, ?_⟩
      · have hi : q / 9 < d.length := by omega
        have hj : q % 9 < (encE (d[q / 9])).length := by rw [encE_length]; omega
        have h2 := hcl g rfl (q / 9 * 9 + q % 9) _ (flatE_get d (q / 9) d[q / 9] (List.getElem?_eq_getElem hi) (q % 9) ((encE (d[q / 9]))[q % 9]'hj) (by rw [← Array.getElem?_toList]; exact List.getElem?_eq_getElem hj))
        rw [addr_add, show q / 9 * 9 + q % 9 = q by omega] at h2
        rw [h2, get_flatK _ _ _ _ (by simpa using hq')]
        have e1 : d.toArray[q / 9]! = d[q / 9] := by rw [getElem!_pos d.toArray (q / 9) (by simpa using hi)]; rfl
        rw [e1, getElem!_pos (encE d[q / 9]) (q % 9) hj]
        rfl
      · exact frozenOf hb _
    have h25 := sort25 g cap Bs d.toArray L (by simpa using hd) w hH hgl (by simpa using hBs) (by omega) (by simpa using hp) hL
    rw [List.size_toArray] at h25
    refine h25.mono ?_
    rintro e w' ⟨rfl, hk, hc⟩
    have hll : L.length = d.length := hp.length_eq
    refine ⟨rfl, ⟨hk.os, hk.tape, hk.output, hk.size, fun k hk' _ => hk.block k (by omega) (by simp; omega)⟩, ?_, hk.cell hBs (by simp; omega)⟩
    rw [← hll]
    refine .inr ⟨g, 0, cap, rfl, by omega, hm, fun i hi j u hj => ?_⟩
    rw [Nat.zero_add]
    refine hc i _ ?_ j u hj
    show L[i]? = some (L.getD i default)
    rw [List.getD_eq_getElem?_getD, List.getElem?_eq_getElem hi]
    rfl

end Go.Proofs.YtoaedibfgegilaaGreatDoor.st
