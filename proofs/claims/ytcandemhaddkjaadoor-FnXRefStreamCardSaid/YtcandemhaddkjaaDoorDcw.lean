/-
  impl.dict: the walk.
-/
import Derived.Test.YtcandemhaddkjaaDoorDic
namespace Go.Proofs.YtcandemhaddkjaaDoor.xs
open Go.RowKit Go.MapKept Go.ChangeMaps
set_option linter.unusedVariables false
set_option linter.unusedSimpArgs false

def DctE (w : World) (en : List (ByteArray × Thing)) (e : Ending) (w' : World) : Prop := ∃ m, e = .returned (.tuple #[.map (some m), .bool true]) ∧ DAt w' m en en.length ∧ w.heap.size ≤ m ∧ Below w.heap.size w w'

set_option maxHeartbeats 4000000 in
set_option maxRecDepth 100000 in
theorem dict15 (en : List (ByteArray × Thing)) (os : List (Array Value)) (kv ov : Value) (w : World) (hK : Keys en) (hlen : os.length = en.length) (hn : en.length ≤ 1000) (hk : Strs w kv (en.map (·.1))) (ho : Rows w ov os) (hob : ∀ (i : Nat) (s : ByteArray) (t : Thing) (o : Array Value), en[i]? = some (s, t) → os[i]? = some o → t.obj w o) :
    Calls Tryd.prog 15 #[kv, ov] w fun e w' => DctE w en e w' := by
  have hmm := @run_makeMap Tryd.prog
  obtain ⟨kg, kC, rfl, k1, k2, k3, k4⟩ := hk
  obtain ⟨og, oC, rfl, o1, o2, o3, o4⟩ := ho
  obtain ⟨n, hnn⟩ : ∃ n, en.length = n := ⟨_, rfl⟩
  rw [List.length_map] at k1 ⊢
  rw [hlen] at o1 ⊢
  rw [hnn] at k1 o1 hn ⊢
  have hD0 : DAt (w.alloc (.map #[] 0)) w.heap.size en 0 := ⟨#[], heap_alloc_new w _, rfl, fun i hi => by omega⟩
  have hB0 : Bel w.heap.size [] w (w.alloc (.map #[] 0)) := (Bel.refl _ _ w).alloc (Nat.le_refl _) _
  have HK := Lib.hid hK
  have HKC := Lib.hid k4
  have HOC := Lib.hid o4
  have HOB := Lib.hid hob
  have HNN := Lib.hid (And.intro hnn hlen)
  have HD0 := Lib.hid hD0
  have HB0 := Lib.hid hB0
  have HKG := Lib.hid k3
  have HOG := Lib.hid o3
  clear hK k4 o4 hob hnn hlen hD0 hB0 k3 o3
  go_enter Tryd.func15, Tryd.ntmps15
  go_wp2_with fail
  go_loopw [19] (fun i wr => ∃ k : Nat, i = .int .i64 (k : Int) ∧ k ≤ n ∧ Hid (DAt wr w.heap.size en k) ∧ Hid (Bel w.heap.size [] w wr)) (fun i _ => n - (intOf i).toNat)
  case atStart => exact ⟨0, rfl, by omega, HD0, HB0⟩
  case round =>
    obtain ⟨k, rfl, hk, HD, HB⟩ := hrel
    by_cases hlt : k < n
    · obtain ⟨p, hp⟩ : ∃ p, en[k]? = some p := ⟨_, List.getElem?_eq_getElem (by rw [HNN.out.1]; exact hlt)⟩
      obtain ⟨s, t⟩ := p
      obtain ⟨o, ho⟩ : ∃ o, os[k]? = some o := ⟨_, List.getElem?_eq_getElem (by rw [HNN.out.2, HNN.out.1]; exact hlt)⟩
      have hobj := HOB.out k s t o hp ho
      have hsev := Thing.obj_seven hobj
      obtain ⟨x0, x1, x2, x3, x4, x5, x6, rfl⟩ : ∃ x0 x1 x2 x3 x4 x5 x6, o = #[x0, x1, x2, x3, x4, x5, x6] := by
        obtain ⟨l⟩ := o
        have hl := hsev.1
        simp at hl
        match l, hl with
        | [x0, x1, x2, x3, x4, x5, x6], _ => exact ⟨_, _, _, _, _, _, _, rfl⟩
      have hbk : Kept [] w wr := HB.out.kept (Nat.le_refl _) (by simp)
      have ck : wr.cell? ⟨kg, k, none⟩ = some (.string s) := hbk.cell (HKC.out k s (by simp [hp])) (by simp)
      have hcw : ∀ j u, (#[x0, x1, x2, x3, x4, x5, x6] : Array Value)[j]? = some u → wr.cell? ⟨og, k * 7 + j, none⟩ = some u := fun j u hj => hbk.cell (HOC.out k _ ho j u hj) (by simp)
      have c0 : wr.cell? ⟨og, k * 7, none⟩ = some x0 := hcw 0 _ rfl
      have c1 : wr.cell? ⟨og, k * 7 + 1, none⟩ = some x1 := hcw 1 _ rfl
      have c2 : wr.cell? ⟨og, k * 7 + 2, none⟩ = some x2 := hcw 2 _ rfl
      have c3 : wr.cell? ⟨og, k * 7 + 3, none⟩ = some x3 := hcw 3 _ rfl
      have c4 : wr.cell? ⟨og, k * 7 + 4, none⟩ = some x4 := hcw 4 _ rfl
      have c5 : wr.cell? ⟨og, k * 7 + 5, none⟩ = some x5 := hcw 5 _ rfl
      have c6 : wr.cell? ⟨og, k * 7 + 6, none⟩ = some x6 := hcw 6 _ rfl
      have H19 := Lib.hid (thing19 t _ wr (Thing.obj_kept hobj hbk))
      have HP := Lib.hid hp
      have HBS := Lib.hid HB.out.size
      clear hcw hobj hsev ho hp hbk
      go_wp2_with (go_at_call 19; refine H19.out.mono ?_; rintro e w1 ⟨v, rfl, hv, hb1⟩; refine Hid.out ?_)
      refine Lib.hid ?_
      have kk := Kept.of_below hb1 []
      obtain ⟨w2, hrun, hd2, hk2⟩ := (HD.out.kept kk).put HK.out HP.out hv
      have hB2 : Bel w.heap.size [] w w2 := (HB.out.trans (Bel.of_kept kk HBS.out)).trans ⟨hk2.os, hk2.tape, hk2.output, hk2.size, fun q hq _ => hk2.block q (by have := kk.size; have := HBS.out; omega) (by simp; omega)⟩
      have HD2 := Lib.hid hd2
      have HB2 := Lib.hid hB2
      clear hd2 hB2 hk2 kk hv hb1
      go_wp2_with fail
      go_roundw
      case rel => exact ⟨k + 1, by go_num, by omega, HD2, HB2⟩
      case measure => simp [intOf]; omega
    · obtain rfl : k = n := by omega
      go_wp2_with fail
      go_ret2
      exact ⟨_, rfl, by rw [HNN.out.1]; exact HD.out, Nat.le_refl _, HB.out.below' (Nat.le_refl _)⟩
end Go.Proofs.YtcandemhaddkjaaDoor.xs
