/-
  The two sorts as the reader's own function calls them: entries by their numbers; numbers.
-/
import Derived.Test.YtoaedibfgegilaaGreatDoorSda
import Derived.Test.YtoaedibfgegilaaGreatDoorShelf
namespace Go.Proofs.YtoaedibfgegilaaGreatDoor.st
open Go.RowKit Go.MapKept Go.ChangeMaps Go.Shelf Go.Lib Go.Sort
set_option linter.unusedVariables false
set_option linter.unusedSimpArgs false

noncomputable def siT : TypeInfo := (Tryz.prog.info? 22).get (by kernel_rfl)
noncomputable def siE : TypeInfo := (Tryz.prog.info? 32).get (by kernel_rfl)
theorem siK (n : Nat) (h2 : 2 ≤ n) : Lib.swapperK n siE 25 = 9 := by
  have a : siE.hasPointers = false := by kernel_rfl
  have b : siE.bytes = 56 := by kernel_rfl
  have c : (n == 0) = false := by simp; omega
  have d : (n == 1) = false := by simp; omega
  simp [Lib.swapperK, a, b, c, d]
def encE (e : Ent) : List Value := (entC e).toList
theorem encE_length (e : Ent) : (encE e).length = 9 := rfl
theorem encE_one (e : Ent) : ∀ v ∈ encE e, v.oneCell' = true := fun v hv => by
  simp [encE, entC] at hv
  rcases hv with rfl | rfl | rfl | rfl | rfl | rfl | rfl | rfl | rfl <;> rfl
def ltE (a b : Ent) : Bool := decide (a.num < b.num)
theorem swo_ltE : SWO ltE where
  irrefl := fun x => by simp [ltE]
  trans := fun x y z h1 h2 => by simp [ltE] at *; omega
  ntrans := fun x y z h1 h2 => by simp [ltE] at *; omega

/-- Two lists of the same entries, both by their numbers, of which one rises: one list. -/
theorem perm_unique : ∀ (a b : List Ent), a.Perm b → a.Pairwise (fun x y => x.num ≤ y.num) → b.Pairwise (fun x y => x.num < y.num) → a = b
  | [], b, h, _, _ => by simpa using h.symm
  | x :: a, [], h, _, _ => by simp at h
  | x :: a, y :: b, h, ha, hb => by
    rw [List.pairwise_cons] at ha hb
    have e : x = y := by
      have hx : x ∈ y :: b := h.subset (by simp)
      have hy : y ∈ x :: a := h.symm.subset (by simp)
      rcases List.mem_cons.1 hx with e | hx
      · exact e
      · rcases List.mem_cons.1 hy with e | hy
        · exact e.symm
        · have h1 := hb.1 x hx
          have h2 := ha.1 y hy
          omega
    subst e
    rw [perm_unique a b (List.Perm.cons_inv h) ha.2 hb.2]

set_option maxHeartbeats 2000000 in
theorem less26 (blk c Bs size : Nat) (W : World) (G : Nat → Int) (hs : W.cell? ⟨Bs, 0, none⟩ = some (.slice (some ⟨blk, 0, none⟩) size c))
    (hc : ∀ t, t < size → W.cell? ⟨blk, 0 + t * 9, none⟩ = some (.int .i64 (G t))) (i j : Nat) (hi : i < size) (hj : j < size) (hsz : size < 4611686018427387904) :
    Calls Tryz.prog 26 #[.int .i64 i, .int .i64 j, .pointer (some ⟨Bs, 0, none⟩)] W fun e w' => e = .returned (.bool (decide (G i < G j))) ∧ ∃ q, w' = W.drewN q := by
  have ci := hc i hi
  have cj := hc j hj
  rw [Nat.zero_add] at ci cj
  clear hc
  go_enter Tryz.func26, Tryz.ntmps26
  go_wp2_with fail
  go_quiet (fail)
  go_wp2_with fail
  go_ret
  exact ⟨rfl, nq, rfl⟩

/-- What the sort leaves. -/
structure SortIs (w w' : World) (blk : Nat) (L : List Ent) : Prop where
  kept : Kept [blk] w w'
  cells : ∀ i e, L[i]? = some e → ∀ j u, (entC e)[j]? = some u → w'.cell? ⟨blk, i * 9 + j, none⟩ = some u

theorem kept_grow (w : World) (os : Array Obj) : Kept [] w (grow w os) := ⟨rfl, rfl, rfl, by simp [grow], fun k hk _ => by simp [grow]; rw [Array.getElem?_append_left hk]⟩
theorem kept_put (w : World) (n blk off : Nat) (d : Array Ent) : Kept [blk] w (putRowK encE 9 (Sort.ahead w n) blk off d) :=
  ⟨rfl, rfl, rfl, by rw [size_putRowK]; exact Nat.le_refl _, fun k hk hn => by
    simp only [putRowK, putRow, mapBlock, Sort.ahead]
    rw [Array.getElem?_modify, if_neg (fun e => hn (by simp [e]))]⟩

theorem cells_of {w : World} {blk : Nat} {d : Array Ent} {L : List Ent} (h : HoldsK encE 9 w blk 0 d) (e : d.toList = L) : ∀ i x, L[i]? = some x → ∀ j u, (entC x)[j]? = some u → w.cell? ⟨blk, i * 9 + j, none⟩ = some u := by
  intro i x hx j u hu
  subst e
  have hi : i < d.size := by
    have := (List.getElem?_eq_some_iff.1 hx).1
    simpa using this
  have hj : j < 9 := (Array.getElem?_eq_some_iff.1 hu).1
  have h1 := (h.cell hi hj).1
  have hd : d[i]! = x := by
    rw [getElem!_pos d i hi]
    rw [List.getElem?_eq_getElem (by simpa using hi)] at hx
    simpa using hx
  rw [hd, Nat.zero_add] at h1
  rw [h1]
  congr 1
  have hjj : j < (encE x).length := by rw [encE_length]; exact hj
  rw [getElem!_pos (encE x) j hjj]
  rw [Array.getElem?_eq_getElem (show j < (entC x).size from hj)] at hu
  have := Option.some.inj hu
  rw [← this]
  rfl

set_option maxHeartbeats 1000000 in
theorem sort25 (blk c Bs : Nat) (d : Array Ent) (L : List Ent) (hsz : d.size ≤ 1000000) (w : World) (hH : HoldsK encE 9 w blk 0 d) (hblk : blk < w.heap.size)
    (hBs : w.cell? ⟨Bs, 0, none⟩ = some (.slice (some ⟨blk, 0, none⟩) d.size c)) (hB2 : Bs ≠ blk) (hp : L.Perm d.toList) (hL : L.Pairwise fun x y => x.num < y.num) :
    Calls Tryz.prog 25 #[.iface 22 (.slice (some ⟨blk, 0, none⟩) d.size c), .func (.func 26) #[] #[.pointer (some ⟨Bs, 0, none⟩)]] w fun e w' => e = .returned (.tuple #[]) ∧ SortIs w w' blk L := by
  have hB1 : Bs < w.heap.size := World.block_lt_of_cell? _ _ hBs
  by_cases h2 : 2 ≤ d.size
  · have hless : LessReadsK Tryz.prog 26 #[.pointer (some ⟨Bs, 0, none⟩)] encE 9 ltE blk 0 d.size w := by
      intro m os dk hs i j hi hj
      have e : sortWorldK encE 9 w blk 0 m dk os = putRowK encE 9 (grow (Sort.ahead w m) os) blk 0 dk := by
        unfold sortWorldK; rw [putRowK_grow _ _ (Sort.ahead w m) _ blk 0 _ hblk]
      have hHg : HoldsK encE 9 (grow (Sort.ahead w m) os) blk 0 d := holdsK_grow _ _ _ _ blk 0 d hblk (holdsK_ahead _ _ _ _ _ _ _ hH)
      refine less26 blk c Bs d.size _ (fun t => dk[t]!.num) ?_ (fun t ht => ?_) i j hi hj (by omega)
      · rw [e, cell?_putRowK_other _ _ _ blk 0 dk _ (by exact hB2), cell?_grow _ _ _ (by exact hB1)]; exact hBs
      · rw [e]; exact ((holdsK_putRowK _ _ _ blk 0 d dk hHg hs).cell (i := t) (c := 0) (by omega) (by omega)).1
    refine (Any.sort_Slice_cells_sorted Tryz.laysGg6 22 32 siT siE (by kernel_rfl) (by kernel_rfl) (by kernel_rfl) (by kernel_rfl) 25 (fun _ => by kernel_rfl) encE 9 encE_length (by kernel_rfl) (fun _ => by kernel_rfl)
      encE_one ltE swo_ltE 26 _
      (enters_of Tryz.func26 (by kernel_rfl) rfl) blk 0 c d h2 (by omega) 59 (by rw [siK _ h2]; kernel_rfl) false
      (fun args W => run_callFunc_extern Tryz.func59 (by kernel_rfl) (by kernel_rfl) (by kernel_rfl) (e := Extern.ReflectliteSwapper.swap false) (by kernel_rfl) args W) w hless hH hblk).mono ?_
    rintro e w' ⟨rfl, d', n, os, hpm, hso, rfl⟩
    obtain ⟨hs, _, hpp⟩ := hpm
    have e1 : d'.extract 0 d.size = d' := by rw [← hs]; simp
    have e2 : d.extract 0 d.size = d := by simp
    rw [e1, e2] at hpp
    have hpw : d'.toList.Pairwise fun x y => x.num ≤ y.num := by
      rw [List.pairwise_iff_getElem]
      intro i j hi hj hij
      have hi' : i < d'.size := by simpa using hi
      have hj' : j < d'.size := by simpa using hj
      have h := hso i j (Nat.zero_le _) hij (by omega)
      rw [getElem!_pos d' j hj', getElem!_pos d' i hi'] at h
      simp [ltE] at h
      simpa using h
    have hdL := perm_unique d'.toList L (hpp.trans hp.symm) hpw hL
    have hH2 : HoldsK encE 9 (grow (putRowK encE 9 (Sort.ahead w n) blk 0 d') os) blk 0 d' := holdsK_grow _ _ _ _ blk 0 d' (by rw [size_putRowK]; exact hblk) (holdsK_putRowK _ _ _ blk 0 d d' (holdsK_ahead _ _ _ _ _ _ _ hH) hs)
    exact ⟨rfl, (kept_put w n blk 0 d').trans ((kept_grow _ os).mono (by simp)), cells_of hH2 hdL⟩
  · have hK : Lib.swapperK d.size siE 25 = d.size + 1 := by
      rcases Nat.eq_zero_or_pos d.size with h | h
      · rw [h]
        rfl
      · obtain h : d.size = 1 := by omega
        rw [h]
        rfl
    refine (Any.sort_Slice_tiny Tryz.laysGg6 22 32 siT siE (by kernel_rfl) (by kernel_rfl) (by kernel_rfl) (by kernel_rfl) 25 (fun _ => by kernel_rfl) (some ⟨blk, 0, none⟩) d.size c (by omega) (51 + d.size) (by
      rw [hK]
      rcases Nat.eq_zero_or_pos d.size with h | h
      · rw [h]
        kernel_rfl
      · obtain h : d.size = 1 := by omega
        rw [h]
        kernel_rfl) (.func 26) #[] #[.pointer (some ⟨Bs, 0, none⟩)] w).mono ?_
    rintro e w' ⟨rfl, os, rfl⟩
    have hpw : d.toList.Pairwise fun x y => x.num ≤ y.num := by
      rw [List.pairwise_iff_getElem]
      intro i j hi hj hij
      have hj' : j < d.size := by simpa using hj
      omega
    have hdL := perm_unique d.toList L hp.symm hpw hL
    exact ⟨rfl, (kept_grow _ os).mono (by simp), cells_of (holdsK_grow _ _ _ os blk 0 d hblk hH) hdL⟩

end Go.Proofs.YtoaedibfgegilaaGreatDoor.st
