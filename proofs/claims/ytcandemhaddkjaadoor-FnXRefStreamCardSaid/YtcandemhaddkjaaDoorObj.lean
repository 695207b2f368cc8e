/-
  impl.object and impl.objects: integers, names, lists of integers as objects of the package.
-/
import Derived.Test.YtcandemhaddkjaaDoorLis
namespace Go.Proofs.YtcandemhaddkjaaDoor.xs
open Go.RowKit
set_option linter.unusedVariables false
set_option linter.unusedSimpArgs false

set_option maxHeartbeats 2000000 in
set_option maxRecDepth 100000 in
theorem int19 (n : Int) (w : World) : Calls Tryd.prog 19 #[.agg (intO n)] w fun e w' => e = .returned (.tuple #[.iface 73 (.int .i64 n), .bool true]) ∧ Below w.heap.size w w' := by
  unfold intO
  go_enter Tryd.func19, Tryd.ntmps19
  go_wp2_with fail
  go_ret2
  exact ⟨rfl, (Below.refl _ _).alloc (Nat.le_refl _) _⟩

set_option maxHeartbeats 2000000 in
set_option maxRecDepth 100000 in
theorem name19 (s : ByteArray) (w : World) : Calls Tryd.prog 19 #[.agg (nameO s)] w fun e w' => e = .returned (.tuple #[.iface 77 (.string s), .bool true]) ∧ Below w.heap.size w w' := by
  unfold nameO
  go_enter Tryd.func19, Tryd.ntmps19
  go_wp2_with fail
  go_ret2
  exact ⟨rfl, (Below.refl _ _).alloc (Nat.le_refl _) _⟩

theorem info64f : (Tryd.prog.info? 64).map (fun i => (i.zero, i.size, i.bytes)) = some (some .nilIface, 1, 16) := by kernel_rfl
theorem app64 (w : World) (base : Nat) (v : Value) (n : Nat) (xs : List Value) (hown : w.ownsRow base 64 1 v n xs) (ad : Addr) (x : Value) (hx : x.oneCell' = true) (hc : w.cell? ad = some x) (hn : n ≤ 1000000) (hb : base ≤ w.heap.size) (ty : TypeId) :
    ∃ v' w', (Builtin.append_ #[83, 83] ty #[v, .slice (some ad) 1 1]).run Tryd.prog w = .ok v' w' ∧ w'.ownsRow base 64 1 v' (n + 1) (xs ++ [x]) ∧ w.grownBy w' v.ownBlock := by
  obtain ⟨i, hi, hz, hs, hby⟩ := info_parts info64f
  obtain ⟨v', w', h1, h2, h3, _⟩ := run_append_own (P := Tryd.prog) (w := w) base 83 ty 64 i _ 1 16 Tryd.underlying83 hi hz hs hby rfl (by decide) v n xs hown ad 1 1 [x] (by simp) (fun j u hj => by
    rcases j with _ | j
    · simp at hj
      subst hj
      rw [Addr.add_zero']
      exact hc
    · simp at hj) (fun u hu => by simp at hu; subst hu; exact hx) (by unfold maxLen; omega) (by omega) hb
  exact ⟨v', w', h1, h2, h3⟩

def ifs (n : Nat) (z : Nat → Int) : List Value := (List.range n).map fun i => .iface 73 (.int .i64 (z i))
theorem ifs_succ (n : Nat) (z : Nat → Int) : ifs (n + 1) z = ifs n z ++ [.iface 73 (.int .i64 (z n))] := by simp [ifs, List.range_succ]

/-- An array of the package that reads as the first n of z. -/
def ArrI (w : World) (v : Value) (n : Nat) (z : Nat → Int) : Prop := ∃ g C, v = .slice (some ⟨g, 0, none⟩) n C ∧ n ≤ C ∧ C ≤ maxLen ∧ g < w.heap.size ∧ ∀ i, i < n → w.cell? ⟨g, i, none⟩ = some (.iface 73 (.int .i64 (z i)))
theorem ArrI.kept {w w' : World} {v : Value} {n : Nat} {z : Nat → Int} (h : ArrI w v n z) (k : Kept [] w w') : ArrI w' v n z := by
  obtain ⟨g, C, h1, h2, h3, h4, h5⟩ := h
  exact ⟨g, C, h1, h2, h3, Nat.lt_of_lt_of_le h4 k.size, fun i hi => k.cell (h5 i hi) (by simp)⟩
theorem ArrI.of_own {w : World} {B : Nat} {v : Value} {n : Nat} {z : Nat → Int} (h : w.ownsRow B 64 1 v n (ifs n z)) (hne : 0 < n) : ArrI w v n z := by
  rcases h.2 with ⟨_, e⟩ | ⟨g, cap, cur, e, hB, hc, hn, hm, r⟩
  · omega
  · refine ⟨g, cap, e, hn, hm, (Array.getElem?_eq_some_iff.1 hc).1, fun i hi => ?_⟩
    have := h.cells (g := g) (by rw [e]; rfl) i (.iface 73 (.int .i64 (z i))) (by simp [ifs, hi])
    rwa [addr_add, Nat.zero_add] at this

def ArrE (w : World) (n : Nat) (z : Nat → Int) (e : Ending) (w' : World) : Prop := ∃ v, e = .returned (.tuple #[v, .bool true]) ∧ ArrI w' v n z ∧ Below w.heap.size w w'

set_option maxHeartbeats 4000000 in
set_option maxRecDepth 100000 in
theorem objects24 (v : Value) (n : Nat) (z : Nat → Int) (w : World) (h : Rows w v (ints n z)) (hn0 : 0 < n) (hn : n ≤ 100000) : Calls Tryd.prog 24 #[v] w fun e w' => ArrE w n z e w' := by
  obtain ⟨g, C, rfl, hC, hm, hg, hc⟩ := h
  rw [ints_length] at hC ⊢
  have HC : Hid (∀ k, k < n → ∀ j u, (intO (z k))[j]? = some u → w.cell? ⟨g, k * 7 + j, none⟩ = some u) := Lib.hid fun k hk j u hj => hc k _ (by simp [ints, hk]) j u hj
  have HG := Lib.hid hg
  clear hc hg
  have hown0 : (w.alloc (.cells #[] 64)).ownsRow w.heap.size 64 1 (.slice (some ⟨w.heap.size, 0, none⟩) 0 0) 0 (ifs 0 z) := ⟨rfl, .inr ⟨w.heap.size, 0, #[], rfl, Nat.le_refl _, heap_alloc_new w _, Nat.le_refl _, by unfold maxLen; omega, rfl, rfl⟩⟩
  have HO := Lib.hid hown0
  have HB0 : Hid (Below w.heap.size w (w.alloc (.cells #[] 64))) := Lib.hid ((Below.refl _ _).alloc (Nat.le_refl _) _)
  clear hown0
  go_enter Tryd.func24, Tryd.ntmps24
  go_wp2_with fail
  go_loopw [4, 12] (fun o i wr => ∃ k : Nat, i = .int .i64 (k : Int) ∧ k ≤ n ∧ Hid (wr.ownsRow w.heap.size 64 1 o k (ifs k z)) ∧ Hid (Below w.heap.size w wr)) (fun _ i _ => n - (intOf i).toNat)
  case atStart => exact ⟨0, rfl, by omega, HO, HB0⟩
  case round =>
    obtain ⟨k, rfl, hk, HW, HB⟩ := hrel
    by_cases hlt : k < n
    · have hbs := HB.out.size
      have hcw : ∀ j u, (intO (z k))[j]? = some u → wr.cell? ⟨g, k * 7 + j, none⟩ = some u := fun j u hj => (Kept.of_below HB.out []).cell (HC.out k hlt j u hj) (by simp)
      have c0 : wr.cell? ⟨g, k * 7 + 0, none⟩ = some (.int .i64 2) := hcw 0 _ rfl
      have c1 : wr.cell? ⟨g, k * 7 + 1, none⟩ = some (.int .i64 (z k)) := hcw 1 _ rfl
      have c2 : wr.cell? ⟨g, k * 7 + 2, none⟩ = some (.int .i64 0) := hcw 2 _ rfl
      have c3 : wr.cell? ⟨g, k * 7 + 3, none⟩ = some (.float .f64 0) := hcw 3 _ rfl
      have c4 : wr.cell? ⟨g, k * 7 + 4, none⟩ = some (.string ⟨#[]⟩) := hcw 4 _ rfl
      have c5 : wr.cell? ⟨g, k * 7 + 5, none⟩ = some (.slice none 0 0) := hcw 5 _ rfl
      have c6 : wr.cell? ⟨g, k * 7 + 6, none⟩ = some (.slice none 0 0) := hcw 6 _ rfl
      rw [Nat.add_zero] at c0
      obtain ⟨x, hx⟩ : ∃ x, z k = x := ⟨_, rfl⟩
      rw [hx] at c1
      obtain ⟨sr, hsr⟩ : ∃ s, wr.heap.size = s := ⟨_, rfl⟩
      have H19 := Lib.hid fun W => int19 x W
      unfold intO at H19
      have HX := Lib.hid hx
      have HSR := Lib.hid hsr
      clear hcw hx hsr
      go_wp2_with (go_at_call 19; refine (H19.out _).mono ?_; rintro e w1 ⟨rfl, hb1⟩; refine Hid.out ?_)
      refine Lib.hid ?_
      have k1 : Kept [] wr w1 := ((Kept.refl [] wr).alloc _).trans (Kept.of_below hb1 [])
      have hown1 := own_kept HW.out k1 (fun g hg => by simp)
      have hsz1 := k1.size
      obtain ⟨v', w', hrun, hown', hgr⟩ := app64 (w1.alloc (.cells #[.iface 73 (.int .i64 x)] 64)) w.heap.size _ k _ (hown1.alloc _) ⟨w1.heap.size, 0, none⟩ (.iface 73 (.int .i64 x)) rfl (by simp [go_sem]) (by omega) (by simp; omega) 83
      have hB' : Below w.heap.size w w' := (HB.out.trans ((k1.alloc _).below (by omega) (by simp))).trans ((grown_bel hgr (B := w.heap.size) (by simp; omega) fun g hg => (own_block hown1 g hg).1).below' (Nat.le_refl _))
      rw [← HX.out, ← ifs_succ] at hown'
      have HO' := Lib.hid hown'
      have HB' := Lib.hid hB'
      clear hown' hB' hgr hown1 k1 hb1 hsz1
      go_wp2_with (at_builtin; refine Lib.wpList_append_run _ rfl _ _ 83 83 rfl _ _ rfl rfl _ _ hrun ?_)
      go_roundw
      case rel => exact ⟨k + 1, by go_num, by omega, HO', HB'⟩
      case measure => simp [intOf]; omega
    · obtain rfl : k = n := by omega
      go_wp2_with fail
      go_ret2
      exact ⟨_, rfl, ArrI.of_own HW.out hn0, HB.out⟩

def ListV (w : World) (n : Nat) (z : Nat → Int) (e : Ending) (w' : World) : Prop := ∃ v, e = .returned (.tuple #[.iface 83 v, .bool true]) ∧ ArrI w' v n z ∧ Below w.heap.size w w'
set_option maxHeartbeats 2000000 in
set_option maxRecDepth 100000 in
theorem list19 (part : Value) (n : Nat) (z : Nat → Int) (w : World) (h : Rows w part (ints n z)) (hn0 : 0 < n) (hn : n ≤ 100000) : Calls Tryd.prog 19 #[.agg (listO part)] w fun e w' => ListV w n z e w' := by
  obtain ⟨g, C, rfl, hr⟩ := h
  have h24 := objects24 _ n z (w.alloc (.cells (listO (.slice (some ⟨g, 0, none⟩) (ints n z).length C)) 33)) (Rows.kept ⟨g, C, rfl, hr⟩ ((Kept.refl _ _).alloc _)) hn0 hn
  have H24 := Lib.hid h24
  have hb : Below w.heap.size w (w.alloc (.cells (listO (.slice (some ⟨g, 0, none⟩) (ints n z).length C)) 33)) := (Below.refl _ _).alloc (Nat.le_refl _) _
  have HBB := Lib.hid hb
  clear h24 hr hb
  unfold listO at H24 HBB ⊢
  go_enter Tryd.func19, Tryd.ntmps19
  go_wp2_with (go_at_call 24; refine H24.out.mono ?_; rintro e w1 ⟨v, rfl, hv, hb1⟩)
  go_ret2
  exact ⟨v, rfl, hv, HBB.out.trans (hb1.mono (by simp))⟩
end Go.Proofs.YtcandemhaddkjaaDoor.xs
