/-
  FnEscape: the reader of literal strings at what Escape writes.
-/
import Derived.Test.YtcohlcijgfdanaaDoorEsc
import Derived.Deep.QuietTactic
import Derived.BigQuiet
import Derived.Lib.BufferAt
import Derived.Lib.Builder
import Derived.Lib.AppendStr
namespace Go.Proofs.YtcohlcijgfdanaaDoor.esc
open Go.RowKit

/-- The reader in block g: its text, where it is, that nothing is bad. -/
structure RS (g : Nat) (T : ByteArray) (n : Nat) (w : World) : Prop where
  c0 : w.cell? ⟨g, 0, none⟩ = some (.string T)
  c1 : w.cell? ⟨g, 1, none⟩ = some (.int .i64 n)
  c2 : w.cell? ⟨g, 2, none⟩ = some (.int .i64 0)
  f1 : w.frozen? ⟨g, 1, none⟩ = false

theorem RS.on {g : Nat} {T : ByteArray} {n : Nat} {w w' : World} (h : RS g T n w) (hb : w'.heap[g]? = w.heap[g]?) : RS g T n w' :=
  ⟨(World.cell?_of_block (a := ⟨g, 0, none⟩) hb).trans h.c0, (World.cell?_of_block (a := ⟨g, 1, none⟩) hb).trans h.c1, (World.cell?_of_block (a := ⟨g, 2, none⟩) hb).trans h.c2, (World.frozen?_of_block (a := ⟨g, 1, none⟩) hb).trans h.f1⟩
theorem RS.step {g : Nat} {T : ByteArray} {n m : Nat} {w : World} (h : RS g T n w) : RS g T m (w.setCell ⟨g, 1, none⟩ (.int .i64 m)) :=
  ⟨(World.cell?_setCell_other w _ _ _ (by simp)).trans h.c0, by have := h.c1; have := h.f1; simp [go_sem, *], (World.cell?_setCell_other w _ _ _ (by simp)).trans h.c2, by have := h.f1; simp [go_sem, *]⟩
theorem RS.lt {g : Nat} {T : ByteArray} {n : Nat} {w : World} (h : RS g T n w) : g < w.heap.size := World.block_lt_of_cell? _ _ h.c0

theorem own_set {w : World} {B g : Nat} {v x : Value} {n : Nat} {xs : List Value} (h : w.ownsRow B 5 1 v n xs) (hg : g < B) : (w.setCell ⟨g, 1, none⟩ x).ownsRow B 5 1 v n xs := by
  refine h.kept (row := some g) ⟨rfl, rfl, rfl, by simp, fun k _ hk => by
    have hne : g ≠ k := fun e => hk (by rw [e])
    simp [World.setCell, Array.getElem?_modify, hne]⟩ ?_
  by_cases hv : v.ownBlock = none
  · exact Or.inl hv
  · refine Or.inr fun e => ?_
    have := (h.lt g e).1
    omega

theorem grown_set {w w' : World} {g : Nat} {x : Value} (h : w.grownBy w' (some g)) : w.grownBy (w'.setCell ⟨g, 1, none⟩ x) (some g) :=
  ⟨h.os, h.tape, h.output, by have := h.size; simpa using this, fun k hk hne => by
    have hn : g ≠ k := fun e => hne (by rw [e])
    simp only [World.setCell, Array.getElem?_modify, hn]
    exact h.block k hk hne⟩
theorem grown_drew (w : World) (n : Nat) (r : Option Nat) : w.grownBy (w.drewN n) r := ⟨rfl, rfl, rfl, Nat.le_refl _, fun _ _ _ => rfl⟩

/-- What the reader makes of the byte behind a reverse solidus. -/
theorem escapeR (g : Nat) (T : ByteArray) (n : Nat) (c x : Nat) (hp : Pair c x) (w : World) (hS : RS g T n w) (hn : n < T.size) (hx : T[n].toNat = x) (hz : T.size ≤ 10000) :
    Calls Tryd.prog 69 #[.pointer (some ⟨g, 0, none⟩)] w fun e w' => e = .returned (.tuple #[.int .u8 c, .bool true]) ∧ RS g T (n + 1) w' ∧ w.grownBy w' (some g) := by
  have HS := Lib.hid hS
  obtain ⟨c0, c1, c2, f1⟩ := hS
  obtain ⟨b, hb⟩ : ∃ b, T[n] = b := ⟨_, rfl⟩
  rw [hb] at hx
  unfold Pair at hp
  rcases hp with ⟨hc, hx2⟩ | ⟨hc, hx2⟩ | ⟨hc, hx2⟩ | ⟨hc, hx2⟩ | ⟨hc, hx2⟩ | ⟨hc, hx2⟩ | ⟨hc, hx2⟩ | ⟨hc, hx2⟩
  all_goals
    subst hc hx2
    go_enter Tryd.func69, Tryd.ntmps69
    go_wp2_with fail
    go_quiet (fail)
    go_wp2_with fail
    go_quiet (fail)
    go_wp2_with fail
    go_ret2
    refine ⟨rfl, ?_, grown_set ⟨rfl, rfl, rfl, Nat.le_refl _, fun _ _ _ => rfl⟩⟩
    exact RS.step (n := n) (m := n + 1) (RS.on HS.out rfl)

theorem cell_new (W : World) (x : Value) (t : TypeId) (k : Nat) (hk : k = W.heap.size) : (W.alloc (.cells #[x] t)).cell? ((⟨k, 0, none⟩ : Addr).add 0) = some x := by
  subst hk
  simp [Addr.add]
theorem RS.app {g n m B : Nat} {T : ByteArray} {W w2 : World} {x v : Value} {t : TypeId} {xs : List Value} (h : RS g T n W) (hg : (W.alloc (.cells #[x] t)).grownBy w2 v.ownBlock) (ho : W.ownsRow B 5 1 v m xs) (hgB : g < B) : RS g T n w2 :=
  h.on (by rw [hg.block g (by simp; exact Nat.lt_succ_of_lt h.lt) (fun e => by have := (ho.lt g e.symm).1; omega), Lib.alloc_old W _ g h.lt])

/-- How far the reader is. -/
structure LitSt (bs pre suf : List UInt8) (n : Nat) (o : Int) : Prop where
  st : (o = 0 ∧ n = 0 ∧ pre = [] ∧ suf = bs) ∨ (o = 1 ∧ n = 1 + (escL pre).length ∧ bs = pre ++ suf)

/-- Where the reader is, of a world. -/
def atOf (g : Nat) (w : World) : Nat := match w.cell? ⟨g, 1, none⟩ with
  | some (.int _ n) => n.toNat
  | _ => 0
theorem atOf_eq {g : Nat} {T : ByteArray} {n : Nat} {w : World} (h : RS g T n w) : atOf g w = n := by
  unfold atOf; rw [h.c1]; simp
theorem infoByte : (Tryd.prog.info? 5).map (fun i => (i.zero, i.size, i.bytes)) = some (some (.int .u8 0), 1, 1) := by kernel_rfl

set_option maxHeartbeats 16000000 in
set_option maxRecDepth 100000 in
theorem literal (g : Nat) (T : ByteArray) (bs : List UInt8) (hT : T.data.toList = 40 :: (escL bs ++ [41])) (hb0 : bs.length ≤ 4096) (w : World) (hS0 : RS g T 0 w) :
    Calls Tryd.prog 44 #[.pointer (some ⟨g, 0, none⟩)] w fun e w' => e = .returned (.string ⟨bs.toArray⟩) ∧ RS g T T.size w' ∧ Below g w w' := by
  obtain ⟨i0, hi, hz0, hz1, hz2⟩ := info_parts infoByte
  have hsz : T.size = (escL bs).length + 2 := by rw [Lib.size_eq, hT]; simp
  have h12 := (escL_length bs).2
  have htz : T.size ≤ 10000 := by omega
  have hget := Lib.hid fun k h c => get_of T _ hT k h c
  have HSZ := Lib.hid hsz
  have hgw := hS0.lt
  clear hT hsz
  go_enter Tryd.func44, Tryd.ntmps44
  go_wp2_with fail
  go_loopw [3, 4, 5, 6, 7] (fun v oo _ _ _ wr => ∃ (vv : Value) (o : Int) (pre suf : List UInt8) (n : Nat), vv = v ∧ oo = .int .i64 o ∧ LitSt bs pre suf n o ∧ Hid (RS g T n wr) ∧ wr.ownsRow w.heap.size 5 1 vv pre.length (Lib.byteCells pre) ∧ Below g w wr)
    (fun _ _ _ _ _ wr => T.size - atOf g wr)
  case atStart => exact ⟨_, 0, [], bs, 0, rfl, rfl, ⟨Or.inl ⟨rfl, rfl, rfl, rfl⟩⟩, hS0, World.ownsRow_nil _ _ _ _, Below.refl _ _⟩
  case round =>
    obtain ⟨v, o, pre, suf, n, rfl, rfl, hst, hS, hown, hnx⟩ := hrel
    have hat := Lib.hid (atOf_eq hS.out)
    have hsz1 := hnx.size
    obtain ⟨c0, c1, c2, f1⟩ := hS.out
    rcases hst.st with ⟨rfl, hn, hp, hs⟩ | ⟨rfl, hn, hbs⟩
    · -- the parenthesis that opens
      subst hn hp hs
      have hlt : 0 < T.size := by rw [HSZ.out]; omega
      have hg := hget.out 0 hlt 40 rfl
      clear hget hst
      go_wp2_with fail
      go_quiet (fail)
      obtain ⟨W1, hW1⟩ : ∃ X, wr.drewN nq = X := ⟨_, rfl⟩
      have hS1 : Hid (RS g T 0 W1) := by rw [← hW1]; exact RS.on hS.out rfl
      have hown1 : W1.ownsRow w.heap.size 5 1 v ([] : List UInt8).length (Lib.byteCells []) := by rw [← hW1]; exact hown
      have hnx1 : Below g w W1 := by rw [← hW1]; exact ⟨hnx.os, hnx.tape, hnx.output, hnx.size, hnx.block⟩
      rw [hW1]
      clear hW1 hS hown hnx c0 c1 c2 f1
      obtain ⟨c0, c1, c2, f1⟩ := hS1.out
      go_wp2_with fail
      go_quiet (fail)
      obtain ⟨W2, hW2⟩ : ∃ X, W1.drewN nq = X := ⟨_, rfl⟩
      have hS2 : Hid (RS g T 0 W2) := by rw [← hW2]; exact RS.on hS1.out rfl
      have hown2 : W2.ownsRow w.heap.size 5 1 v ([] : List UInt8).length (Lib.byteCells []) := by rw [← hW2]; exact hown1
      have hnx2 : Below g w W2 := by rw [← hW2]; exact ⟨hnx1.os, hnx1.tape, hnx1.output, hnx1.size, hnx1.block⟩
      rw [hW2]
      clear hW2 hS1 hown1 hnx1 c0 c1 c2 f1
      obtain ⟨c0, c1, c2, f1⟩ := hS2.out
      have hS3 : RS g T 1 (W2.setCell ⟨g, 1, none⟩ (.int .i64 1)) := RS.step (m := 1) hS2.out
      have hm := atOf_eq hS3
      go_wp2_with fail
      refine ⟨⟨v, 1, [], suf, 1, rfl, rfl, ⟨Or.inr ⟨rfl, rfl, rfl⟩⟩, Lib.hid hS3, own_set hown2 hgw, hnx2.setCell (p := ⟨g, 1, none⟩) (Nat.le_refl _) _⟩, ?_⟩
      rw [hm, hat.out]
      omega
    · cases suf with
      | nil =>
        rw [List.append_nil] at hbs
        subst hbs
        have hlt : n < T.size := by rw [HSZ.out]; omega
        have hend : n + 1 = T.size := by rw [HSZ.out]; omega
        have hg := hget.out n hlt 41 (by rw [hn]; simp [Nat.add_comm 1])
        have hcv : Hid (∀ W : World, W.ownsRow w.heap.size 5 1 v bs.length (Lib.byteCells bs) → (convert 29 9 v).run Tryd.prog W = .ok (.string ⟨bs.toArray⟩) W) := by
          refine Lib.hid fun W ho => ?_
          rcases ho.2 with ⟨rfl, h0⟩ | ⟨g', cap, cur, rfl, -, -, -, -, -, -⟩
          · obtain rfl : bs = [] := List.eq_nil_of_length_eq_zero h0
            rw [run_convert_bytes_string (P := Tryd.prog) W 29 9 5 none 0 0 Tryd.underlying29 Tryd.underlying5 Tryd.underlying9]
            rfl
          · exact run_convert_bytes_back (P := Tryd.prog) W 29 9 5 ⟨g', 0, none⟩ cap bs Tryd.underlying29 Tryd.underlying5 Tryd.underlying9 (fun j hj => ho.cells (g := g') rfl j _ (by simp [Lib.byteCells, hj]))
        have HEND := Lib.hid hend
        clear hget hst hn hend
        go_wp2_with fail
        go_quiet (fail)
        obtain ⟨W1, hW1⟩ : ∃ X, wr.drewN nq = X := ⟨_, rfl⟩
        have hS1 : Hid (RS g T n W1) := by rw [← hW1]; exact RS.on hS.out rfl
        have hown1 : W1.ownsRow w.heap.size 5 1 v bs.length (Lib.byteCells bs) := by rw [← hW1]; exact hown
        have hnx1 : Below g w W1 := by rw [← hW1]; exact ⟨hnx.os, hnx.tape, hnx.output, hnx.size, hnx.block⟩
        rw [hW1]
        clear hW1 hS hown hnx c0 c1 c2 f1
        obtain ⟨c0, c1, c2, f1⟩ := hS1.out
        go_wp2_with fail
        go_quiet (fail)
        obtain ⟨W2, hW2⟩ : ∃ X, W1.drewN nq = X := ⟨_, rfl⟩
        have hS2 : Hid (RS g T n W2) := by rw [← hW2]; exact RS.on hS1.out rfl
        have hown2 : W2.ownsRow w.heap.size 5 1 v bs.length (Lib.byteCells bs) := by rw [← hW2]; exact hown1
        have hnx2 : Below g w W2 := by rw [← hW2]; exact ⟨hnx1.os, hnx1.tape, hnx1.output, hnx1.size, hnx1.block⟩
        rw [hW2]
        clear hW2 hS1 hown1 hnx1 c0 c1 c2 f1
        obtain ⟨c0, c1, c2, f1⟩ := hS2.out
        have hS3 : RS g T (n + 1) (W2.setCell ⟨g, 1, none⟩ (.int .i64 ((n : Int) + 1))) := RS.step (m := n + 1) hS2.out
        have hc := hcv.out _ (own_set (x := .int .i64 ((n : Int) + 1)) hown2 hgw)
        have HS3 := Lib.hid hS3
        clear hS3 hcv
        go_wp2_with fail
        go_ret
        refine ⟨rfl, ?_, hnx2.setCell (p := ⟨g, 1, none⟩) (Nat.le_refl _) _⟩
        rw [← HEND.out]
        exact HS3.out
      | cons c suf =>
        have hpl : pre.length ≤ 4096 := by rw [hbs] at hb0; simp at hb0; omega
        have hen : escL bs = escL pre ++ (esc1 c ++ escL suf) := by rw [hbs, escL_append, escL_cons]
        have hl1 := esc1_length c
        have hlen : n + (esc1 c).length + 1 ≤ T.size := by rw [HSZ.out, hen, hn]; simp only [List.length_append]; omega
        have hbs2 : bs = (pre ++ [c]) ++ suf := by rw [hbs]; simp
        have hn2 : n + (esc1 c).length = 1 + (escL (pre ++ [c])).length := by rw [escL_append, escL_cons, escL_nil]; simp only [List.length_append, List.length_nil]; omega
        have hc256 : c.toNat < 256 := c.toNat_lt
        have hlt : n < T.size := by omega
        cases hsp : sp c.toNat
        · obtain ⟨h1, n1, n2, n3, n4, n5, n6, n7, n8⟩ := of_plain c hsp
          rw [h1] at hlen hn2
          simp only [List.length_cons, List.length_nil] at hlen hn2
          have hg := hget.out n hlt c (by rw [hen, h1, hn]; simp [Nat.add_comm 1])
          have hst2 : LitSt bs (pre ++ [c]) suf (n + 1) 1 := ⟨Or.inr ⟨rfl, by omega, hbs2⟩⟩
          clear hget hst hn hn2 hbs hbs2 hen hl1 h1 hsp
          go_wp2_with fail
          go_quiet (fail)
          obtain ⟨W1, hW1⟩ : ∃ X, wr.drewN nq = X := ⟨_, rfl⟩
          have hS1 : Hid (RS g T n W1) := by rw [← hW1]; exact RS.on hS.out rfl
          have hown1 : W1.ownsRow w.heap.size 5 1 v pre.length (Lib.byteCells pre) := by rw [← hW1]; exact hown
          have hnx1 : Below g w W1 := by rw [← hW1]; exact ⟨hnx.os, hnx.tape, hnx.output, hnx.size, hnx.block⟩
          rw [hW1]
          clear hW1 hS hown hnx c0 c1 c2 f1
          obtain ⟨c0, c1, c2, f1⟩ := hS1.out
          go_wp2_with fail
          go_quiet (fail)
          obtain ⟨W2, hW2⟩ : ∃ X, W1.drewN nq = X := ⟨_, rfl⟩
          have hS2 : Hid (RS g T n W2) := by rw [← hW2]; exact RS.on hS1.out rfl
          have hown2 : W2.ownsRow w.heap.size 5 1 v pre.length (Lib.byteCells pre) := by rw [← hW2]; exact hown1
          have hnx2 : Below g w W2 := by rw [← hW2]; exact ⟨hnx1.os, hnx1.tape, hnx1.output, hnx1.size, hnx1.block⟩
          rw [hW2]
          clear hW2 hS1 hown1 hnx1 c0 c1 c2 f1
          obtain ⟨c0, c1, c2, f1⟩ := hS2.out
          have hS3 : RS g T (n + 1) (W2.setCell ⟨g, 1, none⟩ (.int .i64 ((n : Int) + 1))) := RS.step (m := n + 1) hS2.out
          have hown3 := own_set (x := .int .i64 ((n : Int) + 1)) hown2 hgw
          have hnx3 : Below g w (W2.setCell ⟨g, 1, none⟩ (.int .i64 ((n : Int) + 1))) := hnx2.setCell (p := ⟨g, 1, none⟩) (Nat.le_refl _) _
          have HS3 := Lib.hid hS3
          have hs2 := hnx2.size
          clear hS3
          go_wp2_with (at_builtin; refine wpList_append_own _ rfl _ _ 29 rfl w.heap.size 5 i0 (.int .u8 0) 1 1 Tryd.underlying29 hi hz0 hz1 hz2 rfl (by decide) _ _ _ rfl (hown3.alloc _) ⟨W2.heap.size, 0, none⟩ 1 1 [Value.int .u8 (c.toNat : Int)] rfl rfl (by intro j u' hj; match j, hj with | 0, hj => simp at hj; subst hj; exact cell_new _ _ _ _ (by simp)) (by intro u' hu'; simp at hu'; subst hu'; rfl) (by unfold maxLen; omega) (by omega) (by simp; omega) ?_; intro v2 w2 hown4 hgrow _)
          have hS4 := RS.app HS3.out hgrow hown3 hgw
          refine ⟨⟨v2, 1, pre ++ [c], suf, n + 1, rfl, rfl, hst2, Lib.hid hS4, by rw [byteCells_snoc, List.length_append]; exact hown4, (hnx3.alloc (by simp; omega) _).grown hgrow (by simp; omega) (fun k hk => Nat.le_of_lt (Nat.lt_of_lt_of_le hgw (hown3.lt k hk).1))⟩, ?_⟩
          rw [atOf_eq hS4, hat.out]
          omega
        · obtain ⟨h1, hp⟩ := of_sp c hsp
          rw [h1] at hlen hn2
          simp only [List.length_cons, List.length_nil] at hlen hn2
          have hlt2 : n + 1 < T.size := by omega
          have hg := hget.out n hlt 92 (by rw [hen, h1, hn]; simp [Nat.add_comm 1])
          have hx := hget.out (n + 1) hlt2 (escC c) (by rw [hen, h1, hn, show 1 + (escL pre).length + 1 = (escL pre).length + 1 + 1 by omega]; simp)
          have hst2 : LitSt bs (pre ++ [c]) suf (n + 2) 1 := ⟨Or.inr ⟨rfl, by omega, hbs2⟩⟩
          have HP := Lib.hid hp
          have HX : Hid (T[n + 1].toNat = (escC c).toNat) := Lib.hid (by rw [hx])
          clear hget hst hn hn2 hbs hbs2 hen hl1 h1 hsp hx hp
          go_wp2_with fail
          go_quiet (fail)
          obtain ⟨W1, hW1⟩ : ∃ X, wr.drewN nq = X := ⟨_, rfl⟩
          have hS1 : Hid (RS g T n W1) := by rw [← hW1]; exact RS.on hS.out rfl
          have hown1 : W1.ownsRow w.heap.size 5 1 v pre.length (Lib.byteCells pre) := by rw [← hW1]; exact hown
          have hnx1 : Below g w W1 := by rw [← hW1]; exact ⟨hnx.os, hnx.tape, hnx.output, hnx.size, hnx.block⟩
          rw [hW1]
          clear hW1 hS hown hnx c0 c1 c2 f1
          obtain ⟨c0, c1, c2, f1⟩ := hS1.out
          go_wp2_with fail
          go_quiet (fail)
          obtain ⟨W2, hW2⟩ : ∃ X, W1.drewN nq = X := ⟨_, rfl⟩
          have hS2 : Hid (RS g T n W2) := by rw [← hW2]; exact RS.on hS1.out rfl
          have hown2 : W2.ownsRow w.heap.size 5 1 v pre.length (Lib.byteCells pre) := by rw [← hW2]; exact hown1
          have hnx2 : Below g w W2 := by rw [← hW2]; exact ⟨hnx1.os, hnx1.tape, hnx1.output, hnx1.size, hnx1.block⟩
          rw [hW2]
          clear hW2 hS1 hown1 hnx1 c0 c1 c2 f1
          obtain ⟨c0, c1, c2, f1⟩ := hS2.out
          have hS3 : RS g T (n + 1) (W2.setCell ⟨g, 1, none⟩ (.int .i64 ((n : Int) + 1))) := RS.step (m := n + 1) hS2.out
          have hown3 := own_set (x := .int .i64 ((n : Int) + 1)) hown2 hgw
          have hnx3 : Below g w (W2.setCell ⟨g, 1, none⟩ (.int .i64 ((n : Int) + 1))) := hnx2.setCell (p := ⟨g, 1, none⟩) (Nat.le_refl _) _
          have HS3 := Lib.hid hS3
          have hs2 := hnx2.size
          clear hS3
          go_wp2_with (go_at_call 69; refine (escapeR g T (n + 1) c.toNat _ HP.out _ HS3.out hlt2 HX.out htz).mono ?_; rintro e w3 ⟨rfl, hS4, hg4⟩; refine Hid.out ?_)
          refine Lib.hid ?_
          have hown4 := hown3.kept hg4 (by
            by_cases hv : v.ownBlock = none
            · exact Or.inl hv
            · exact Or.inr fun e => by have := (hown3.lt g e).1; omega)
          have hsz3 := hg4.size
          simp at hsz3
          have hnx4 : Below g w w3 := ⟨hg4.os.trans hnx3.os, hg4.tape.trans hnx3.tape, hg4.output.trans hnx3.output, by omega, fun k hk => (hg4.block k (by simp; omega) (fun e => by simp at e; omega)).trans (hnx3.block k hk)⟩
          have HS4 := Lib.hid hS4
          clear hS4 hown3 hg4
          go_wp2_with (at_builtin; refine wpList_append_own _ rfl _ _ 29 rfl w.heap.size 5 i0 (.int .u8 0) 1 1 Tryd.underlying29 hi hz0 hz1 hz2 rfl (by decide) _ _ _ rfl (hown4.alloc _) ⟨w3.heap.size, 0, none⟩ 1 1 [Value.int .u8 (c.toNat : Int)] rfl rfl (by intro j u' hj; match j, hj with | 0, hj => simp at hj; subst hj; exact cell_new _ _ _ _ (by simp)) (by intro u' hu'; simp at hu'; subst hu'; rfl) (by unfold maxLen; omega) (by omega) (by simp; omega) ?_; intro v2 w2 hown5 hgrow _)
          have hS5 := RS.app HS4.out hgrow hown4 hgw
          refine ⟨⟨v2, 1, pre ++ [c], suf, n + 2, rfl, rfl, hst2, Lib.hid hS5, by rw [byteCells_snoc, List.length_append]; exact hown5, (hnx4.alloc (by omega) _).grown hgrow (by simp; omega) (fun k hk => Nat.le_of_lt (Nat.lt_of_lt_of_le hgw (hown4.lt k hk).1))⟩, ?_⟩
          rw [atOf_eq hS5, hat.out]
          omega
end Go.Proofs.YtcohlcijgfdanaaDoor.esc
