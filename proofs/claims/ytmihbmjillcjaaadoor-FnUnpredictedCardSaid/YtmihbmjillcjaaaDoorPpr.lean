/-
  filter.process: a row is undone and written into a buffer.
-/
import Derived.Test.YtmihbmjillcjaaaDoorRd
import Derived.Test.YtmihbmjillcjaaaDoorShelf
namespace Go.Proofs.YtmihbmjillcjaaaDoor.up
set_option linter.unusedVariables false
set_option linter.unusedSimpArgs false
open Go.RowKit

/-- Below B only the blocks of L may turn. -/
structure Bel (B : Nat) (L : List Nat) (w w' : World) : Prop where
  os : w'.os = w.os
  tape : w'.tape = w.tape
  output : w'.output = w.output
  size : w.heap.size ≤ w'.heap.size
  block : ∀ k, k < B → k ∉ L → w'.heap[k]? = w.heap[k]?
theorem Bel.refl (B : Nat) (L : List Nat) (w : World) : Bel B L w w := ⟨rfl, rfl, rfl, Nat.le_refl _, fun _ _ _ => rfl⟩
theorem Bel.trans {B : Nat} {L : List Nat} {a b c : World} (h : Bel B L a b) (k : Bel B L b c) : Bel B L a c :=
  ⟨k.os.trans h.os, k.tape.trans h.tape, k.output.trans h.output, Nat.le_trans h.size k.size, fun i hi hn => (k.block i hi hn).trans (h.block i hi hn)⟩
theorem Bel.mono {B B' : Nat} {L L' : List Nat} {a b : World} (h : Bel B L a b) (hB : B' ≤ B) (hl : ∀ x ∈ L, x ∈ L') : Bel B' L' a b := ⟨h.os, h.tape, h.output, h.size, fun i hi hn => h.block i (Nat.lt_of_lt_of_le hi hB) (fun e => hn (hl i e))⟩
theorem Bel.of_kept {B : Nat} {L : List Nat} {a b : World} (h : Kept L a b) (hB : B ≤ a.heap.size) : Bel B L a b := ⟨h.os, h.tape, h.output, h.size, fun k hk hn => h.block k (by omega) hn⟩
theorem Bel.of_below {B : Nat} {a b : World} (h : Below B a b) (L : List Nat) : Bel B L a b := ⟨h.os, h.tape, h.output, h.size, fun k hk _ => h.block k hk⟩
theorem Bel.drewN {B : Nat} {L : List Nat} {a b : World} (h : Bel B L a b) (n : Nat) : Bel B L a (b.drewN n) := ⟨h.os, h.tape, h.output, h.size, h.block⟩
theorem Bel.drew {B : Nat} {L : List Nat} {a b : World} (h : Bel B L a b) : Bel B L a b.drew := ⟨h.os, h.tape, h.output, h.size, h.block⟩
theorem Bel.alloc {B : Nat} {L : List Nat} {a b : World} (h : Bel B L a b) (hB : B ≤ b.heap.size) (o : Obj) : Bel B L a (b.alloc o) :=
  h.trans (.of_kept ((Kept.refl _ _).alloc o) hB)
theorem Bel.cell {B : Nat} {L : List Nat} {a b : World} (h : Bel B L a b) {p : Addr} {v : Value} (hc : a.cell? p = some v) (hB : p.block < B) (hp : p.block ∉ L) : b.cell? p = some v :=
  (World.cell?_of_block (h.block _ hB hp)).trans hc
theorem Bel.row {B : Nat} {L : List Nat} {a b : World} {k n : Nat} {t : TypeId} {f : Nat → Value} (h : Bel B L a b) (hr : a.rowIs k t n f) (hB : k < B) (hp : k ∉ L) : b.rowIs k t n f := hr.of_block (h.block k hB hp)
theorem Bel.rd {B : Nat} {L : List Nat} {a b : World} {rb db N C pos : Nat} {z : Nat → Int} (k : Bel B L a b) (h : RdIs a rb db N C z pos) (hB : rb < B) (hB2 : db < B) (h1 : rb ∉ L) (h2 : db ∉ L) : RdIs b rb db N C z pos := by
  obtain ⟨pr, hc⟩ := h.cells
  exact ⟨⟨pr, (k.block rb hB h1).trans hc⟩, fun i hi => k.cell (h.data i hi) hB2 h2, h.le, h.bound, h.ne, h.cap⟩
/-- New blocks lie from B on. -/
theorem Bel.kept {B : Nat} {L L' : List Nat} {a b : World} (h : Bel B L a b) (hB : a.heap.size ≤ B) (hl : ∀ x ∈ L, x ∈ L' ∨ a.heap.size ≤ x) : Kept L' a b :=
  ⟨h.os, h.tape, h.output, h.size, fun k hk hn => h.block k (by omega) (fun e => by rcases hl k e with h | h; exact hn h; omega)⟩

theorem buf_keep {L : List Nat} {w W : World} {B b : Nat} {bs : List Value} (h : Kept L w W) (hL : ∀ x ∈ L, x < B) (hI : Lib.IsBuffer 82 5 B b bs w) : Lib.IsBuffer 82 5 B b bs W := by
  obtain ⟨h1, v, lr, h2, ⟨h3, h4⟩, h5⟩ := hI
  refine ⟨h1, v, lr, (h.block b (Array.getElem?_eq_some_iff.1 h2).1 (fun e => by have := hL b e; omega)).trans h2, ⟨h3, ?_⟩, h5⟩
  rcases h4 with h4 | ⟨g, cap, cur, e, hg, hc, r⟩
  · exact .inl h4
  · exact .inr ⟨g, cap, cur, e, hg, (h.block g (Array.getElem?_eq_some_iff.1 hc).1 (fun e => by have := hL g e; omega)).trans hc, r⟩

/-- A row: h bytes that tell its filter (none, or one), and f behind. -/
def rwh (h : Nat) (t : Int) (f : Nat → Int) : Nat → Value := fun j => if j < h then .int .u8 t else .int .u8 (f (j - h))
theorem rwh_one (t : Int) (f : Nat → Int) : rwh 1 t f = rw8 t f := by
  funext j
  unfold rwh rw8
  by_cases h : j = 0
  · subst h; rfl
  · rw [if_neg (by omega), if_neg h]
theorem rwh_zero (t : Int) (f : Nat → Int) : rwh 0 t f = r8 f := by
  funext j
  unfold rwh r8
  rw [if_neg (by omega), Nat.sub_zero]

/-- The parameters of a prediction, as they belong together. -/
structure Cfg (p : Int) (colors columns size bpp h : Nat) : Prop where
  kind : (h = 1 ∧ p ≠ 2) ∨ (h = 0 ∧ p = 2 ∧ bpp = colors ∧ size = columns * colors)
  b1 : 1 ≤ bpp
  b2 : bpp ≤ size
  s : size ≤ 100000
  c1 : 1 ≤ colors
  c2 : colors ≤ 8
  d1 : 1 ≤ columns
  d2 : columns ≤ 1000
def TagH (h : Nat) (t : Int) : Prop := (h = 1 → Tag t) ∧ (h = 0 → t = 1)

theorem row39_any (p : Int) (colors columns size bpp h : Nat) (C : Cfg p colors columns size bpp h) (t : Int) (ht : TagH h t) (raw above : Nat → Int) (hraw : Bytes raw) (habv : Bytes above) (tp : Int) (bc bp : Nat) (w : World)
    (hc : w.rowIs bc 5 (size + h) (rwh h t raw)) (hpr : w.rowIs bp 5 (size + h) (rwh h tp above)) (hne : bp ≠ bc) :
    Calls Tryd.prog 39 #[.slice (some ⟨bp, 0, none⟩) (size + h) (size + h), .slice (some ⟨bc, 0, none⟩) (size + h) (size + h), .int .i64 p, .int .i64 colors, .int .i64 bpp] w fun e w' =>
      e = .returned (.tuple #[.slice (some ⟨bc, h, none⟩) size size, .nilIface]) ∧ w'.rowIs bc 5 (size + h) (rwh h t (mx size (pv t bpp raw above) raw)) ∧ w.grownBy w' (some bc) := by
  rcases C.kind with ⟨rfl, hp⟩ | ⟨rfl, rfl, rfl, hs⟩
  · rw [rwh_one] at hc hpr ⊢
    exact row39 t p colors (ht.1 rfl) size bpp hp C.b1 C.b2 C.s raw above hraw habv tp bc bp w hc hpr hne
  · rw [rwh_zero] at hc ⊢
    obtain rfl := ht.2 rfl
    exact row39_tiff bpp columns size bpp _ hs C.c1 C.c2 C.d1 C.d2 raw above hraw bc w hc

theorem nil63 (a : Addr) (w : World) : (nilAhead 221 67 (.pointer (some a)) "Write").run Tryd.prog w = .ok (some false) w := by kernel_rfl
theorem meth63 (a : Addr) (w : World) : (method 221 67 (.pointer (some a)) "Write").run Tryd.prog w = .ok (63, .pointer (some a)) w := by kernel_rfl

set_option maxHeartbeats 2000000 in
set_option maxRecDepth 100000 in
theorem process37 (p : Int) (colors columns size bpp h : Nat) (C : Cfg p colors columns size bpp h) (t : Int) (ht : TagH h t) (raw above : Nat → Int) (hraw : Bytes raw) (habv : Bytes above) (tp : Int) (bc bp : Nat) (w : World)
    (hc : w.rowIs bc 5 (size + h) (rwh h t raw)) (hpr : w.rowIs bp 5 (size + h) (rwh h tp above)) (hne : bp ≠ bc) (B b : Nat) (bs : List Value) (hbc : bc < B) (hbp : bp < B) (hI : Lib.IsBuffer 82 5 B b bs w) (hbs : ∀ v ∈ bs, v.oneCell' = true) (hlim : bs.length ≤ 1000000) :
    Calls Tryd.prog 37 #[.iface 67 (.pointer (some ⟨b, 0, none⟩)), .slice (some ⟨bp, 0, none⟩) (size + h) (size + h), .slice (some ⟨bc, 0, none⟩) (size + h) (size + h), .int .i64 p, .int .i64 colors, .int .i64 bpp] w fun e w' =>
      e = .returned .nilIface ∧ w'.rowIs bc 5 (size + h) (rwh h t (pv t bpp raw above)) ∧ Lib.IsBuffer 82 5 B b (bs ++ bs8 size (pv t bpp raw above)) w' ∧ Bel B [bc] w w' := by
  have hs := C.s
  have hBb := hI.1
  have hBw : B ≤ w.heap.size := Nat.le_of_lt (Nat.lt_of_le_of_lt hBb hI.lt)
  have hR := Lib.hid (row39_any p colors columns size bpp h C t ht raw above hraw habv tp bc bp w hc hpr hne)
  have hIk : Hid (∀ W, w.grownBy W (some bc) → Lib.IsBuffer 82 5 B b bs W) := Lib.hid fun W hW => buf_keep (Kept.of_grown (L := [bc]) hW (by simp)) (by simp; omega) hI
  have n1 := nil63 ⟨b, 0, none⟩
  have n2 := meth63 ⟨b, 0, none⟩
  have HC := Lib.hid C
  have HBS := Lib.hid hbs
  clear hc hpr hraw habv hI hbs C
  go_enter Tryd.func37, Tryd.ntmps37
  go_wp2_with (go_at_call 39; refine hR.out.mono ?_; rintro e W1 ⟨rfl, r1, r2⟩; refine Hid.out ?_)
  refine Lib.hid ?_
  have HI1 := Lib.hid (hIk.out W1 r2)
  have R1 := Lib.hid r1
  have R2 := Lib.hid r2
  have hsz1 := r2.size
  have hBw1 : B ≤ W1.heap.size := by omega
  have hW := Lib.hid (Tryd.Buffer_Write_kept B b bs (bs8 size (pv t bpp raw above)) ⟨bc, h, none⟩ size size W1 HI1.out hBw1 HBS.out (bs8_length _ _) hbc (fun j v hj => by
    obtain ⟨hjm, rfl⟩ := bs8_inv hj
    rw [addr_add, R1.out.cell (by omega)]
    unfold rwh
    rw [if_neg (by omega), Nat.add_sub_cancel_left, mx_lt hjm]) bs8_one (by omega))
  clear r1 r2 hsz1
  go_wp2_with (go_at_call 63; refine hW.out.mono ?_; rintro e W2 ⟨rfl, q1, q2, q3⟩; refine Hid.out ?_)
  refine Lib.hid ?_
  have Q1 := Lib.hid q1
  have Q2 := Lib.hid q2
  clear q1 q2 q3
  go_wp2_with fail
  go_ret
  refine ⟨rfl, ?_, Q1.out, ?_⟩
  · refine (R1.out.of_block (Q2.out.block bc hbc)).congr fun i hi => ?_
    unfold rwh
    by_cases h0 : i < h
    · rw [if_pos h0, if_pos h0]
    · rw [if_neg h0, if_neg h0, mx_lt (by omega)]
  · exact (Bel.of_kept (Kept.of_grown R2.out (by simp)) hBw).trans (Bel.of_below Q2.out _)
end Go.Proofs.YtmihbmjillcjaaaDoor.up
