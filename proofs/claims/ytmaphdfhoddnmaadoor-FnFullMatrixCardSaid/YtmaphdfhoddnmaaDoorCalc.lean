/-
  CalcTransformMatrix and impl.FullMatrix: two products over the identity that the variable holds.
-/
import Derived.Test.YtmaphdfhoddnmaaDoorMul
import Derived.Lib.Hide
import Derived.Deep.RegionHeld3
namespace Go.Proofs.YtmaphdfhoddnmaaDoor
open Go.RowKit

theorem keepC {W w1 : World} (hb : Below W.heap.size W w1) {b o : Nat} {v : Value} (h : W.cell? ⟨b, o, none⟩ = some v) : w1.cell? ⟨b, o, none⟩ = some v :=
  (hb.cell (p := ⟨b, o, none⟩) (World.block_lt_of_cell? W _ h)).trans h
theorem keepF {W w1 : World} (hb : Below W.heap.size W w1) {b : Nat} (hlt : b < W.heap.size) (h : ∀ o, W.frozen? ⟨b, o, none⟩ = false) : ∀ o, w1.frozen? ⟨b, o, none⟩ = false :=
  fun o => (hb.frozen (p := ⟨b, o, none⟩) hlt).trans (h o)
theorem thenC {w W w1 : World} (h : Below w.heap.size w W) (hb : Below W.heap.size W w1) : Below w.heap.size w w1 := h.trans (hb.mono h.size)

def ofL (l : List Nat) (e : Nat) : Nat := l.getD e 0
theorem neg_run (P : Program) : ∀ (x : Nat) (w : World), (Op.unary .neg (.float .f64 x)).run P w = .ok (.float .f64 (Op.negFloat .f64 x)) w := fun _ _ => rfl
abbrev one : Nat := 4607182418800017408
/-- The identity in the variable's block. -/
def Ident (w : World) : Prop := ∀ i, i < 9 → w.cell? ⟨0, i, none⟩ = some (fl (ofL [one, 0, 0, 0, one, 0, 0, 0, one]) i)
theorem Ident.lt {w : World} (h : Ident w) : 0 < w.heap.size := World.block_lt_of_cell? w _ (h 0 (by omega))
theorem Ident.alloc {w : World} (h : Ident w) (o : Obj) : Ident (w.alloc o) := fun i hi => by rw [World.cell?_alloc_past _ _ _ h.lt]; exact h i hi
theorem Ident.below {w w' : World} (h : Ident w) (hb : Below w.heap.size w w') : Ident w' := fun i hi => (hb.cell (p := ⟨0, i, none⟩) h.lt).trans (h i hi)

set_option maxHeartbeats 4000000 in
theorem calcM (sx sy sn cs dx dy : Nat) (part part2 : Nat → Nat → Nat)
    (H1 : Prod (ofL [sx, 0, 0, 0, sy, 0, 0, 0, one]) (ofL [cs, sn, 0, Op.negFloat .f64 sn, cs, 0, 0, 0, one]) part)
    (H2 : Prod (fun e => part e 3) (ofL [one, 0, 0, 0, one, 0, dx, dy, one]) part2) (w : World) (hI : Ident w) :
    Calls Tryd.prog 9 #[.float .f64 sx, .float .f64 sy, .float .f64 sn, .float .f64 cs, .float .f64 dx, .float .f64 dy] w fun e w' => e = .returned (mval fun e => part2 e 3) ∧ Below w.heap.size w w' := by
  have C1 : ∀ w, Calls Tryd.prog 10 #[.agg #[.float .f64 sx, .float .f64 0, .float .f64 0, .float .f64 0, .float .f64 sy, .float .f64 0, .float .f64 0, .float .f64 0, .float .f64 one],
      .agg #[.float .f64 cs, .float .f64 sn, .float .f64 0, .float .f64 (Op.negFloat .f64 sn), .float .f64 cs, .float .f64 0, .float .f64 0, .float .f64 0, .float .f64 one]] w
      fun e w' => e = .returned (.agg #[.float .f64 (part 0 3), .float .f64 (part 1 3), .float .f64 (part 2 3), .float .f64 (part 3 3), .float .f64 (part 4 3), .float .f64 (part 5 3), .float .f64 (part 6 3), .float .f64 (part 7 3), .float .f64 (part 8 3)]) ∧ Below w.heap.size w w' := fun w => multiply _ _ part H1 w
  have C2 : ∀ w, Calls Tryd.prog 10 #[.agg #[.float .f64 (part 0 3), .float .f64 (part 1 3), .float .f64 (part 2 3), .float .f64 (part 3 3), .float .f64 (part 4 3), .float .f64 (part 5 3), .float .f64 (part 6 3), .float .f64 (part 7 3), .float .f64 (part 8 3)],
      .agg #[.float .f64 one, .float .f64 0, .float .f64 0, .float .f64 0, .float .f64 one, .float .f64 0, .float .f64 dx, .float .f64 dy, .float .f64 one]] w
      fun e w' => e = .returned (.agg #[.float .f64 (part2 0 3), .float .f64 (part2 1 3), .float .f64 (part2 2 3), .float .f64 (part2 3 3), .float .f64 (part2 4 3), .float .f64 (part2 5 3), .float .f64 (part2 6 3), .float .f64 (part2 7 3), .float .f64 (part2 8 3)]) ∧ Below w.heap.size w w' := fun w => multiply _ _ part2 H2 w
  have HC1 := Lib.hid C1
  have HC2 := Lib.hid C2
  clear C1 C2 H1 H2
  have h0 : 0 < w.heap.size := hI.lt
  have c0 : w.cell? ⟨0, 0, none⟩ = some (.float .f64 one) := hI 0 (by omega)
  have c1 : w.cell? ⟨0, 1, none⟩ = some (.float .f64 0) := hI 1 (by omega)
  have c2 : w.cell? ⟨0, 2, none⟩ = some (.float .f64 0) := hI 2 (by omega)
  have c3 : w.cell? ⟨0, 3, none⟩ = some (.float .f64 0) := hI 3 (by omega)
  have c4 : w.cell? ⟨0, 4, none⟩ = some (.float .f64 one) := hI 4 (by omega)
  have c5 : w.cell? ⟨0, 5, none⟩ = some (.float .f64 0) := hI 5 (by omega)
  have c6 : w.cell? ⟨0, 6, none⟩ = some (.float .f64 0) := hI 6 (by omega)
  have c7 : w.cell? ⟨0, 7, none⟩ = some (.float .f64 0) := hI 7 (by omega)
  have c8 : w.cell? ⟨0, 8, none⟩ = some (.float .f64 one) := hI 8 (by omega)
  obtain ⟨W, hW⟩ : ∃ W, (((w.alloc (.cells (marr (ofL [0, 0, 0, 0, 0, 0, 0, 0, 0])) 34)).alloc (.cells (marr (ofL [sx, 0, 0, 0, sy, 0, 0, 0, one])) 34)).alloc (.cells (marr (ofL [cs, sn, 0, Op.negFloat .f64 sn, cs, 0, 0, 0, one])) 34)).alloc (.cells (marr (ofL [one, 0, 0, 0, one, 0, dx, dy, one])) 34) = W := ⟨_, rfl⟩
  have hsz : W.heap.size = w.heap.size + 4 := by rw [← hW]; simp
  have bel : Below w.heap.size w W := by
    rw [← hW]
    exact ((((Below.refl _ _).alloc (Nat.le_refl _) _).alloc (by simp) _).alloc (by simp; omega) _).alloc (by simp; omega) _
  have nr : Nine W (w.heap.size) (ofL [0, 0, 0, 0, 0, 0, 0, 0, 0]) := by rw [← hW]; exact (((nine_new w _ _ rfl).alloc _).alloc _).alloc _
  have np : Nine W (w.heap.size + 1) (ofL [sx, 0, 0, 0, sy, 0, 0, 0, one]) := by rw [← hW]; exact ((nine_new _ _ _ (by simp)).alloc _).alloc _
  have nq : Nine W (w.heap.size + 1 + 1) (ofL [cs, sn, 0, Op.negFloat .f64 sn, cs, 0, 0, 0, one]) := by rw [← hW]; exact (nine_new _ _ _ (by simp)).alloc _
  have ns : Nine W (w.heap.size + 1 + 1 + 1) (ofL [one, 0, 0, 0, one, 0, dx, dy, one]) := by rw [← hW]; exact nine_new _ _ _ (by simp)
  have r0 : W.cell? ⟨w.heap.size, 0, none⟩ = some (.float .f64 0) := World.rowIs.cell nr (i := 0) (by omega)
  have r1 : W.cell? ⟨w.heap.size, 1, none⟩ = some (.float .f64 0) := World.rowIs.cell nr (i := 1) (by omega)
  have r2 : W.cell? ⟨w.heap.size, 2, none⟩ = some (.float .f64 0) := World.rowIs.cell nr (i := 2) (by omega)
  have r3 : W.cell? ⟨w.heap.size, 3, none⟩ = some (.float .f64 0) := World.rowIs.cell nr (i := 3) (by omega)
  have r4 : W.cell? ⟨w.heap.size, 4, none⟩ = some (.float .f64 0) := World.rowIs.cell nr (i := 4) (by omega)
  have r5 : W.cell? ⟨w.heap.size, 5, none⟩ = some (.float .f64 0) := World.rowIs.cell nr (i := 5) (by omega)
  have r6 : W.cell? ⟨w.heap.size, 6, none⟩ = some (.float .f64 0) := World.rowIs.cell nr (i := 6) (by omega)
  have r7 : W.cell? ⟨w.heap.size, 7, none⟩ = some (.float .f64 0) := World.rowIs.cell nr (i := 7) (by omega)
  have r8 : W.cell? ⟨w.heap.size, 8, none⟩ = some (.float .f64 0) := World.rowIs.cell nr (i := 8) (by omega)
  have p0 : W.cell? ⟨w.heap.size + 1, 0, none⟩ = some (.float .f64 sx) := World.rowIs.cell np (i := 0) (by omega)
  have p1 : W.cell? ⟨w.heap.size + 1, 1, none⟩ = some (.float .f64 0) := World.rowIs.cell np (i := 1) (by omega)
  have p2 : W.cell? ⟨w.heap.size + 1, 2, none⟩ = some (.float .f64 0) := World.rowIs.cell np (i := 2) (by omega)
  have p3 : W.cell? ⟨w.heap.size + 1, 3, none⟩ = some (.float .f64 0) := World.rowIs.cell np (i := 3) (by omega)
  have p4 : W.cell? ⟨w.heap.size + 1, 4, none⟩ = some (.float .f64 sy) := World.rowIs.cell np (i := 4) (by omega)
  have p5 : W.cell? ⟨w.heap.size + 1, 5, none⟩ = some (.float .f64 0) := World.rowIs.cell np (i := 5) (by omega)
  have p6 : W.cell? ⟨w.heap.size + 1, 6, none⟩ = some (.float .f64 0) := World.rowIs.cell np (i := 6) (by omega)
  have p7 : W.cell? ⟨w.heap.size + 1, 7, none⟩ = some (.float .f64 0) := World.rowIs.cell np (i := 7) (by omega)
  have p8 : W.cell? ⟨w.heap.size + 1, 8, none⟩ = some (.float .f64 one) := World.rowIs.cell np (i := 8) (by omega)
  have q0 : W.cell? ⟨w.heap.size + 1 + 1, 0, none⟩ = some (.float .f64 cs) := World.rowIs.cell nq (i := 0) (by omega)
  have q1 : W.cell? ⟨w.heap.size + 1 + 1, 1, none⟩ = some (.float .f64 sn) := World.rowIs.cell nq (i := 1) (by omega)
  have q2 : W.cell? ⟨w.heap.size + 1 + 1, 2, none⟩ = some (.float .f64 0) := World.rowIs.cell nq (i := 2) (by omega)
  have q3 : W.cell? ⟨w.heap.size + 1 + 1, 3, none⟩ = some (.float .f64 (Op.negFloat .f64 sn)) := World.rowIs.cell nq (i := 3) (by omega)
  have q4 : W.cell? ⟨w.heap.size + 1 + 1, 4, none⟩ = some (.float .f64 cs) := World.rowIs.cell nq (i := 4) (by omega)
  have q5 : W.cell? ⟨w.heap.size + 1 + 1, 5, none⟩ = some (.float .f64 0) := World.rowIs.cell nq (i := 5) (by omega)
  have q6 : W.cell? ⟨w.heap.size + 1 + 1, 6, none⟩ = some (.float .f64 0) := World.rowIs.cell nq (i := 6) (by omega)
  have q7 : W.cell? ⟨w.heap.size + 1 + 1, 7, none⟩ = some (.float .f64 0) := World.rowIs.cell nq (i := 7) (by omega)
  have q8 : W.cell? ⟨w.heap.size + 1 + 1, 8, none⟩ = some (.float .f64 one) := World.rowIs.cell nq (i := 8) (by omega)
  have s0 : W.cell? ⟨w.heap.size + 1 + 1 + 1, 0, none⟩ = some (.float .f64 one) := World.rowIs.cell ns (i := 0) (by omega)
  have s1 : W.cell? ⟨w.heap.size + 1 + 1 + 1, 1, none⟩ = some (.float .f64 0) := World.rowIs.cell ns (i := 1) (by omega)
  have s2 : W.cell? ⟨w.heap.size + 1 + 1 + 1, 2, none⟩ = some (.float .f64 0) := World.rowIs.cell ns (i := 2) (by omega)
  have s3 : W.cell? ⟨w.heap.size + 1 + 1 + 1, 3, none⟩ = some (.float .f64 0) := World.rowIs.cell ns (i := 3) (by omega)
  have s4 : W.cell? ⟨w.heap.size + 1 + 1 + 1, 4, none⟩ = some (.float .f64 one) := World.rowIs.cell ns (i := 4) (by omega)
  have s5 : W.cell? ⟨w.heap.size + 1 + 1 + 1, 5, none⟩ = some (.float .f64 0) := World.rowIs.cell ns (i := 5) (by omega)
  have s6 : W.cell? ⟨w.heap.size + 1 + 1 + 1, 6, none⟩ = some (.float .f64 dx) := World.rowIs.cell ns (i := 6) (by omega)
  have s7 : W.cell? ⟨w.heap.size + 1 + 1 + 1, 7, none⟩ = some (.float .f64 dy) := World.rowIs.cell ns (i := 7) (by omega)
  have s8 : W.cell? ⟨w.heap.size + 1 + 1 + 1, 8, none⟩ = some (.float .f64 one) := World.rowIs.cell ns (i := 8) (by omega)
  have rf := World.rowIs.frozen nr
  have HW := Lib.hid hW
  have HB := Lib.hid bel
  clear hW bel nr np nq ns
  simp only [marr, ofL, List.getD_cons_zero, List.getD_cons_succ] at HW
  have hn := neg_run Tryd.prog
  have h1 : 0 < w.heap.size + 1 := by omega
  have h2 : 0 < w.heap.size + 1 + 1 := by omega
  have h3 : 0 < w.heap.size + 1 + 1 + 1 := by omega
  simp only [mval]
  clear hI
  go_enter Tryd.func9, Tryd.ntmps9
  go_wp2_with fail
  rw [HW.out]
  clear c0 c1 c2 c3 c4 c5 c6 c7 c8 h0 h1 h2 h3
  have g0 : w.heap.size < W.heap.size := by omega
  go_region_held3 (fun w' => w'.cell? ⟨w.heap.size + 1, 0, none⟩ = some (.float .f64 sx) ∧ w'.cell? ⟨w.heap.size + 1, 1, none⟩ = some (.float .f64 0) ∧ w'.cell? ⟨w.heap.size + 1, 2, none⟩ = some (.float .f64 0) ∧ w'.cell? ⟨w.heap.size + 1, 3, none⟩ = some (.float .f64 0) ∧ w'.cell? ⟨w.heap.size + 1, 4, none⟩ = some (.float .f64 sy) ∧ w'.cell? ⟨w.heap.size + 1, 5, none⟩ = some (.float .f64 0) ∧ w'.cell? ⟨w.heap.size + 1, 6, none⟩ = some (.float .f64 0) ∧ w'.cell? ⟨w.heap.size + 1, 7, none⟩ = some (.float .f64 0) ∧ w'.cell? ⟨w.heap.size + 1, 8, none⟩ = some (.float .f64 one) ∧ w'.cell? ⟨w.heap.size + 1 + 1, 0, none⟩ = some (.float .f64 cs) ∧ w'.cell? ⟨w.heap.size + 1 + 1, 1, none⟩ = some (.float .f64 sn) ∧ w'.cell? ⟨w.heap.size + 1 + 1, 2, none⟩ = some (.float .f64 0) ∧ w'.cell? ⟨w.heap.size + 1 + 1, 3, none⟩ = some (.float .f64 (Op.negFloat .f64 sn)) ∧ w'.cell? ⟨w.heap.size + 1 + 1, 4, none⟩ = some (.float .f64 cs) ∧ w'.cell? ⟨w.heap.size + 1 + 1, 5, none⟩ = some (.float .f64 0) ∧ w'.cell? ⟨w.heap.size + 1 + 1, 6, none⟩ = some (.float .f64 0) ∧ w'.cell? ⟨w.heap.size + 1 + 1, 7, none⟩ = some (.float .f64 0) ∧ w'.cell? ⟨w.heap.size + 1 + 1, 8, none⟩ = some (.float .f64 one) ∧ w'.cell? ⟨w.heap.size + 1 + 1 + 1, 0, none⟩ = some (.float .f64 one) ∧ w'.cell? ⟨w.heap.size + 1 + 1 + 1, 1, none⟩ = some (.float .f64 0) ∧ w'.cell? ⟨w.heap.size + 1 + 1 + 1, 2, none⟩ = some (.float .f64 0) ∧ w'.cell? ⟨w.heap.size + 1 + 1 + 1, 3, none⟩ = some (.float .f64 0) ∧ w'.cell? ⟨w.heap.size + 1 + 1 + 1, 4, none⟩ = some (.float .f64 one) ∧ w'.cell? ⟨w.heap.size + 1 + 1 + 1, 5, none⟩ = some (.float .f64 0) ∧ w'.cell? ⟨w.heap.size + 1 + 1 + 1, 6, none⟩ = some (.float .f64 dx) ∧ w'.cell? ⟨w.heap.size + 1 + 1 + 1, 7, none⟩ = some (.float .f64 dy) ∧ w'.cell? ⟨w.heap.size + 1 + 1 + 1, 8, none⟩ = some (.float .f64 one))
    (((try dsimp only); (repeat' apply And.intro) <;> ((repeat (with_reducible refine (World.cell?_setCell_far _ _ _ _ (by (try simp); (try omega))).trans ?_)); first | with_reducible assumption | (rw [World.cell?_drew]; with_reducible assumption))))
    (first
      | ((with_reducible refine (HC1.out _).mono ?_); rintro e' w1 ⟨rfl, hbk⟩; (have ip0 := keepC hbk p0); (have ip1 := keepC hbk p1); (have ip2 := keepC hbk p2); (have ip3 := keepC hbk p3); (have ip4 := keepC hbk p4); (have ip5 := keepC hbk p5); (have ip6 := keepC hbk p6); (have ip7 := keepC hbk p7); (have ip8 := keepC hbk p8); (have iq0 := keepC hbk q0); (have iq1 := keepC hbk q1); (have iq2 := keepC hbk q2); (have iq3 := keepC hbk q3); (have iq4 := keepC hbk q4); (have iq5 := keepC hbk q5); (have iq6 := keepC hbk q6); (have iq7 := keepC hbk q7); (have iq8 := keepC hbk q8); (have is0 := keepC hbk s0); (have is1 := keepC hbk s1); (have is2 := keepC hbk s2); (have is3 := keepC hbk s3); (have is4 := keepC hbk s4); (have is5 := keepC hbk s5); (have is6 := keepC hbk s6); (have is7 := keepC hbk s7); (have is8 := keepC hbk s8); (have x0 := keepC hbk r0); (have x1 := keepC hbk r1); (have x2 := keepC hbk r2); (have x3 := keepC hbk r3); (have x4 := keepC hbk r4); (have x5 := keepC hbk r5); (have x6 := keepC hbk r6); (have x7 := keepC hbk r7); (have x8 := keepC hbk r8); (have rf1 := keepF hbk g0 rf); (have HB1 : Hid (Below w.heap.size w w1) := thenC (Below.drew HB.out) hbk); (have g1 : w.heap.size < w1.heap.size := Nat.lt_of_lt_of_le g0 hbk.size))
      | ((with_reducible refine (HC2.out _).mono ?_); rintro e' w2 ⟨rfl, hbm⟩; (have jp0 := keepC hbm ip0); (have jp1 := keepC hbm ip1); (have jp2 := keepC hbm ip2); (have jp3 := keepC hbm ip3); (have jp4 := keepC hbm ip4); (have jp5 := keepC hbm ip5); (have jp6 := keepC hbm ip6); (have jp7 := keepC hbm ip7); (have jp8 := keepC hbm ip8); (have jq0 := keepC hbm iq0); (have jq1 := keepC hbm iq1); (have jq2 := keepC hbm iq2); (have jq3 := keepC hbm iq3); (have jq4 := keepC hbm iq4); (have jq5 := keepC hbm iq5); (have jq6 := keepC hbm iq6); (have jq7 := keepC hbm iq7); (have jq8 := keepC hbm iq8); (have js0 := keepC hbm is0); (have js1 := keepC hbm is1); (have js2 := keepC hbm is2); (have js3 := keepC hbm is3); (have js4 := keepC hbm is4); (have js5 := keepC hbm is5); (have js6 := keepC hbm is6); (have js7 := keepC hbm is7); (have js8 := keepC hbm is8); (have y0 := keepC hbm x0); (have y1 := keepC hbm x1); (have y2 := keepC hbm x2); (have y3 := keepC hbm x3); (have y4 := keepC hbm x4); (have y5 := keepC hbm x5); (have y6 := keepC hbm x6); (have y7 := keepC hbm x7); (have y8 := keepC hbm x8); (have rf2 := keepF hbm g1 rf1); (have HB2 : Hid (Below w.heap.size w w2) := thenC HB1.out hbm)))
  clear p0 p1 p2 p3 p4 p5 p6 p7 p8 q0 q1 q2 q3 q4 q5 q6 q7 q8 s0 s1 s2 s3 s4 s5 s6 s7 s8 r0 r1 r2 r3 r4 r5 r6 r7 r8 ip0 ip1 ip2 ip3 ip4 ip5 ip6 ip7 ip8 iq0 iq1 iq2 iq3 iq4 iq5 iq6 iq7 iq8 is0 is1 is2 is3 is4 is5 is6 is7 is8 x0 x1 x2 x3 x4 x5 x6 x7 x8 jp0 jp1 jp2 jp3 jp4 jp5 jp6 jp7 jp8 jq0 jq1 jq2 jq3 jq4 jq5 jq6 jq7 jq8 js0 js1 js2 js3 js4 js5 js6 js7 js8 HC1 HC2 HW hbk hbm HB HB1
  go_wp2
  refine bodyPost_ret (v := .agg #[.float .f64 (part2 0 3), .float .f64 (part2 1 3), .float .f64 (part2 2 3), .float .f64 (part2 3 3), .float .f64 (part2 4 3), .float .f64 (part2 5 3), .float .f64 (part2 6 3), .float .f64 (part2 7 3), .float .f64 (part2 8 3)]) ?_ rfl ⟨rfl, ?_⟩
  · simp [results, Tryd.results9, go_sem, y0, y1, y2, y3, y4, y5, y6, y7, y8]
  · repeat' (first | with_reducible exact HB2.out | refine Below.setCell ?_ ?_ _ | (simp; done) | (simp; omega))

set_option maxHeartbeats 4000000 in
theorem fullMatrix (sx sy sn cs dx dy : Nat) (part part2 : Nat → Nat → Nat)
    (H1 : Prod (ofL [sx, 0, 0, 0, sy, 0, 0, 0, one]) (ofL [cs, sn, 0, Op.negFloat .f64 sn, cs, 0, 0, 0, one]) part)
    (H2 : Prod (fun e => part e 3) (ofL [one, 0, 0, 0, one, 0, dx, dy, one]) part2) (w : World) (hI : Ident w) :
    Calls Tryd.prog 6 #[.float .f64 sx, .float .f64 sy, .float .f64 sn, .float .f64 cs, .float .f64 dx, .float .f64 dy] w fun e w' => e = .returned (mval fun e => part2 e 3) ∧ Below w.heap.size w w' := by
  have HC := Lib.hid (fun w' hI' => calcM sx sy sn cs dx dy part part2 H1 H2 w' hI')
  clear H1 H2
  simp only [mval] at HC ⊢
  obtain ⟨W, hW⟩ : ∃ W, w.alloc (.cells #[.float .f64 0, .float .f64 0, .float .f64 0, .float .f64 0, .float .f64 0, .float .f64 0, .float .f64 0, .float .f64 0, .float .f64 0] 29) = W := ⟨_, rfl⟩
  have hsz : W.heap.size = w.heap.size + 1 := by rw [← hW]; simp
  have bel : Below w.heap.size w W := by rw [← hW]; exact (Below.refl _ _).alloc (Nat.le_refl _) _
  have hI2 : Ident W := by rw [← hW]; exact hI.alloc _
  have nr : W.rowIs w.heap.size 29 9 (fun _ => .float .f64 0) := by
    rw [← hW]
    refine World.rowIs_alloc w _ 29 _ fun e he => ?_
    have he : e < 9 := he
    match e, he with
    | 0, _ | 1, _ | 2, _ | 3, _ | 4, _ | 5, _ | 6, _ | 7, _ | 8, _ => rfl
  have r0 : W.cell? ⟨w.heap.size, 0, none⟩ = some (.float .f64 0) := World.rowIs.cell nr (i := 0) (by omega)
  have r1 : W.cell? ⟨w.heap.size, 1, none⟩ = some (.float .f64 0) := World.rowIs.cell nr (i := 1) (by omega)
  have r2 : W.cell? ⟨w.heap.size, 2, none⟩ = some (.float .f64 0) := World.rowIs.cell nr (i := 2) (by omega)
  have r3 : W.cell? ⟨w.heap.size, 3, none⟩ = some (.float .f64 0) := World.rowIs.cell nr (i := 3) (by omega)
  have r4 : W.cell? ⟨w.heap.size, 4, none⟩ = some (.float .f64 0) := World.rowIs.cell nr (i := 4) (by omega)
  have r5 : W.cell? ⟨w.heap.size, 5, none⟩ = some (.float .f64 0) := World.rowIs.cell nr (i := 5) (by omega)
  have r6 : W.cell? ⟨w.heap.size, 6, none⟩ = some (.float .f64 0) := World.rowIs.cell nr (i := 6) (by omega)
  have r7 : W.cell? ⟨w.heap.size, 7, none⟩ = some (.float .f64 0) := World.rowIs.cell nr (i := 7) (by omega)
  have r8 : W.cell? ⟨w.heap.size, 8, none⟩ = some (.float .f64 0) := World.rowIs.cell nr (i := 8) (by omega)
  have rf := World.rowIs.frozen nr
  have HW := Lib.hid hW
  have HB := Lib.hid bel
  have HI := Lib.hid hI2
  clear hI hI2 hW bel nr
  go_enter Tryd.func6, Tryd.ntmps6
  go_wp2_with fail
  rw [HW.out]
  refine (HC.out _ HI.out).mono ?_
  rintro e w1 ⟨rfl, hb⟩
  have x0 := keepC hb r0
  have x1 := keepC hb r1
  have x2 := keepC hb r2
  have x3 := keepC hb r3
  have x4 := keepC hb r4
  have x5 := keepC hb r5
  have x6 := keepC hb r6
  have x7 := keepC hb r7
  have x8 := keepC hb r8
  have rf1 := keepF hb (by omega) rf
  have HB1 : Hid (Below w.heap.size w w1) := thenC HB.out hb
  clear r0 r1 r2 r3 r4 r5 r6 r7 r8 rf hb HC HW HB HI hsz
  go_wp2
  refine bodyPost_ret (v := .agg #[.float .f64 (part2 0 3), .float .f64 (part2 1 3), .float .f64 (part2 2 3), .float .f64 (part2 3 3), .float .f64 (part2 4 3), .float .f64 (part2 5 3), .float .f64 (part2 6 3), .float .f64 (part2 7 3), .float .f64 (part2 8 3)]) ?_ rfl ⟨rfl, ?_⟩
  · simp [results, Tryd.results6, go_sem, x0, x1, x2, x3, x4, x5, x6, x7, x8]
  · repeat' (first | with_reducible exact HB1.out | refine Below.setCell ?_ ?_ _ | (simp; done) | (simp; omega))
end Go.Proofs.YtmaphdfhoddnmaaDoor
