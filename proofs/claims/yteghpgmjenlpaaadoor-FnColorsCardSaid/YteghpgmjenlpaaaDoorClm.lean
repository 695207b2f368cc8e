/-
  impl.calm where the function that it is given returns: true; impl.ColorOf at a text of a colour.
-/
import Derived.Test.YteghpgmjenlpaaaDoorSpl
import Derived.Defers
import Derived.Recover
namespace Go.Proofs.YteghpgmjenlpaaaDoor.col
open Go.RowKit

theorem catch_idle (p : Addr) (w : World) :
    CallsD Tryd.prog 12 #[.pointer (some p)] .returning w fun e u' w' => e = .returned (.tuple #[]) ∧ u' = .returning ∧ w' = w := by
  refine callsD_of_wpS Tryd.func12 rfl fun c₀ cs hu => ?_
  apply wpS_seq
  apply wpS_region
  simp [wpOpsS, go_sem, recoverD, hu, Tryd.ntmps12, Exit.thenS]
  refine wpS_cond (t := false) (by simp [Act.eval, Array.replicate]) ?_
  simp only [Bool.false_eq_true, if_false]
  refine wpS_of_wp (wp_skip ?_)
  cases c₀
  simp_all [bodyPostS, results, Tryd.results12]

theorem calm_ok (cap : Array Value) (w : World) (Q : World → Prop)
    (H : Hid (Calls Tryd.prog 9 cap (w.alloc (.cells #[.bool false] 4)) fun e W' => e = .returned (.tuple #[]) ∧ W'.cell? ⟨w.heap.size, 0, none⟩ = some (.bool false) ∧ W'.frozen? ⟨w.heap.size, 0, none⟩ = false ∧ Q W')) :
    Calls Tryd.prog 8 #[.func (.func 9) #[] cap] w fun e w' => e = .returned (.bool true) ∧ ∃ W', Q W' ∧ w' = W'.setCell ⟨w.heap.size, 0, none⟩ (.bool true) := by
  have hmf : ∀ (fn : Fn) (first cap : Array Value) (w : World), (Instr.makeFunc fn first cap).run Tryd.prog w = .ok (.func fn first cap) w := fun _ _ _ _ => rfl
  go_enter_defers Tryd.func8, Tryd.ntmps8
  go_wp2_with (go_at_call 9; refine H.out.mono ?_; rintro e W1 ⟨rfl, hc, hz, hq⟩)
  refine leaves_cons (f := 12) (args := #[.pointer (some ⟨w.heap.size, 0, none⟩)]) (by simp) (by simp [go_sem]) ?_
  refine (catch_idle ⟨w.heap.size, 0, none⟩ _).mono ?_
  rintro e u' w'' ⟨rfl, rfl, rfl⟩
  simp [Leaves, settle, results, Tryd.results8, go_sem, hc]
  exact ⟨W1, hq, rfl⟩

/-- The three cells of a colour. -/
def set3 (W : World) (g x y z : Nat) : World := ((W.setCell ⟨g, 0, none⟩ (.float .f32 x)).setCell ⟨g, 1, none⟩ (.float .f32 y)).setCell ⟨g, 2, none⟩ (.float .f32 z)

theorem clos (s : ByteArray) (x y z : Nat) (ev : Value) (g0 g1 g2 : Nat) (W : World) (h0 : W.cell? ⟨g0, 0, none⟩ = some (.string s))
    (h1 : W.cell? ⟨g1, 0, none⟩ = some (.float .f32 0)) (h1b : W.cell? ⟨g1, 1, none⟩ = some (.float .f32 0)) (h1c : W.cell? ⟨g1, 2, none⟩ = some (.float .f32 0)) (h2 : W.cell? ⟨g2, 0, none⟩ = some .nilIface)
    (f1 : W.frozen? ⟨g1, 0, none⟩ = false) (f1b : W.frozen? ⟨g1, 1, none⟩ = false) (f1c : W.frozen? ⟨g1, 2, none⟩ = false) (f2 : W.frozen? ⟨g2, 0, none⟩ = false) (hne : g1 ≠ g2) (hE : W.cell? ⟨10, 0, none⟩ = some ev)
    (hD : ∀ W, W.cell? ⟨10, 0, none⟩ = some ev → Calls Tryd.prog 10 #[.string s] W fun e W' => e = .returned (.tuple #[.agg #[.float .f32 x, .float .f32 y, .float .f32 z], .nilIface]) ∧ Below W.heap.size W W') :
    Calls Tryd.prog 9 #[.pointer (some ⟨g0, 0, none⟩), .pointer (some ⟨g1, 0, none⟩), .pointer (some ⟨g2, 0, none⟩)] W fun e W' => e = .returned (.tuple #[]) ∧ ∃ W1, Below W.heap.size W W1 ∧ W' = (set3 W1 g1 x y z).setCell ⟨g2, 0, none⟩ .nilIface := by
  have hd := Lib.hid (hD W hE)
  have l1 := World.block_lt_of_cell? _ _ h1
  have l2 := World.block_lt_of_cell? _ _ h2
  clear hD hE
  go_enter Tryd.func9, Tryd.ntmps9
  go_wp2_with (go_at_call 10; refine hd.out.mono ?_; rintro e W1 ⟨rfl, hb⟩; refine Hid.out ?_)
  refine Lib.hid ?_
  have k1 := (hb.cell (p := ⟨g1, 0, none⟩) l1).trans h1
  have k1b := (hb.cell (p := ⟨g1, 1, none⟩) l1).trans h1b
  have k1c := (hb.cell (p := ⟨g1, 2, none⟩) l1).trans h1c
  have k2 := (hb.cell (p := ⟨g2, 0, none⟩) l2).trans h2
  have q1 := (hb.frozen (p := ⟨g1, 0, none⟩) l1).trans f1
  have q1b := (hb.frozen (p := ⟨g1, 1, none⟩) l1).trans f1b
  have q1c := (hb.frozen (p := ⟨g1, 2, none⟩) l1).trans f1c
  have q2 := (hb.frozen (p := ⟨g2, 0, none⟩) l2).trans f2
  have HB := Lib.hid hb
  clear hb h0 h1 h1b h1c h2 f1 f1b f1c f2
  go_wp2_with fail
  go_end0
  exact ⟨rfl, W1, HB.out, rfl⟩

theorem set3_old (W : World) (g x y z : Nat) (a : Addr) (h : a.block ≠ g) : (set3 W g x y z).cell? a = W.cell? a := by
  unfold set3
  have e : ∀ o, (⟨g, o, none⟩ : Addr) ≠ a := fun o e => h (by rw [← e])
  rw [World.cell?_setCell_other _ _ _ _ (by first | exact e 2 | exact (e 2).symm), World.cell?_setCell_other _ _ _ _ (by first | exact e 1 | exact (e 1).symm), World.cell?_setCell_other _ _ _ _ (by first | exact e 0 | exact (e 0).symm)]

theorem ofCalm (s : ByteArray) (x y z : Nat) (ev : Value) (g0 g1 g2 : Nat) (W : World) (h0 : W.cell? ⟨g0, 0, none⟩ = some (.string s))
    (h1 : W.cell? ⟨g1, 0, none⟩ = some (.float .f32 0)) (h1b : W.cell? ⟨g1, 1, none⟩ = some (.float .f32 0)) (h1c : W.cell? ⟨g1, 2, none⟩ = some (.float .f32 0)) (h2 : W.cell? ⟨g2, 0, none⟩ = some .nilIface)
    (f1 : W.frozen? ⟨g1, 0, none⟩ = false) (f1b : W.frozen? ⟨g1, 1, none⟩ = false) (f1c : W.frozen? ⟨g1, 2, none⟩ = false) (f2 : W.frozen? ⟨g2, 0, none⟩ = false) (hne : g1 ≠ g2) (hE : W.cell? ⟨10, 0, none⟩ = some ev)
    (hD : ∀ W, W.cell? ⟨10, 0, none⟩ = some ev → Calls Tryd.prog 10 #[.string s] W fun e W' => e = .returned (.tuple #[.agg #[.float .f32 x, .float .f32 y, .float .f32 z], .nilIface]) ∧ Below W.heap.size W W')
    (B : Nat) (hB1 : B ≤ g1) (hB2 : B ≤ g2) :
    Calls Tryd.prog 8 #[.func (.func 9) #[] #[.pointer (some ⟨g0, 0, none⟩), .pointer (some ⟨g1, 0, none⟩), .pointer (some ⟨g2, 0, none⟩)]] W fun e w' => e = .returned (.bool true) ∧
      w'.cell? ⟨g1, 0, none⟩ = some (.float .f32 x) ∧ w'.cell? ⟨g1, 1, none⟩ = some (.float .f32 y) ∧ w'.cell? ⟨g1, 2, none⟩ = some (.float .f32 z) ∧ w'.cell? ⟨g2, 0, none⟩ = some .nilIface ∧ Below B W w' := by
  have l0 : g0 < W.heap.size := World.block_lt_of_cell? _ _ h0
  have l1 : g1 < W.heap.size := World.block_lt_of_cell? _ _ h1
  have l2 : g2 < W.heap.size := World.block_lt_of_cell? _ _ h2
  have lE : 10 < W.heap.size := World.block_lt_of_cell? _ _ hE
  have hnew := (Below.refl W.heap.size W).alloc (Nat.le_refl _) (.cells #[.bool false] 4)
  have old : ∀ (a : Addr), a.block < W.heap.size → (W.alloc (.cells #[.bool false] 4)).cell? a = W.cell? a := fun a ha => hnew.cell ha
  have oldf : ∀ (a : Addr), a.block < W.heap.size → (W.alloc (.cells #[.bool false] 4)).frozen? a = W.frozen? a := fun a ha => hnew.frozen ha
  refine (calm_ok _ W (fun W' => ∃ W1, Below (W.heap.size + 1) (W.alloc (.cells #[.bool false] 4)) W1 ∧ W' = (set3 W1 g1 x y z).setCell ⟨g2, 0, none⟩ .nilIface) (Lib.hid ?_)).mono ?_
  · refine (clos s x y z ev g0 g1 g2 _ ((old _ l0).trans h0) ((old _ l1).trans h1) ((old _ l1).trans h1b) ((old _ l1).trans h1c) ((old _ l2).trans h2) ((oldf _ l1).trans f1) ((oldf _ l1).trans f1b) ((oldf _ l1).trans f1c) ((oldf _ l2).trans f2) hne ((old _ lE).trans hE) hD).mono ?_
    rintro e W' ⟨rfl, W1, hb, rfl⟩
    simp at hb
    refine ⟨rfl, ?_, ?_, W1, hb, rfl⟩
    · rw [World.cell?_setCell_other _ _ _ _ (by simp only [ne_eq, Addr.mk.injEq, and_true]; omega), set3_old _ _ _ _ _ _ (by show W.heap.size ≠ g1; omega), hb.cell (p := ⟨W.heap.size, 0, none⟩) (Nat.lt_succ_self _)]
      simp [go_sem]
    · have : W1.frozen? ⟨W.heap.size, 0, none⟩ = false := (hb.frozen (p := ⟨W.heap.size, 0, none⟩) (Nat.lt_succ_self _)).trans (by simp [go_sem])
      simpa [set3, go_sem] using this
  · rintro e w' ⟨rfl, W', ⟨W1, hb, rfl⟩, rfl⟩
    have k1 : W1.cell? ⟨g1, 0, none⟩ = some (.float .f32 0) := (hb.cell (p := ⟨g1, 0, none⟩) (by show g1 < _; omega)).trans ((old _ l1).trans h1)
    have k1b : W1.cell? ⟨g1, 1, none⟩ = some (.float .f32 0) := (hb.cell (p := ⟨g1, 1, none⟩) (by show g1 < _; omega)).trans ((old _ l1).trans h1b)
    have k1c : W1.cell? ⟨g1, 2, none⟩ = some (.float .f32 0) := (hb.cell (p := ⟨g1, 2, none⟩) (by show g1 < _; omega)).trans ((old _ l1).trans h1c)
    have k2 : W1.cell? ⟨g2, 0, none⟩ = some .nilIface := (hb.cell (p := ⟨g2, 0, none⟩) (by show g2 < _; omega)).trans ((old _ l2).trans h2)
    refine ⟨rfl, ?_, ?_, ?_, ?_, ?_⟩
    · rw [World.cell?_setCell_other _ _ _ _ (by simp only [ne_eq, Addr.mk.injEq, and_true]; omega), World.cell?_setCell_other _ _ _ _ (by simp only [ne_eq, Addr.mk.injEq, and_true]; omega)]
      simp [set3, go_sem, k1]
    · rw [World.cell?_setCell_other _ _ _ _ (by simp only [ne_eq, Addr.mk.injEq, and_true]; omega), World.cell?_setCell_other _ _ _ _ (by simp only [ne_eq, Addr.mk.injEq, and_true]; omega)]
      simp [set3, go_sem, k1b]
    · rw [World.cell?_setCell_other _ _ _ _ (by simp only [ne_eq, Addr.mk.injEq, and_true]; omega), World.cell?_setCell_other _ _ _ _ (by simp only [ne_eq, Addr.mk.injEq, and_true]; omega)]
      simp [set3, go_sem, k1c]
    · rw [World.cell?_setCell_other _ _ _ _ (by simp only [ne_eq, Addr.mk.injEq, and_true]; omega)]
      have := set3_old W1 g1 x y z ⟨g2, 0, none⟩ (by show g2 ≠ g1; omega)
      rw [k2] at this
      simp [go_sem, this]
    · unfold set3
      refine (((((((Below.refl B W).alloc (by omega) _).trans (hb.mono (by omega))).setCell (p := ⟨g1, 0, none⟩) hB1 _).setCell (p := ⟨g1, 1, none⟩) hB1 _).setCell (p := ⟨g1, 2, none⟩) hB1 _).setCell (p := ⟨g2, 0, none⟩) hB2 _).setCell (p := ⟨W.heap.size, 0, none⟩) (by show B ≤ W.heap.size; omega) _

set_option maxHeartbeats 1000000 in
theorem of5 (r g b : Nat) (hr : r < 256) (hg : g < 256) (hb : b < 256) (w : World) (ev : Value) (hE : w.cell? ⟨10, 0, none⟩ = some ev) :
    Calls Tryd.prog 5 #[.string (text r g b)] w fun e w' => e = .returned (.tuple #[.float .f64 (By.d r), .float .f64 (By.d g), .float .f64 (By.d b), .bool true]) ∧ Below w.heap.size w w' := by
  have hmf : ∀ (fn : Fn) (first cap : Array Value) (w : World), (Instr.makeFunc fn first cap).run Tryd.prog w = .ok (.func fn first cap) w := fun _ _ _ _ => rfl
  have hD := fun W hE => parse10 r g b hr hg hb W ev hE
  have lE : 10 < w.heap.size := World.block_lt_of_cell? _ _ hE
  have m1 := fun w => run_convert_float_float (P := Tryd.prog) (w := w) 31 23 .f32 .f64 _ _ (by rw [Tryd.underlying31]; rfl) Tryd.underlying23 (By.wide r hr)
  have m2 := fun w => run_convert_float_float (P := Tryd.prog) (w := w) 31 23 .f32 .f64 _ _ (by rw [Tryd.underlying31]; rfl) Tryd.underlying23 (By.wide g hg)
  have m3 := fun w => run_convert_float_float (P := Tryd.prog) (w := w) 31 23 .f32 .f64 _ _ (by rw [Tryd.underlying31]; rfl) Tryd.underlying23 (By.wide b hb)
  generalize text r g b = s at hD ⊢
  obtain ⟨W, hW⟩ : ∃ W, ((w.alloc (.cells #[.string s] 9)).alloc (.cells #[.float .f32 0, .float .f32 0, .float .f32 0] 33)).alloc (.cells #[.nilIface] 36) = W := ⟨_, rfl⟩
  have bel : Below w.heap.size w W := by rw [← hW]; exact (((Below.refl _ _).alloc (Nat.le_refl _) _).alloc (by simp) _).alloc (by simp; omega) _
  have hC := ofCalm s (By.q r) (By.q g) (By.q b) ev w.heap.size (w.heap.size + 1) (w.heap.size + 1 + 1) W (by rw [← hW]; simp [go_sem]) (by rw [← hW]; simp [go_sem]) (by rw [← hW]; simp [go_sem]) (by rw [← hW]; simp [go_sem]) (by rw [← hW]; simp [go_sem]) (by rw [← hW]; simp [go_sem]) (by rw [← hW]; simp [go_sem]) (by rw [← hW]; simp [go_sem]) (by rw [← hW]; simp [go_sem]) (by omega) ((bel.cell (p := ⟨10, 0, none⟩) lE).trans hE) hD w.heap.size (by omega) (by omega)
  have HC := Lib.hid hC
  have HB := Lib.hid bel
  have HW := Lib.hid hW
  clear hC bel hW hD hE
  go_enter Tryd.func5, Tryd.ntmps5
  go_wp2_with (go_at_call 8; rw [HW.out]; refine HC.out.mono ?_; rintro e w1 ⟨rfl, c1, c1b, c1c, c2, hb⟩; refine Hid.out ?_)
  refine Lib.hid ?_
  have HB2 := Lib.hid (HB.out.trans hb)
  clear hb
  go_wp2_with fail
  go_quiet (fail)
  go_wp2_with fail
  refine bodyPost_ret (v := .tuple #[.float .f64 (By.d r), .float .f64 (By.d g), .float .f64 (By.d b), .bool true]) (by simp [results, Tryd.results5, go_sem]) rfl ⟨rfl, ?_⟩
  have hx := HB2.out
  exact ⟨hx.os, hx.tape, hx.output, hx.size, hx.block⟩
end Go.Proofs.YteghpgmjenlpaaaDoor.col
