/-
  impl.calm where the function that it is given returns: true.
-/
import Derived.Test.YtcohlcijgfdanaaDoorRows
import Derived.WalkKit
import Derived.BigCall
import Derived.BigGuard
import Derived.Below
import Derived.Lib.Hide
import Derived.Defers
import Derived.Recover
import Derived.Laws.Pointers
namespace Go.Proofs.YtcohlcijgfdanaaDoor.u16
open Go.RowKit

theorem catch_idle (p : Addr) (w : World) :
    CallsD Tryd.prog 63 #[.pointer (some p)] .returning w fun e u' w' => e = .returned (.tuple #[]) ∧ u' = .returning ∧ w' = w := by
  refine callsD_of_wpS Tryd.func63 rfl fun c₀ cs hu => ?_
  apply wpS_seq
  apply wpS_region
  simp [wpOpsS, go_sem, recoverD, hu, Tryd.ntmps63, Exit.thenS]
  refine wpS_cond (t := false) (by simp [Act.eval, Array.replicate]) ?_
  simp only [Bool.false_eq_true, if_false]
  refine wpS_of_wp (wp_skip ?_)
  cases c₀
  simp_all [bodyPostS, results, Tryd.results63]

theorem calm_ok (cap : Array Value) (w : World) (Q : World → Prop)
    (H : Hid (Calls Tryd.prog 38 cap (w.alloc (.cells #[.bool false] 4)) fun e W' => e = .returned (.tuple #[]) ∧ W'.cell? ⟨w.heap.size, 0, none⟩ = some (.bool false) ∧ W'.frozen? ⟨w.heap.size, 0, none⟩ = false ∧ Q W')) :
    Calls Tryd.prog 37 #[.func (.func 38) #[] cap] w fun e w' => e = .returned (.bool true) ∧ ∃ W', Q W' ∧ w' = W'.setCell ⟨w.heap.size, 0, none⟩ (.bool true) := by
  have hmf : ∀ (fn : Fn) (first cap : Array Value) (w : World), (Instr.makeFunc fn first cap).run Tryd.prog w = .ok (.func fn first cap) w := fun _ _ _ _ => rfl
  go_enter_defers Tryd.func37, Tryd.ntmps37
  go_wp2_with (go_at_call 38; refine H.out.mono ?_; rintro e W1 ⟨rfl, hc, hz, hq⟩)
  refine leaves_cons (f := 63) (args := #[.pointer (some ⟨w.heap.size, 0, none⟩)]) (by simp) (by simp [go_sem]) ?_
  refine (catch_idle ⟨w.heap.size, 0, none⟩ _).mono ?_
  rintro e u' w'' ⟨rfl, rfl, rfl⟩
  simp [Leaves, settle, results, Tryd.results37, go_sem, hc, hz]
  exact ⟨W1, hq, rfl⟩

theorem clos (s out : ByteArray) (g0 g1 g2 : Nat) (x : ByteArray) (W : World) (h0 : W.cell? ⟨g0, 0, none⟩ = some (.string s)) (h1 : W.cell? ⟨g1, 0, none⟩ = some (.string x)) (h2 : W.cell? ⟨g2, 0, none⟩ = some .nilIface)
    (f1 : W.frozen? ⟨g1, 0, none⟩ = false) (f2 : W.frozen? ⟨g2, 0, none⟩ = false) (hne : g1 ≠ g2)
    (hD : ∀ W, Calls Tryd.prog 39 #[.string s] W fun e W' => e = .returned (.tuple #[.string out, .nilIface]) ∧ Below W.heap.size W W') :
    Calls Tryd.prog 38 #[.pointer (some ⟨g0, 0, none⟩), .pointer (some ⟨g1, 0, none⟩), .pointer (some ⟨g2, 0, none⟩)] W fun e W' => e = .returned (.tuple #[]) ∧ ∃ W1, Below W.heap.size W W1 ∧ W' = (W1.setCell ⟨g1, 0, none⟩ (.string out)).setCell ⟨g2, 0, none⟩ .nilIface := by
  have hd := Lib.hid hD
  have l1 := World.block_lt_of_cell? _ _ h1
  have l2 := World.block_lt_of_cell? _ _ h2
  clear hD
  go_enter Tryd.func38, Tryd.ntmps38
  go_wp2_with (go_at_call 39; refine (hd.out _).mono ?_; rintro e W1 ⟨rfl, hb⟩; refine Hid.out ?_)
  refine Lib.hid ?_
  have k1 := (hb.cell (p := ⟨g1, 0, none⟩) l1).trans h1
  have k2 := (hb.cell (p := ⟨g2, 0, none⟩) l2).trans h2
  have q1 := (hb.frozen (p := ⟨g1, 0, none⟩) l1).trans f1
  have q2 := (hb.frozen (p := ⟨g2, 0, none⟩) l2).trans f2
  have HB := Lib.hid hb
  clear hb h0 h1 h2 f1 f2
  go_wp2_with fail
  go_end0
  exact ⟨rfl, W1, HB.out, rfl⟩

/-- The three variables of FromUTF16 lie in the last three blocks. -/
theorem fromCalm (s out : ByteArray) (g0 g1 g2 : Nat) (x : ByteArray) (W : World) (h0 : W.cell? ⟨g0, 0, none⟩ = some (.string s)) (h1 : W.cell? ⟨g1, 0, none⟩ = some (.string x)) (h2 : W.cell? ⟨g2, 0, none⟩ = some .nilIface)
    (f1 : W.frozen? ⟨g1, 0, none⟩ = false) (f2 : W.frozen? ⟨g2, 0, none⟩ = false) (hne : g1 ≠ g2)
    (hD : ∀ W, Calls Tryd.prog 39 #[.string s] W fun e W' => e = .returned (.tuple #[.string out, .nilIface]) ∧ Below W.heap.size W W') (B : Nat) (hB1 : B ≤ g1) (hB2 : B ≤ g2) :
    Calls Tryd.prog 37 #[.func (.func 38) #[] #[.pointer (some ⟨g0, 0, none⟩), .pointer (some ⟨g1, 0, none⟩), .pointer (some ⟨g2, 0, none⟩)]] W fun e w' => e = .returned (.bool true) ∧
      w'.cell? ⟨g1, 0, none⟩ = some (.string out) ∧ w'.cell? ⟨g2, 0, none⟩ = some .nilIface ∧ w'.frozen? ⟨g1, 0, none⟩ = false ∧ Below B W w' := by
  have l0 : g0 < W.heap.size := World.block_lt_of_cell? _ _ h0
  have l1 : g1 < W.heap.size := World.block_lt_of_cell? _ _ h1
  have l2 : g2 < W.heap.size := World.block_lt_of_cell? _ _ h2
  have hnew := (Below.refl W.heap.size W).alloc (Nat.le_refl _) (.cells #[.bool false] 4)
  have old : ∀ (a : Addr), a.block < W.heap.size → (W.alloc (.cells #[.bool false] 4)).cell? a = W.cell? a := fun a ha => hnew.cell ha
  have oldf : ∀ (a : Addr), a.block < W.heap.size → (W.alloc (.cells #[.bool false] 4)).frozen? a = W.frozen? a := fun a ha => hnew.frozen ha
  refine (calm_ok _ W (fun W' => ∃ W1, Below (W.heap.size + 1) (W.alloc (.cells #[.bool false] 4)) W1 ∧ W' = (W1.setCell ⟨g1, 0, none⟩ (.string out)).setCell ⟨g2, 0, none⟩ .nilIface) (Lib.hid ?_)).mono ?_
  · refine (clos s out g0 g1 g2 x _ ((old _ l0).trans h0) ((old _ l1).trans h1) ((old _ l2).trans h2) ((oldf _ l1).trans f1) ((oldf _ l2).trans f2) hne hD).mono ?_
    rintro e W' ⟨rfl, W1, hb, rfl⟩
    simp at hb
    refine ⟨rfl, ?_, ?_, W1, hb, rfl⟩
    · rw [World.cell?_setCell_other _ _ _ _ (by simp only [ne_eq, Addr.mk.injEq, and_true]; omega), World.cell?_setCell_other _ _ _ _ (by simp only [ne_eq, Addr.mk.injEq, and_true]; omega), hb.cell (p := ⟨W.heap.size, 0, none⟩) (Nat.lt_succ_self _)]
      simp [go_sem]
    · have : W1.frozen? ⟨W.heap.size, 0, none⟩ = false := (hb.frozen (p := ⟨W.heap.size, 0, none⟩) (Nat.lt_succ_self _)).trans (by simp [go_sem])
      simpa [go_sem] using this
  · rintro e w' ⟨rfl, W', ⟨W1, hb, rfl⟩, rfl⟩
    have k1 : W1.cell? ⟨g1, 0, none⟩ = some (.string x) := (hb.cell (p := ⟨g1, 0, none⟩) (by show g1 < _; omega)).trans ((old _ l1).trans h1)
    have k2 : W1.cell? ⟨g2, 0, none⟩ = some .nilIface := (hb.cell (p := ⟨g2, 0, none⟩) (by show g2 < _; omega)).trans ((old _ l2).trans h2)
    have q1 : W1.frozen? ⟨g1, 0, none⟩ = false := (hb.frozen (p := ⟨g1, 0, none⟩) (by show g1 < _; omega)).trans ((oldf _ l1).trans f1)
    have q2 : W1.frozen? ⟨g2, 0, none⟩ = false := (hb.frozen (p := ⟨g2, 0, none⟩) (by show g2 < _; omega)).trans ((oldf _ l2).trans f2)
    refine ⟨rfl, ?_, ?_, ?_, ?_⟩
    · rw [World.cell?_setCell_other _ _ _ _ (by simp only [ne_eq, Addr.mk.injEq, and_true]; omega), World.cell?_setCell_other _ _ _ _ (by simp only [ne_eq, Addr.mk.injEq, and_true]; omega)]
      simp [go_sem, k1, q1]
    · rw [World.cell?_setCell_other _ _ _ _ (by simp only [ne_eq, Addr.mk.injEq, and_true]; omega)]
      simp [go_sem, k2, q2]
    · simpa [go_sem] using q1
    · refine (((((Below.refl B W).alloc (by omega) _).trans (hb.mono (by omega))).setCell (p := ⟨g1, 0, none⟩) hB1 _).setCell (p := ⟨g2, 0, none⟩) hB2 _).setCell (p := ⟨W.heap.size, 0, none⟩) (by show B ≤ W.heap.size; omega) _

set_option maxHeartbeats 1000000 in
theorem fromUTF16 (s out : ByteArray) (hD : ∀ W, Calls Tryd.prog 39 #[.string s] W fun e W' => e = .returned (.tuple #[.string out, .nilIface]) ∧ Below W.heap.size W W') (w : World) :
    Calls Tryd.prog 19 #[.string s] w fun e w' => e = .returned (.tuple #[.string out, .bool true]) ∧ Below w.heap.size w w' := by
  have hmf : ∀ (fn : Fn) (first cap : Array Value) (w : World), (Instr.makeFunc fn first cap).run Tryd.prog w = .ok (.func fn first cap) w := fun _ _ _ _ => rfl
  obtain ⟨W, hW⟩ : ∃ W, ((w.alloc (.cells #[.string s] 9)).alloc (.cells #[.string ⟨#[]⟩] 9)).alloc (.cells #[.nilIface] 37) = W := ⟨_, rfl⟩
  have bel : Below w.heap.size w W := by rw [← hW]; exact (((Below.refl _ _).alloc (Nat.le_refl _) _).alloc (by simp) _).alloc (by simp; omega) _
  have hC := fromCalm s out w.heap.size (w.heap.size + 1) (w.heap.size + 1 + 1) ⟨#[]⟩ W (by rw [← hW]; simp [go_sem]) (by rw [← hW]; simp [go_sem]) (by rw [← hW]; simp [go_sem]) (by rw [← hW]; simp [go_sem]) (by rw [← hW]; simp [go_sem]) (by omega) hD w.heap.size (by omega) (by omega)
  have HC := Lib.hid hC
  have HB := Lib.hid bel
  have HW := Lib.hid hW
  clear hC bel hW hD
  go_enter Tryd.func19, Tryd.ntmps19
  go_wp2_with (go_at_call 37; rw [HW.out]; refine HC.out.mono ?_; rintro e w1 ⟨rfl, c1, c2, f1, hb⟩; refine Hid.out ?_)
  refine Lib.hid ?_
  have HB2 := Lib.hid (HB.out.trans hb)
  clear hb
  go_wp2_with fail
  refine bodyPost_ret (v := .tuple #[.string out, .bool true]) (by simp [results, Tryd.results19, go_sem, c1, f1]) rfl ⟨rfl, ?_⟩
  exact HB2.out.setCell (p := ⟨w.heap.size + 1, 0, none⟩) (by show w.heap.size ≤ w.heap.size + 1; omega) _
end Go.Proofs.YtcohlcijgfdanaaDoor.u16
