/-
  FnLiteralText: types.StringLiteralToString at UTF-16BE.
-/
import Derived.Test.YtcohlcijgfdanaaDoorSlt
namespace Go.Proofs.YtcohlcijgfdanaaDoor.lt
open Go.RowKit
open Go.Proofs.YtcohlcijgfdanaaDoor.u16 (mk)
open Go.Proofs.YtcohlcijgfdanaaDoor.wd (units encs Scal Bad decode64 decode64e bytes_at bytes_len units_len unit unit_len)

/-- What decoding gives: the text, or an error. -/
def AR (cs bad : List Nat) (y : ByteArray) (err : Value) : Prop := (bad = [] → y = mkS (encs cs) ∧ err = .nilIface) ∧ (¬ bad = [] → ∃ p, err = .iface 101 p)

theorem units_ge (cs : List Nat) : cs.length ≤ (units cs).length := by
  induction cs with
  | nil => simp
  | cons c r ih => have := (unit_len c).1; show _ ≤ (unit c ++ units r).length; rw [List.length_append, List.length_cons]; omega

theorem unesc_le : ∀ (n : Nat) (l : List UInt8), (unescF n l).length ≤ n
  | 0, _ => by simp [unescF]
  | n + 1, [] => by simp [unescF]
  | n + 1, c :: r => by
    have h := fun x => unesc_le n x
    unfold unescF
    repeat' split
    all_goals first
      | exact Nat.zero_le _
      | exact Nat.succ_le_succ (Nat.zero_le _)
      | exact Nat.le_succ_of_le (h _)
      | exact Nat.succ_le_succ (h _)

set_option maxRecDepth 100000 in
set_option maxHeartbeats 4000000 in
theorem lit51A (text : List UInt8) (h13 : ∀ c ∈ text, c ≠ 13) (hl : text.length ≤ 4096) (w : World) (hE : ErrSyn w) (cs bad : List Nat) (hu : unesc text = 254 :: 255 :: wd.bytes (units cs ++ bad)) (hcs : ∀ c ∈ cs, Scal c) (h57 : ¬ 57344 ∈ cs) (hbad : bad = [] ∨ Bad bad) (hlt : ∀ u ∈ units cs ++ bad, u < 65536) (hlen : (unesc text).length ≤ 10000) :
    Calls Tryd.prog 51 #[.string (mkS text)] w fun e w' => (∃ y err, e = .returned (.tuple #[.string y, err]) ∧ AR cs bad y err) ∧ Below w.heap.size w w' := by
  obtain ⟨us, hus⟩ : ∃ us, units cs ++ bad = us := ⟨_, rfl⟩
  have hN : (unesc text).length = 2 + 2 * us.length := by rw [hu, hus]; simp only [List.length_cons, bytes_len]; omega
  have hcl : cs.length ≤ 5000 := by
    have h1 := units_ge cs
    have h2 : us.length = (units cs).length + bad.length := by rw [← hus, List.length_append]
    omega
  have hbl : bad.length ≤ 10000 := by
    have h2 : us.length = (units cs).length + bad.length := by rw [← hus, List.length_append]
    omega
  have hbe : beq (unesc text) = true := by
    unfold beq
    rw [hN, decide_eq_true (by omega), hu]
    rfl
  have C45 : Hid (Calls Tryd.prog 45 #[.string (mkS text)] w fun e w' => (∃ g cap, e = .returned (.tuple #[.slice (some ⟨g, 0, none⟩) (2 + 2 * us.length) (2 + cap), .nilIface]) ∧ Hid (w'.ownsRow w.heap.size 5 1 (.slice (some ⟨g, 0, none⟩) (2 + 2 * us.length) (2 + cap)) (2 + 2 * us.length) (Lib.byteCells (unesc text)) ∧ 2 * us.length ≤ cap ∧ cap ≤ maxLen)) ∧ Hid (Below w.heap.size w w')) := Lib.hid ((unescape45 text h13 hl w hE).mono fun e w' ⟨⟨v, h1, h2⟩, h3⟩ => by
    refine ⟨?_, Lib.hid h3⟩
    have h4 := h2
    rcases h2.2 with ⟨_, h0⟩ | ⟨g, cap, cur, rfl, hb, hg, hn, hm, hc, ht⟩
    · omega
    · obtain ⟨c', rfl⟩ : ∃ c', cap = 2 + c' := ⟨cap - 2, by omega⟩
      rw [hN] at h1 h4
      exact ⟨g, c', h1, Lib.hid ⟨h4, by omega, by omega⟩⟩)
  have C77 : Hid (∀ W g cap, W.ownsRow w.heap.size 5 1 (.slice (some ⟨g, 0, none⟩) (2 + 2 * us.length) (2 + cap)) (2 + 2 * us.length) (Lib.byteCells (unesc text)) → Calls Tryd.prog 77 #[.slice (some ⟨g, 0, none⟩) (2 + 2 * us.length) (2 + cap)] W fun e w' => e = .returned (.bool true) ∧ W = w') := Lib.hid fun W g cap h => by
    rw [← hN] at h
    have := is77 W _ _ (Sl.of_row h)
    rw [mkS_list, hbe, hN] at this
    exact this
  have C64 : Hid (∀ W g cap, W.ownsRow w.heap.size 5 1 (.slice (some ⟨g, 0, none⟩) (2 + 2 * us.length) (2 + cap)) (2 + 2 * us.length) (Lib.byteCells (unesc text)) ∧ 2 * us.length ≤ cap ∧ cap ≤ maxLen → Below w.heap.size w W → Calls Tryd.prog 64 #[.slice (some ⟨g, 0, none⟩) (2 + 2 * us.length) (2 + cap)] W fun e w' => (∃ y err, e = .returned (.tuple #[.string y, err]) ∧ Hid (AR cs bad y err)) ∧ Hid (Below w.heap.size w w')) := Lib.hid fun W g cap ⟨h, hc, hm⟩ hb => by
    have hcell : ∀ j (b : UInt8), (unesc text)[j]? = some b → W.cell? ⟨g, j, none⟩ = some (.int .u8 (b.toNat : Int)) := fun j b hj => by
      have hj' := (List.getElem?_eq_some_iff.1 hj).1
      rw [h.cellAt j (by omega)]
      unfold Lib.byteCells
      rw [List.getElem?_map, hj]
      rfl
    have c0 := hcell 0 254 (by rw [hu]; rfl)
    have c1 := hcell 1 255 (by rw [hu]; rfl)
    have hbt : ∀ (k u : Nat), us[k]? = some u → W.cell? ⟨g, 2 + 2 * k, none⟩ = some (.int .u8 ((u / 256 : Nat) : Int)) ∧ W.cell? ⟨g, 2 + (2 * k + 1), none⟩ = some (.int .u8 ((u % 256 : Nat) : Int)) := fun k u hk => by
      have hm : u < 65536 := hlt u (by rw [hus]; exact List.mem_of_getElem? hk)
      obtain ⟨b1, b2⟩ := bytes_at us k u hk
      have e1 := hcell (2 + 2 * k) (UInt8.ofNat (u / 256)) (by rw [hu, hus, show 2 + 2 * k = (2 * k) + 1 + 1 by omega, List.getElem?_cons_succ, List.getElem?_cons_succ]; exact b1)
      have e2 := hcell (2 + (2 * k + 1)) (UInt8.ofNat (u % 256)) (by rw [hu, hus, show 2 + (2 * k + 1) = (2 * k + 1) + 1 + 1 by omega, List.getElem?_cons_succ, List.getElem?_cons_succ]; exact b2)
      rw [UInt8.toNat_ofNat', Nat.mod_eq_of_lt (by omega)] at e1 e2
      exact ⟨e1, e2⟩
    rcases hbad with rfl | hbd
    · rw [List.append_nil] at hus
      subst hus
      exact (decode64 cs hcs h57 hcl g cap hc hm W c0 c1 hbt).mono fun e w' ⟨h1, h2⟩ => ⟨⟨_, _, h1, Lib.hid ⟨fun _ => ⟨rfl, rfl⟩, fun h => absurd rfl h⟩⟩, Lib.hid (hb.trans (h2.mono hb.size))⟩
    · subst hus
      have hne : ¬ bad = [] := fun e => by rw [e] at hbd; exact hbd
      exact (decode64e cs bad hcs h57 hcl hbd hbl (fun u hu => hlt u (by simp [hu])) g cap hc hm W c0 c1 hbt).mono fun e w' ⟨⟨p, h1⟩, h2⟩ => ⟨⟨_, _, h1, Lib.hid ⟨fun h => absurd h hne, fun _ => ⟨p, rfl⟩⟩⟩, Lib.hid (hb.trans (h2.mono hb.size))⟩
  have HF : Hid (∀ y err W, Hid (AR cs bad y err) → Hid (Below w.heap.size w W) → (∃ y' err', Ending.returned (.tuple #[.string y, err]) = .returned (.tuple #[.string y', err']) ∧ AR cs bad y' err') ∧ Below w.heap.size w W) := Lib.hid fun y err W h hb => ⟨⟨y, err, rfl, h.out⟩, hb.out⟩
  have hlen2 : us.length ≤ 5000 := by omega
  clear hbe hN hu hcs h57 hbad hlt hcl hbl hE h13 hl hus hlen
  generalize mkS text = s at *
  generalize unesc text = u at *
  generalize 2 + 2 * us.length = N at *
  go_enter Tryd.func51, Tryd.ntmps51
  go_wp2_with (first
    | (go_at_call 76; refine (value76 _ _).mono ?_; rintro e w0 ⟨rfl, rfl⟩)
    | (go_at_call 45; refine C45.out.mono ?_; rintro e w1 ⟨⟨g, cap, rfl, hS1⟩, hb1⟩)
    | (go_at_call 77; refine (C77.out _ _ _ hS1.out.1).mono ?_; rintro e w0 ⟨rfl, rfl⟩)
    | (go_at_call 64; refine (C64.out _ _ _ hS1.out hb1.out).mono ?_; rintro e w2 ⟨⟨y, err, rfl, hAR⟩, hb2⟩))
  exact bodyPost_ret (v := .tuple #[.string y, err]) (by simp [results, Tryd.results51, go_sem]) rfl (HF.out _ _ _ hAR hb2)
end Go.Proofs.YtcohlcijgfdanaaDoor.lt
