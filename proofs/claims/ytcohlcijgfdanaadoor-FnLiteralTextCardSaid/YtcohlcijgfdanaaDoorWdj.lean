/-
  Rows of bytes that grow, beside a buffer: small laws for types.decodeUTF16String.
-/
import Derived.Test.YtcohlcijgfdanaaDoorWdg
import Derived.Test.YtcohlcijgfdanaaDoorWdi
namespace Go.Proofs.YtcohlcijgfdanaaDoor.wd
open Go.RowKit

theorem isBE (g n cap : Nat) (hn : (2 : Int) ≤ (n : Int)) (hp : (n : Int) % 2 = 0) (w : World) (h0 : w.cell? ⟨g, 0, none⟩ = some (.int .u8 254)) (h1 : w.cell? ⟨g, 1, none⟩ = some (.int .u8 255)) :
    Calls Tryd.prog 77 #[.slice (some ⟨g, 0, none⟩) n cap] w fun e w' => e = .returned (.bool true) ∧ w = w' := by
  have k0 : (0 : Int) < (n : Int) := by omega
  have k1 : (1 : Int) < (n : Int) := by omega
  have k2 : 0 < n := by omega
  have k3 : 1 < n := by omega
  have k4 : ¬ (n : Int) = 0 := by omega
  have k5 : ((n : Int) == 0) = false := by simpa using k4
  go_enter Tryd.func77, Tryd.ntmps77
  go_wp2
  go_ret
  exact ⟨rfl, rfl⟩

theorem slice_two (g n cap : Nat) (h : n ≤ cap) (hm : cap ≤ maxLen) (w : World) : ∃ ab ao, (Instr.slice 29 (.slice (some ⟨g, 0, none⟩) (2 + n) (2 + cap)) (some (.int .i64 2)) none none).run Tryd.prog w = .ok (.slice (some ⟨ab, ao, none⟩) n cap) w ∧ (0 < n → ab = g ∧ ao = 2) := by
  by_cases hc : cap = 0
  · subst hc
    obtain rfl : n = 0 := by omega
    refine ⟨g, 0, ?_, by omega⟩
    simp [go_sem]
  · have h2 : ¬ 2 + cap = 2 := by omega
    have h3 : (2 : Int) ≤ 2 + (n : Int) := by omega
    refine ⟨g, 2, ?_, fun _ => ⟨rfl, rfl⟩⟩
    simp [go_sem, hc, h3]

theorem below_setCells {B : Nat} {a : World} (b : Nat) (hb : B ≤ b) : ∀ (vs : List Value) (o : Nat) (w : World), Below B a w → Below B a (w.setCells b o vs)
  | [], _, _, h => h
  | v :: r, o, w, h => by
    rw [World.setCells]
    exact below_setCells b hb r (o + 1) _ (h.setCell (p := ⟨b, o, none⟩) hb v)
theorem size_setCells' (b : Nat) : ∀ (vs : List Value) (o : Nat) (w : World), (w.setCells b o vs).heap.size = w.heap.size
  | [], _, _ => rfl
  | v :: r, o, w => by rw [World.setCells, size_setCells' b r]; simp
theorem own_setCells {B g : Nat} {v : Value} {n : Nat} {xs : List Value} (hg : g < B) : ∀ (vs : List Value) (o : Nat) (w : World), w.ownsRow B 5 1 v n xs → (w.setCells g o vs).ownsRow B 5 1 v n xs
  | [], _, _, h => h
  | x :: r, o, w, h => by
    rw [World.setCells]
    exact own_setCells hg r (o + 1) _ (Go.Proofs.YtcohlcijgfdanaaDoor.u16.own_set h hg)

theorem runeZ_byte (r : Int) : ∀ x ∈ Lib.encodeRuneZ r, 0 ≤ x ∧ x < 256 := by
  intro x hx
  unfold Lib.encodeRuneZ at hx
  split at hx
  · simp at hx; omega
  · split at hx
    · simp at hx; omega
    · split at hx
      · simp at hx; omega
      · split at hx
        · simp at hx; omega
        · simp at hx; omega
theorem runeZ_len (r : Int) : 1 ≤ (Lib.encodeRuneZ r).length ∧ (Lib.encodeRuneZ r).length ≤ 4 := by
  unfold Lib.encodeRuneZ
  repeat' split
  all_goals simp
theorem runeCells_u8s (r : Int) : Lib.runeCells r = u8s (Lib.encodeRune r) := by
  have key : ∀ l : List Int, (∀ x ∈ l, 0 ≤ x ∧ x < 256) → l.map (fun x => Value.int .u8 x) = u8s (l.map fun x => x.toNat.toUInt8) := by
    intro l
    induction l with
    | nil => intro _; rfl
    | cons x l ih =>
      intro h
      have hx := h x (by simp)
      have h1 : ((x.toNat.toUInt8).toNat : Int) = x := by
        have : (x.toNat.toUInt8).toNat = x.toNat := by
          show (UInt8.ofNat x.toNat).toNat = _
          rw [UInt8.toNat_ofNat']; omega
        omega
      have := ih fun y hy => h y (by simp [hy])
      unfold u8s at this ⊢
      rw [List.map_cons, List.map_cons, List.map_cons, this, h1]
  exact key _ (runeZ_byte r)
theorem encodeRune_len (r : Int) : 1 ≤ (Lib.encodeRune r).length ∧ (Lib.encodeRune r).length ≤ 4 := by
  have := runeZ_len r
  unfold Lib.encodeRune
  rw [List.length_map]
  exact this
theorem u8s_len (l : List UInt8) : (u8s l).length = l.length := by unfold u8s; rw [List.length_map]
theorem u8s_one (l : List UInt8) : ∀ u ∈ u8s l, u.oneCell' = true := by
  intro u hu
  obtain ⟨b, _, rfl⟩ := List.mem_map.1 hu
  rfl
theorem u8s_app (a b : List UInt8) : u8s a ++ u8s b = u8s (a ++ b) := by simp [u8s]

/-- The bytes so far: the empty slice of the beginning, or a row behind block B. -/
def Own (w : World) (B db : Nat) (v : Value) (l : List UInt8) : Prop :=
  (v = .slice (some ⟨db, 0, none⟩) 0 0 ∧ l = []) ∨ w.ownsRow B 5 1 v l.length (u8s l)

theorem Own.form {w : World} {B db : Nat} {v : Value} {l : List UInt8} (h : Own w B db v l) (h0 : v ≠ .slice none 0 0) :
    ∃ g cap, v = .slice (some ⟨g, 0, none⟩) l.length cap ∧ ∀ j (hj : j < l.length), w.cell? ((⟨g, 0, none⟩ : Addr).add j) = some (.int .u8 (l[j].toNat : Int)) := by
  rcases h with ⟨rfl, rfl⟩ | h
  · exact ⟨db, 0, rfl, fun j hj => by simp at hj⟩
  · rcases h.2 with ⟨hv, _⟩ | ⟨g3, cap3, cur3, rfl, -, -, -, -, -, -⟩
    · exact absurd hv h0
    · exact ⟨g3, cap3, rfl, fun j hj => h.cells (g := g3) rfl j _ (u8s_get _ j hj)⟩

theorem Own.append {w : World} {B db : Nat} {v : Value} {l : List UInt8} (h : Own w B db v l) (h0 : v ≠ .slice none 0 0) (bb c : Nat) (x : List UInt8) (hx : 1 ≤ x.length) (hc : ∀ j u, (u8s x)[j]? = some u → w.cell? ((⟨bb, 0, none⟩ : Addr).add j) = some u)
    (hB : B ≤ w.heap.size) (hn : l.length + x.length ≤ 100000) :
    ∃ v' w', (Builtin.append_ #[29, 29] 29 #[v, .slice (some ⟨bb, 0, none⟩) x.length c]).run Tryd.prog w = .ok v' w' ∧ Own w' B db v' (l ++ x) ∧ v' ≠ .slice none 0 0 ∧ Below B w w' := by
  obtain ⟨i0, hi, hz0, hz1, hz2⟩ := info_parts Go.Proofs.YtcohlcijgfdanaaDoor.u16.infoU8
  rcases h with ⟨rfl, rfl⟩ | h
  · have hr := run_append_grow (P := Tryd.prog) (w := w) 29 29 5 i0 (.int .u8 0) Tryd.underlying29 hi hz0 ⟨db, 0, none⟩ 0 0 [] (by simp) (fun j v hj => by simp at hj) ⟨bb, 0, none⟩ x.length c (u8s x) (by rw [hz1, u8s_len, Nat.mul_one]) hc (by omega) (by omega) (growslice_fits (by omega) (by rw [hz2]; simp at hn; omega))
    simp only [Nat.zero_add] at hr
    have hge := grownCap_ge w x.length 0 5
    have hle := grownCap_le_maxLen w x.length 0 5 (by unfold maxLen; simp at hn; omega)
    refine ⟨_, _, hr, Or.inr ⟨by rw [u8s_len, Nat.mul_one], Or.inr ⟨w.heap.size, _, _, by rw [List.nil_append], hB, heap_alloc_new w.drew _, ?_, ?_, ?_, ?_⟩⟩, by simp, ((Below.refl _ w).drew).alloc hB _⟩
    · simpa using hge
    · simpa using hle
    · have hzc : (Value.int IntKind.u8 0).cells.size = 1 := rfl
      have := u8s_len x
      simp [size_zeroCells, hzc, this]
      omega
    · have := u8s_len x
      simp [← this]
  · obtain ⟨v', w', hr, ho, hg, hnil⟩ := run_append_own (P := Tryd.prog) (w := w) B 29 29 5 i0 (.int .u8 0) 1 1 Tryd.underlying29 hi hz0 hz1 hz2 rfl (by decide) v l.length (u8s l) h ⟨bb, 0, none⟩ x.length c (u8s x) (by rw [u8s_len, Nat.mul_one]) hc (u8s_one x) (by unfold maxLen; omega) (by omega) hB
    refine ⟨v', w', hr, Or.inr ?_, fun e => h0 (hnil.1 e).1, (Below.refl B w).grown hg hB fun k hk => (h.lt k hk).1⟩
    rw [List.length_append, ← u8s_app]
    exact ho
end Go.Proofs.YtcohlcijgfdanaaDoor.wd
