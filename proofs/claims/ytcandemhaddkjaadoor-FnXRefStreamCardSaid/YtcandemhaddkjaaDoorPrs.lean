/-
  The dictionary's readers: Size, Index, W, Prev; xRefStreamSize, xRefStreamObjects.
-/
import Derived.Test.YtcandemhaddkjaaDoorXrd
import Derived.Test.YtcandemhaddkjaaDoorDcw
import Derived.Test.YtcandemhaddkjaaDoorPob
import Derived.Deep.RegionHeld3
namespace Go.Proofs.YtcandemhaddkjaaDoor.xs
open Go.RowKit Go.MapKept Go.ChangeMaps
set_option linter.unusedVariables false
set_option linter.unusedSimpArgs false

theorem DAt.dictM {w : World} {m : Nat} {en : List (ByteArray × Thing)} (h : DAt w m en en.length) (hK : Keys en) :
    ∃ es, DictM w m es en.length ∧ (∀ (s : ByteArray) (t : Thing), (s, t) ∈ en → ∃ x ∈ es.toList, x.key = .string s ∧ t.val w x.val) ∧ (∀ x ∈ es.toList, ∃ p ∈ en, x.key = .string p.1) := by
  obtain ⟨es, h1, h2, h3⟩ := h
  have hget : ∀ (i : Nat) (x : MapEntry), es.toList[i]? = some x → ∃ s t v, i < en.length ∧ en[i]? = some (s, t) ∧ x = ⟨.string s, v, i⟩ ∧ t.val w v := fun i x hx => by
    have hi : i < en.length := by
      have := (List.getElem?_eq_some_iff.1 hx).1
      simpa [h2] using this
    obtain ⟨s, t, v, a, b, c⟩ := h3 i hi
    rw [Array.getElem?_toList, b] at hx
    exact ⟨s, t, v, hi, a, (Option.some.inj hx).symm, c⟩
  have hat : ∀ x ∈ es.toList, ∃ i s t v, i < en.length ∧ en[i]? = some (s, t) ∧ x = ⟨.string s, v, i⟩ ∧ t.val w v := fun x hx => by
    obtain ⟨i, hi, rfl⟩ := List.mem_iff_getElem.1 hx
    obtain ⟨s, t, v, r⟩ := hget i _ (List.getElem?_eq_getElem hi)
    exact ⟨i, s, t, v, r⟩
  have hpw : ∀ (R : MapEntry → MapEntry → Prop), (∀ i j s t v s' t' v', i < j → en[i]? = some (s, t) → en[j]? = some (s', t') → R ⟨.string s, v, i⟩ ⟨.string s', v', j⟩) → es.toList.Pairwise R := fun R hR => by
    rw [List.pairwise_iff_getElem]
    intro i j hi hj hlt
    obtain ⟨s, t, v, _, a, b, _⟩ := hget i _ (List.getElem?_eq_getElem hi)
    obtain ⟨s', t', v', _, a', b', _⟩ := hget j _ (List.getElem?_eq_getElem hj)
    rw [b, b']
    exact hR i j s t v s' t' v' hlt a a'
  refine ⟨es, ⟨h1, fun x hx => ?_, hpw _ fun i j s t v s' t' v' hlt a b e => ?_, ?_, fun x hx => ?_⟩, fun s t hm => ?_, fun x hx => ?_⟩
  · obtain ⟨i, s, t, v, _, a, rfl, _⟩ := hat x hx
    exact ⟨s, rfl, hK.plain _ (List.mem_of_getElem? a)⟩
  · simp at e
    exact pw_get hK.apart hlt a b e
  · rw [List.Nodup, List.pairwise_map]
    exact hpw _ fun i j s t v s' t' v' hlt a b e => Nat.ne_of_lt hlt e
  · obtain ⟨i, s, t, v, hi, a, rfl, _⟩ := hat x hx
    exact hi
  · obtain ⟨i, hi, he⟩ := List.mem_iff_getElem.1 hm
    obtain ⟨s', t', v, a, b, c⟩ := h3 i hi
    rw [List.getElem?_eq_getElem hi, he] at a
    obtain ⟨rfl, rfl⟩ : s = s' ∧ t = t' := by simpa using a
    exact ⟨_, by rw [← Array.getElem?_toList] at b; exact List.mem_of_getElem? b, rfl, c⟩
  · obtain ⟨i, s, t, v, _, a, rfl, _⟩ := hat x hx
    exact ⟨_, List.mem_of_getElem? a, rfl⟩

/-- A stream with the dictionary. -/
def sdC (m : Nat) (ca : Option Addr) (cn cc : Nat) : Array Value := #[.map (some m), .int .i64 0, .pointer none, .pointer none, .slice none 0 0, .slice none 0 0, .slice ca cn cc, .bool false, .int .i64 0]
structure SdIs (w : World) (sb m : Nat) (ca : Option Addr) (cn cc : Nat) (size : Int) (N : Nat) (z : Nat → Int) (a b c prev : Int) : Prop where
  blk : w.heap[sb]? = some (.cells (sdC m ca cn cc) 54 (0, 0))
  dic : DAt w m (enOf size N z a b c prev) (enOf size N z a b c prev).length
section
variable {w w' : World} {sb m : Nat} {ca : Option Addr} {cn cc : Nat} {size : Int} {N : Nat} {z : Nat → Int} {a b c prev : Int}
theorem SdIs.kept (h : SdIs w sb m ca cn cc size N z a b c prev) (k : Kept [] w w') : SdIs w' sb m ca cn cc size N z a b c prev :=
  ⟨(k.block sb (Array.getElem?_eq_some_iff.1 h.blk).1 (by simp)).trans h.blk, h.dic.kept k⟩
theorem mem_size : (kSize, Thing.int size) ∈ enOf size N z a b c prev := by simp [enOf]
theorem mem_w : (kW, Thing.list 3 (w3 a b c)) ∈ enOf size N z a b c prev := by simp [enOf]
theorem mem_index (h : 0 < N) : (kIndex, Thing.list N z) ∈ enOf size N z a b c prev := by simp [enOf, h]
theorem mem_prev (h : 0 ≤ prev) : (kPrev, Thing.int prev) ∈ enOf size N z a b c prev := by simp [enOf, h]
theorem none_index (h : N = 0) : ∀ p ∈ enOf size N z a b c prev, p.1 ≠ kIndex := by
  intro p hp
  simp [enOf, h] at hp
  rcases hp with ⟨_, rfl⟩ | rfl | rfl | rfl <;> (simp only; decide)
theorem none_prev (h : ¬ 0 ≤ prev) : ∀ p ∈ enOf size N z a b c prev, p.1 ≠ kPrev := by
  intro p hp
  simp [enOf, h] at hp
  rcases hp with ⟨_, rfl⟩ | rfl | rfl | rfl <;> (simp only; decide)

theorem size25 (h : SdIs w sb m ca cn cc size N z a b c prev) : Calls Tryd.prog 25 #[.map (some m)] w fun e w' => e = .returned (.pointer (some ⟨w.heap.size, 0, none⟩)) ∧ w' = w.alloc (.cells #[.int .i64 size] 3) := by
  obtain ⟨es, hD, hy, _⟩ := h.dic.dictM (keys_en ..)
  obtain ⟨x, hx, hk, hv⟩ := hy _ _ mem_size
  have H := Lib.hid (int_yes kSize size m es _ w hD x hx hk hv)
  unfold kSize at H
  clear hD hy hx hk hv h
  go_enter Tryd.func25, Tryd.ntmps25
  go_wp2_with (go_at_call 34; refine H.out.mono ?_; rintro e w1 ⟨rfl, rfl⟩)
  go_ret
  exact ⟨rfl, rfl⟩
def ArrO (w : World) (n : Nat) (z : Nat → Int) (e : Ending) (w' : World) : Prop := ∃ v, e = .returned v ∧ ArrI w' v n z ∧ w = w'
theorem get_list {k : ByteArray} {n : Nat} {q : Nat → Int} (h : SdIs w sb m ca cn cc size N z a b c prev) (hm : (k, Thing.list n q) ∈ enOf size N z a b c prev) : Calls Tryd.prog 35 #[.map (some m), .string k] w fun e w' => ArrO w n q e w' := by
  obtain ⟨es, hD, hy, _⟩ := h.dic.dictM (keys_en ..)
  obtain ⟨x, hx, hk, v, hv, ⟨g, C, rfl, q1⟩, _⟩ := hy _ _ hm
  refine (arr_yes k _ _ _ m es _ w hD x hx hk hv).mono ?_
  rintro e w' ⟨rfl, rfl⟩
  exact ⟨_, rfl, ⟨g, C, rfl, q1⟩, rfl⟩
theorem w30 (h : SdIs w sb m ca cn cc size N z a b c prev) : Calls Tryd.prog 30 #[.map (some m)] w fun e w' => ArrO w 3 (w3 a b c) e w' := by
  have H := Lib.hid (get_list h mem_w)
  unfold kW at H
  clear h
  go_enter Tryd.func30, Tryd.ntmps30
  go_wp2_with (go_at_call 35; refine H.out.mono ?_; rintro e w1 ⟨v, rfl, hv, rfl⟩)
  go_ret
  exact ⟨v, rfl, hv, rfl⟩
theorem index27 (h : SdIs w sb m ca cn cc size N z a b c prev) (hN : 0 < N) : Calls Tryd.prog 27 #[.map (some m)] w fun e w' => ArrO w N z e w' := by
  have H := Lib.hid (get_list h (mem_index hN))
  unfold kIndex at H
  clear h hN
  go_enter Tryd.func27, Tryd.ntmps27
  go_wp2_with (go_at_call 35; refine H.out.mono ?_; rintro e w1 ⟨v, rfl, hv, rfl⟩)
  go_ret
  exact ⟨v, rfl, hv, rfl⟩
theorem none_of {p : ByteArray} (h : SdIs w sb m ca cn cc size N z a b c prev) (hp : ∀ q ∈ enOf size N z a b c prev, q.1 ≠ p) : ∃ es, DictM w m es (enOf size N z a b c prev).length ∧ ∀ x ∈ es.toList, x.key ≠ .string p := by
  obtain ⟨es, hD, _, hn⟩ := h.dic.dictM (keys_en ..)
  refine ⟨es, hD, fun x hx e => ?_⟩
  obtain ⟨q, hq, he⟩ := hn x hx
  rw [he] at e
  exact hp q hq (by simpa using e)
theorem index27_no (h : SdIs w sb m ca cn cc size N z a b c prev) (hN : N = 0) : Calls Tryd.prog 27 #[.map (some m)] w fun e w' => e = .returned (.slice none 0 0) ∧ Below w.heap.size w w' := by
  obtain ⟨es, hD, hn⟩ := none_of h (none_index hN)
  have H := Lib.hid (arr_no kIndex m es _ w hD hn)
  unfold kIndex at H
  clear h hN hD hn
  go_enter Tryd.func27, Tryd.ntmps27
  go_wp2_with (go_at_call 35; refine H.out.mono ?_; rintro e w1 ⟨rfl, hb⟩)
  go_ret
  exact ⟨rfl, hb⟩
/-- Where the section before stands. -/
def PrevIs (w : World) (prev : Int) (v : Value) : Prop := (prev < 0 ∧ v = .pointer none) ∨ (0 ≤ prev ∧ ∃ q, v = .pointer (some ⟨q, 0, none⟩) ∧ w.cell? ⟨q, 0, none⟩ = some (.int .i64 prev))
def PrvE (w : World) (prev : Int) (e : Ending) (w' : World) : Prop := ∃ p, e = .returned (.pointer p) ∧ PrevIs w' prev (.pointer p) ∧ Below w.heap.size w w'
theorem prev33 (h : SdIs w sb m ca cn cc size N z a b c prev) : Calls Tryd.prog 33 #[.map (some m)] w fun e w' => PrvE w prev e w' := by
  by_cases hp : 0 ≤ prev
  · obtain ⟨es, hD, hy, _⟩ := h.dic.dictM (keys_en ..)
    obtain ⟨x, hx, hk, hv⟩ := hy _ _ (mem_prev hp)
    have H := Lib.hid (i64_yes kPrev prev m es _ w hD x hx hk hv)
    unfold kPrev at H
    clear hD hy hx hk hv h
    go_enter Tryd.func33, Tryd.ntmps33
    go_wp2_with (go_at_call 36; refine H.out.mono ?_; rintro e w1 ⟨rfl, rfl⟩)
    go_ret
    exact ⟨_, rfl, .inr ⟨hp, _, rfl, by simp [go_sem]⟩, (Below.refl _ _).alloc (Nat.le_refl _) _⟩
  · obtain ⟨es, hD, hn⟩ := none_of h (none_prev hp)
    have H := Lib.hid (i64_no kPrev m es _ w hD hn)
    unfold kPrev at H
    clear h hD hn
    go_enter Tryd.func33, Tryd.ntmps33
    go_wp2_with (go_at_call 36; refine H.out.mono ?_; rintro e w1 ⟨rfl, hb⟩)
    go_ret
    exact ⟨_, rfl, .inl ⟨by omega, rfl⟩, hb⟩

theorem neg31 (n : Int) (hn : 0 ≤ n) (w : World) : Calls Tryd.prog 31 #[.bool true, .int .i64 n] w fun e w' => e = .returned (.bool false) ∧ w = w' := by
  go_enter Tryd.func31, Tryd.ntmps31
  go_wp2_with fail
  go_ret
  exact ⟨by simp; omega, rfl⟩
end
end Go.Proofs.YtcandemhaddkjaaDoor.xs
