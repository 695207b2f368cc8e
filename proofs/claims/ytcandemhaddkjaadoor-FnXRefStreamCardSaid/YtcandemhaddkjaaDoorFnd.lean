/-
  types.Dict: DecodeName at names of plain characters; Find.
-/
import Derived.Test.YtcandemhaddkjaaDoorLis
import Derived.Laws.Strings2
import Derived.Laws.Strings3
namespace Go.Proofs.YtcandemhaddkjaaDoor.xs
open Go.RowKit Go.MapKept Go.ChangeMaps
set_option linter.unusedVariables false
set_option linter.unusedSimpArgs false

/-- No '#', no null byte. -/
def Plain (s : ByteArray) : Prop := ∀ (i : Nat) (h : i < s.size), s[i] ≠ 0 ∧ s[i] ≠ 35

theorem plain38 (s : ByteArray) (hs : s.size ≤ 100) (hp : Plain s) (w : World) : Calls Tryd.prog 38 #[.string s] w fun e w' => e = .returned (.tuple #[.string s, .nilIface]) ∧ Below w.heap.size w w' := by
  have HP := Lib.hid hp
  clear hp
  go_enter Tryd.func38, Tryd.ntmps38
  go_wp2_with fail
  go_loop [4, 6] (fun r i => r = .bool false ∧ ∃ k : Nat, i = .int .i64 (k : Int) ∧ k ≤ s.size) (fun _ i => s.size - (intOf i).toNat)
  case atStart => exact ⟨rfl, 0, rfl, by omega⟩
  case round =>
    obtain ⟨rfl, k, rfl, hk⟩ := hrel
    by_cases hlt : k < s.size
    · have h1 := (HP.out k hlt).1
      have h2 := (HP.out k hlt).2
      have e1 : (((s[k]).toNat : Int) == 0) = false := by
        simp
        intro e
        exact h1 (UInt8.toNat_inj.1 (by simpa using e))
      have e2 : (((s[k]).toNat : Int) != 35) = true := by
        simp
        intro e
        exact h2 (UInt8.toNat_inj.1 (by simp; omega))
      clear h1 h2
      go_wp2_with fail
      go_round
      case rel => exact ⟨rfl, k + 1, by go_num, by omega⟩
      case measure => simp [intOf]; omega
    · go_wp2_with fail
      go_ret2
      exact ⟨rfl, (Below.refl _ _).alloc (Nat.le_refl _) _⟩

/-- What is needed of a dictionary's entries. -/
structure DictM (w : World) (m : Nat) (es : Array MapEntry) (clock : Nat) : Prop where
  blk : w.heap[m]? = some (.map es clock)
  keys : ∀ x ∈ es.toList, ∃ s : ByteArray, x.key = .string s ∧ s.size ≤ 100 ∧ Plain s
  apart : es.toList.Pairwise fun x y => x.key ≠ y.key
  born : (es.toList.map (·.born)).Nodup
  old : ∀ x ∈ es.toList, x.born < clock
theorem DictM.isKey {w : World} {m : Nat} {es : Array MapEntry} {clock : Nat} (h : DictM w m es clock) : ∀ x ∈ es.toList, IsKey .string x.key := fun x hx => by
  obtain ⟨s, hs, _⟩ := h.keys x hx
  rw [hs]
  exact trivial
theorem DictM.kept {w w' : World} {m : Nat} {es : Array MapEntry} {clock : Nat} (h : DictM w m es clock) (k : Kept [] w w') : DictM w' m es clock :=
  ⟨(k.block m (Array.getElem?_eq_some_iff.1 h.blk).1 (by simp)).trans h.blk, h.keys, h.apart, h.born, h.old⟩
theorem zero64 (w : World) : (zeroValue 64).run Tryd.prog w = .ok .nilIface w := by kernel_rfl

theorem find_yes (k : ByteArray) (v : Value) (m : Nat) (es : Array MapEntry) (clock : Nat) (w : World) (h : DictM w m es clock) (x : MapEntry) (hx : x ∈ es.toList) (hk : x.key = .string k) (hv : x.val = v) : Calls Tryd.prog 37 #[.map (some m), .string k] w fun e w' => e = .returned (.tuple #[v, .bool true]) ∧ w = w' := by
  have hl := map_get (P := Tryd.prog) (mty := 49) (c := true) Tryd.underlying49 Tryd.underlying9 h.blk h.isKey h.apart (key := .string k) trivial hx hk
  rw [hv] at hl
  simp only [if_true] at hl
  clear h hx hk
  go_enter Tryd.func37, Tryd.ntmps37
  go_wp2_with fail
  go_ret2
  exact ⟨rfl, rfl⟩

theorem str_ne {a b : ByteArray} (h : Value.string a ≠ Value.string b) : (a.toList == b.toList) = false := by
  rw [Bool.eq_false_iff]
  intro e
  have e := eq_of_beq e
  rw [ByteArray.toList_eq, ByteArray.toList_eq] at e
  exact h (by rw [WideShapes.bytes_inj e])

set_option maxHeartbeats 1000000 in
set_option maxRecDepth 100000 in
theorem find_no (k : ByteArray) (m : Nat) (es : Array MapEntry) (clock : Nat) (w : World) (h : DictM w m es clock) (hk : ∀ x ∈ es.toList, x.key ≠ .string k) : Calls Tryd.prog 37 #[.map (some m), .string k] w fun e w' => e = .returned (.tuple #[.nilIface, .bool false]) ∧ Below w.heap.size w w' := by
  have hl := map_no (P := Tryd.prog) (mty := 49) (c := true) Tryd.underlying49 Tryd.underlying9 h.blk h.isKey (key := .string k) trivial hk zero64
  simp only [if_true] at hl
  have hrg : (Instr.range 49 (.map (some m))).run Tryd.prog w = .ok (.pointer (some ⟨w.heap.size, 0, none⟩)) (w.alloc (.mapIter (some m) clock #[] clock)) := by
    simp [Instr.range, run_underlying Tryd.underlying49, MapKept.run_getObj_map h.blk, Result.andThen, newObj, Sem.run]
  have H := Lib.hid h
  have HK := Lib.hid hk
  have h0 : ∃ seen, (w.alloc (.mapIter (some m) clock #[] clock)).heap[w.heap.size]? = some (.mapIter (some m) clock seen clock) ∧ (leftOf es seen).size = (leftOf es #[]).size := ⟨_, heap_alloc_new w _, rfl⟩
  have hb0 : Below w.heap.size w (w.alloc (.mapIter (some m) clock #[] clock)) := (Below.refl _ _).alloc (Nat.le_refl _) _
  have HB0 := Lib.hid hb0
  have H00 := Lib.hid h0
  clear h hk h0 hb0
  go_enter Tryd.func37, Tryd.ntmps37
  go_wp2_with fail
  go_loopg [5] (leftOf es #[]).size (fun gk b wr => Hid (∃ seen, wr.heap[w.heap.size]? = some (.mapIter (some m) clock seen clock) ∧ (leftOf es seen).size = gk) ∧ Hid (Below w.heap.size w wr))
  case atStart => exact ⟨H00, HB0⟩
  case round =>
    obtain ⟨HI, HB⟩ := hrel
    obtain ⟨seen, hi, hsz⟩ := HI.out
    have hD := H.out.kept (Kept.of_below HB.out [])
    rcases run_next_at (P := Tryd.prog) wr 0 w.heap.size m clock clock seen es clock hi hD.blk hD.old (Nat.le_refl _) with ⟨h1, hrun⟩ | ⟨e, he, w1, hw1, hrun⟩
    · clear hD hi hsz HI
      go_wp2_with fail
      go_ret2
      exact ⟨rfl, HB.out⟩
    · obtain ⟨hmem, hns⟩ := mem_left he
      have hsh := left_shrinks es seen e he
      obtain ⟨W, hW⟩ : ∃ W, setBlock w1 w.heap.size (.mapIter (some m) clock (seen.push e.born) clock) = W := ⟨_, rfl⟩
      rw [hW] at hrun
      have hi1 : w1.heap[w.heap.size]? = some (.mapIter (some m) clock seen clock) := by rcases hw1 with rfl | rfl <;> exact hi
      have hlt1 : w.heap.size < w1.heap.size := (Array.getElem?_eq_some_iff.1 hi1).1
      have k1 : Kept [] wr w1 := by
        rcases hw1 with rfl | rfl
        · exact Kept.refl _ _
        · exact (Kept.refl _ _).drew
      have kW : Kept [w.heap.size] w1 W := by
        rw [← hW]
        exact ⟨rfl, rfl, rfl, by simp [setBlock], fun k hk hn => by simp [setBlock]; rw [Array.getElem?_setIfInBounds_ne (fun e => hn (by simp [e]))]⟩
      have hiW : W.heap[w.heap.size]? = some (.mapIter (some m) clock (seen.push e.born) clock) := by
        rw [← hW]
        simp [setBlock, hlt1]
      have hbW : Below w.heap.size w W := HB.out.trans ((k1.below HB.out.size (by simp)).trans (kW.below (by omega) (by simp)))
      have hDW := H.out.kept (Kept.of_below hbW [])
      have hent := run_entry_at (P := Tryd.prog) W w.heap.size m clock seen es clock e hiW hDW.blk hmem hDW.born
      obtain ⟨s, hs, hs1, hs2⟩ := hDW.keys e hmem
      rw [hs] at hrun hent
      have hne := str_ne (fun h => HK.out e hmem (hs.trans h))
      have HD38 := Lib.hid (plain38 s hs1 hs2 W)
      have HBW := Lib.hid hbW
      have HIW := Lib.hid hiW
      have HSH := Lib.hid hsh
      have HZ := Lib.hid hsz
      clear hsh hsz hs hs1 hs2 hDW hbW hiW kW k1 hlt1 hi1 hW hmem hns hD hw1 he
      go_wp2_with (go_at_call 38; refine HD38.out.mono ?_; rintro e w2 ⟨rfl, hb2⟩; refine Hid.out ?_)
      refine Lib.hid ?_
      go_wp2_with fail
      go_roundg ((leftOf es (seen.push e.born)).size)
      case measure => rw [← HZ.out]; exact HSH.out
      case rel => exact ⟨Lib.hid ⟨_, (hb2.block _ (Array.getElem?_eq_some_iff.1 HIW.out).1).trans HIW.out, rfl⟩, Lib.hid (HBW.out.trans (hb2.mono HBW.out.size))⟩

def OneOf (o : Option Value) (f : Value → Value) (d : Value) : Value := match o with | some v => f v | none => d

set_option maxRecDepth 100000 in
/-- An integer's entry. -/
theorem int_yes (k : ByteArray) (n : Int) (m : Nat) (es : Array MapEntry) (clock : Nat) (w : World) (h : DictM w m es clock) (x : MapEntry) (hx : x ∈ es.toList) (hk : x.key = .string k) (hv : x.val = .iface 73 (.int .i64 n)) :
    Calls Tryd.prog 34 #[.map (some m), .string k] w fun e w' => e = .returned (.pointer (some ⟨w.heap.size, 0, none⟩)) ∧ w' = w.alloc (.cells #[.int .i64 n] 3) := by
  have H := Lib.hid (find_yes k _ m es clock w h x hx hk hv)
  clear h hx hk hv
  have hta : ∀ w : World, (Instr.typeAssert (.iface 73 (.int .i64 n)) 64 73 true).run Tryd.prog w = .ok (.tuple #[.int .i64 n, .bool true]) w := fun _ => by kernel_rfl
  go_enter Tryd.func34, Tryd.ntmps34
  go_wp2_with (go_at_call 37; refine H.out.mono ?_; rintro e w' ⟨rfl, rfl⟩)
  go_ret
  exact ⟨rfl, rfl⟩
set_option maxRecDepth 100000 in
theorem int_no (k : ByteArray) (m : Nat) (es : Array MapEntry) (clock : Nat) (w : World) (h : DictM w m es clock) (hk : ∀ x ∈ es.toList, x.key ≠ .string k) :
    Calls Tryd.prog 34 #[.map (some m), .string k] w fun e w' => e = .returned (.pointer none) ∧ Below w.heap.size w w' := by
  have H := Lib.hid (find_no k m es clock w h hk)
  clear h hk
  go_enter Tryd.func34, Tryd.ntmps34
  go_wp2_with (go_at_call 37; refine H.out.mono ?_; rintro e w1 ⟨rfl, hb⟩)
  go_ret
  exact ⟨rfl, hb⟩
set_option maxRecDepth 100000 in
theorem i64_yes (k : ByteArray) (n : Int) (m : Nat) (es : Array MapEntry) (clock : Nat) (w : World) (h : DictM w m es clock) (x : MapEntry) (hx : x ∈ es.toList) (hk : x.key = .string k) (hv : x.val = .iface 73 (.int .i64 n)) :
    Calls Tryd.prog 36 #[.map (some m), .string k] w fun e w' => e = .returned (.pointer (some ⟨w.heap.size, 0, none⟩)) ∧ w' = w.alloc (.cells #[.int .i64 n] 2) := by
  have H := Lib.hid (find_yes k _ m es clock w h x hx hk hv)
  clear h hx hk hv
  have hta : ∀ w : World, (Instr.typeAssert (.iface 73 (.int .i64 n)) 64 73 true).run Tryd.prog w = .ok (.tuple #[.int .i64 n, .bool true]) w := fun _ => by kernel_rfl
  go_enter Tryd.func36, Tryd.ntmps36
  go_wp2_with (go_at_call 37; refine H.out.mono ?_; rintro e w' ⟨rfl, rfl⟩)
  go_ret
  exact ⟨rfl, rfl⟩
set_option maxRecDepth 100000 in
theorem i64_no (k : ByteArray) (m : Nat) (es : Array MapEntry) (clock : Nat) (w : World) (h : DictM w m es clock) (hk : ∀ x ∈ es.toList, x.key ≠ .string k) :
    Calls Tryd.prog 36 #[.map (some m), .string k] w fun e w' => e = .returned (.pointer none) ∧ Below w.heap.size w w' := by
  have H := Lib.hid (find_no k m es clock w h hk)
  clear h hk
  go_enter Tryd.func36, Tryd.ntmps36
  go_wp2_with (go_at_call 37; refine H.out.mono ?_; rintro e w1 ⟨rfl, hb⟩)
  go_ret
  exact ⟨rfl, hb⟩
set_option maxRecDepth 100000 in
theorem arr_yes (k : ByteArray) (a : Option Addr) (n c : Nat) (m : Nat) (es : Array MapEntry) (clock : Nat) (w : World) (h : DictM w m es clock) (x : MapEntry) (hx : x ∈ es.toList) (hk : x.key = .string k) (hv : x.val = .iface 83 (.slice a n c)) :
    Calls Tryd.prog 35 #[.map (some m), .string k] w fun e w' => e = .returned (.slice a n c) ∧ w = w' := by
  have H := Lib.hid (find_yes k _ m es clock w h x hx hk hv)
  clear h hx hk hv
  have hta : ∀ w : World, (Instr.typeAssert (.iface 83 (.slice a n c)) 64 83 true).run Tryd.prog w = .ok (.tuple #[.slice a n c, .bool true]) w := fun _ => by kernel_rfl
  go_enter Tryd.func35, Tryd.ntmps35
  go_wp2_with (go_at_call 37; refine H.out.mono ?_; rintro e w' ⟨rfl, rfl⟩)
  go_ret
  exact ⟨rfl, rfl⟩
set_option maxRecDepth 100000 in
theorem arr_no (k : ByteArray) (m : Nat) (es : Array MapEntry) (clock : Nat) (w : World) (h : DictM w m es clock) (hk : ∀ x ∈ es.toList, x.key ≠ .string k) :
    Calls Tryd.prog 35 #[.map (some m), .string k] w fun e w' => e = .returned (.slice none 0 0) ∧ Below w.heap.size w w' := by
  have H := Lib.hid (find_no k m es clock w h hk)
  clear h hk
  go_enter Tryd.func35, Tryd.ntmps35
  go_wp2_with (go_at_call 37; refine H.out.mono ?_; rintro e w1 ⟨rfl, hb⟩)
  go_ret
  exact ⟨rfl, hb⟩
end Go.Proofs.YtcandemhaddkjaaDoor.xs
