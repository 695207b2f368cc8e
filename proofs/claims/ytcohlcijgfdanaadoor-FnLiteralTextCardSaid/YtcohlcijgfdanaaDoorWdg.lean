/-
  types.EncodeUTF16String and impl.UTF16Of at a text.
-/
import Derived.Test.YtcohlcijgfdanaaDoorWdf
namespace Go.Proofs.YtcohlcijgfdanaaDoor.wd
open Go.RowKit

theorem convRunes (s : ByteArray) : ∀ (n pos : Nat) (acc : Array Value), s.size - pos ≤ n → Conv.runesFrom s n pos acc = acc ++ ((runes (s.data.toList.drop pos)).map (fun (c : Nat) => Value.int .i32 (c : Int))).toArray
  | 0, pos, acc, h => by
    rw [runes_end s pos (by omega)]
    simp [Conv.runesFrom]
  | n + 1, pos, acc, h => by
    unfold Conv.runesFrom
    by_cases hp : pos < s.size
    · have hw := width_pos s pos
      rw [if_pos hp, runes_drop s pos hp]
      show Conv.runesFrom s n (pos + (Utf8.decode s pos).2) (acc.push (.int .i32 (Int.ofNat (Utf8.decode s pos).1))) = _
      rw [convRunes s n _ _ (by omega)]
      generalize Utf8.decode s pos = q
      apply Array.toList_inj.1
      simp
    · rw [if_neg hp, runes_end s pos hp]
      simp

theorem runes_conv (s : ByteArray) (hs : s.size ≤ 4096) (w : World) : ∃ cap W, (convert 9 73 (.string s)).run Tryd.prog w = .ok (.slice (some ⟨w.heap.size, 0, none⟩) (runes s.data.toList).length cap) W ∧
    (∀ (i c : Nat), (runes s.data.toList)[i]? = some c → W.cell? ⟨w.heap.size, i, none⟩ = some (.int .i32 (c : Int))) ∧ Below w.heap.size w W := by
  have hl := runes_len s.data.toList
  rw [← Lib.size_eq] at hl
  have hr : Conv.runesFrom s s.size 0 #[] = ((runes s.data.toList).map (fun (c : Nat) => Value.int .i32 (c : Int))).toArray := by
    rw [convRunes s s.size 0 #[] (by omega)]
    simp
  have hcv := run_runes_of_string (P := Tryd.prog) w 9 73 21 s Tryd.underlying9 Tryd.underlying73 Tryd.underlying21 (by rw [hr]; simp; omega)
  rw [hr] at hcv
  have hsz : (((runes s.data.toList).map (fun (c : Nat) => Value.int .i32 (c : Int))).toArray).size = (runes s.data.toList).length := by simp
  rw [hsz] at hcv
  refine ⟨_, _, hcv, fun i c hc => ?_, (Below.refl _ w).drew.alloc (Nat.le_refl _) _⟩
  refine (World.cell?_alloc_at (w := w.drew) _ _ w.heap.size i rfl).trans ?_
  have hi := (List.getElem?_eq_some_iff.1 hc).1
  rw [Array.getElem?_append_left (by simpa using hi)]
  simp [hc]

theorem cell_pair (W : World) (x y : Value) (t : TypeId) (k : Nat) (hk : k = W.heap.size) : ∀ j u, [x, y][j]? = some u → (W.alloc (.cells #[x, y] t)).cell? ((⟨k, 0, none⟩ : Addr).add j) = some u := by
  subst hk
  intro j u hj
  match j, hj with
  | 0, hj => simp at hj; subst hj; simp [Addr.add]
  | 1, hj => simp at hj; subst hj; simp [Addr.add]
  | (j + 2), hj => simp at hj

/-- Bytes as cells. -/
def u8s (l : List UInt8) : List Value := l.map fun b => Value.int .u8 (b.toNat : Int)
theorem u8s_get (l : List UInt8) (j : Nat) (h : j < l.length) : (u8s l)[j]? = some (.int .u8 (l[j].toNat : Int)) := by
  unfold u8s
  rw [List.getElem?_map, List.getElem?_eq_getElem h]
  rfl
theorem u8s_be (l : List UInt8) (pre : List Nat) (u : Nat) (h : u < 65536) : u8s (l ++ bytes pre) ++ [Value.int .u8 ((u : Int) / 256), Value.int .u8 (((u % 256 : Nat) : Int))] = u8s (l ++ bytes (pre ++ [u])) := by
  have h1 : (UInt8.ofNat (u / 256)).toNat = u / 256 := by rw [UInt8.toNat_ofNat']; omega
  have h2 : (UInt8.ofNat (u % 256)).toNat = u % 256 := by rw [UInt8.toNat_ofNat']; omega
  unfold u8s
  rw [bytes_app, ← List.append_assoc, List.map_append (l₁ := l ++ bytes pre)]
  congr 1
  show _ = [Value.int .u8 ((UInt8.ofNat (u / 256)).toNat : Int), Value.int .u8 ((UInt8.ofNat (u % 256)).toNat : Int)]
  rw [h1, h2]
  rfl

theorem u16_and_low (n : Nat) (h : n < 65536) : bits .and .u16 (n : Int) 255 = ((n % 256 : Nat) : Int) := by
  have h127 : (BitVec.ofInt 16 255).toNat = 2 ^ 8 - 1 := by decide
  have key : (BitVec.ofInt 16 (n : Int) &&& BitVec.ofInt 16 255).toNat = ((n : Int) % ((2 ^ 16 : Nat) : Int)).toNat % 2 ^ 8 := by
    rw [BitVec.toNat_and, BitVec.toNat_ofInt, h127, Nat.and_two_pow_sub_one_eq_mod]
  show IntKind.u16.wrap ((BitVec.ofInt 16 (n : Int) &&& BitVec.ofInt 16 255).toNat : Nat) = _
  rw [key, IntKind.wrap_u16]
  omega

set_option maxHeartbeats 2000000 in
set_option maxRecDepth 100000 in
theorem encode40 (s : ByteArray) (hs : s.size ≤ 4096) (w : World) : Calls Tryd.prog 40 #[.string s] w fun e w' => e = .returned (.string ⟨(wide (runes s.data.toList)).toArray⟩) ∧ Below w.heap.size w w' := by
  obtain ⟨j0, ji, jz0, jz1, jz2⟩ := info_parts Go.Proofs.YtcohlcijgfdanaaDoor.u16.infoU8
  obtain ⟨cap, W, hcv, hcells, hB⟩ := runes_conv s hs w
  have hl := runes_len s.data.toList
  rw [← Lib.size_eq] at hl
  have hsc := runes_scal s.data.toList
  have hc := Lib.hid (encode65 _ hsc (by omega) w.heap.size cap W hcells)
  have hul := units_len (runes s.data.toList)
  have hult := Lib.hid (units_lt _ hsc)
  have hN : (units (runes s.data.toList)).length ≤ 8192 := by omega
  have HB := Lib.hid hB
  clear hcells hB hl hsc hul
  unfold wide
  generalize hus : units (runes s.data.toList) = us at *
  have HUS := Lib.hid hus
  generalize (runes s.data.toList).length = rl at *
  clear hus hs
  go_enter Tryd.func40, Tryd.ntmps40
  go_wp2_with (go_at_call 65; refine hc.out.mono ?_; rintro e w1 ⟨g', c', rfl, hrow, hb1⟩; refine Hid.out ?_)
  refine Lib.hid ?_
  have hsW := HB.out.size
  have hs1 := hb1.size
  have HB1 := Lib.hid (HB.out.trans (hb1.mono hsW))
  have HROW := Lib.hid hrow
  have hg1 := hrow.lt
  have hown0 := Lib.hid (World.ownsRow_lit (base := w1.heap.size) (e := 5) (size := 1) w1 #[.int .u8 254, .int .u8 255] 2 (by omega) (by unfold maxLen; omega) rfl)
  clear hb1 hrow hc HB
  go_wp2_with fail
  have hb0 := Lib.hid ((Below.refl w1.heap.size w1).alloc (Nat.le_refl _) (.cells #[.int .u8 254, .int .u8 255] 5))
  generalize w1.alloc (.cells #[.int .u8 254, .int .u8 255] 5) = W2 at *
  go_loopw [4, 13] (fun v i wr => ∃ pre rest : List Nat, Hid (us = pre ++ rest) ∧ i = .int .i64 (pre.length : Int) ∧ Hid (wr.ownsRow w1.heap.size 5 1 v (2 + 2 * pre.length) (u8s ([254, 255] ++ bytes pre))) ∧ Hid (Below w1.heap.size w1 wr)) (fun _ i _ => us.length - (intOf i).toNat)
  case atStart => exact ⟨[], us, Lib.hid rfl, rfl, hown0, hb0⟩
  case round =>
    obtain ⟨pre, rest, hpr, rfl, HO, HB⟩ := hrel
    have hln : us.length = pre.length + rest.length := by rw [hpr.out]; simp
    cases rest with
    | cons u rest =>
      simp only [List.length_cons] at hln
      have hu : u < 65536 := hult.out u (by rw [hpr.out]; simp)
      have hcell := (HROW.out.of_block (HB.out.block g' hg1)).cell (i := pre.length) (by omega)
      have hgd : rowU us pre.length = .int .u16 (u : Int) := by unfold rowU; rw [hpr.out]; simp
      rw [hgd] at hcell
      have hlt : (pre.length : Int) < (us.length : Int) := by omega
      have e1 := u16_and_low u hu
      have hu8 := Lib.hid (u8s_be [254, 255] pre u hu)
      have hul : ((u : Int)) < 65536 := by omega
      have hu0 : (0 : Int) ≤ (u : Int) := by omega
      have hm0 : (0 : Int) ≤ ((u % 256 : Nat) : Int) := by omega
      have hm1 : ((u % 256 : Nat) : Int) ≤ 255 := by omega
      have hn13 : 2 + 2 * pre.length ≤ 20000 := by omega
      have HLN := Lib.hid hln
      clear hgd hu hln
      generalize ((u % 256 : Nat) : Int) = m at *
      generalize (u : Int) = d at *
      have hown := HO.out
      have hsz := HB.out.size
      go_wp2_with (at_builtin; refine Hid.out ?_)
      refine Lib.hid ?_
      refine wpList_append_own _ rfl _ _ 29 rfl w1.heap.size 5 j0 (.int .u8 0) 1 1 Tryd.underlying29 ji jz0 jz1 jz2 rfl (by decide) _ _ _ rfl (hown.alloc _) ⟨wr.heap.size, 0, none⟩ 2 2 [Value.int .u8 (d / 256), Value.int .u8 m] rfl rfl (cell_pair _ _ _ _ _ (by simp)) (by intro u' hu'; simp at hu'; rcases hu' with rfl | rfl <;> rfl) (by unfold maxLen; omega) (by omega) (by simp; omega) ?_
      intro v3 w3 hown3 hgrow _
      rw [hu8.out, show 2 + 2 * pre.length + 2 = 2 + 2 * (pre ++ [u]).length by simp; omega] at hown3
      have hb3 := (HB.out.alloc (by omega) (.cells #[.int .u8 (d / 256), .int .u8 m] 5)).grown hgrow (by simp; omega) (fun k hk => (hown.lt k hk).1)
      have HO3 := Lib.hid hown3
      have HB3 := Lib.hid hb3
      clear hown3 hgrow hb3 hown hcell
      go_wp2_with fail
      go_roundw
      case rel =>
        refine ⟨pre ++ [u], rest, Lib.hid (by rw [hpr.out]; simp), ?ra, HO3, HB3⟩
        case ra => simp
      case measure =>
        have hln := HLN.out
        simp [intOf]; omega
    | nil =>
      obtain rfl : us = pre := by rw [hpr.out]; simp
      clear hln hpr
      have hown := HO.out
      rcases hown.2 with ⟨_, h⟩ | ⟨g3, cap3, cur3, rfl, -, -, -, -, -, -⟩
      · omega
      have hlen : ([254, 255] ++ bytes us).length = 2 + 2 * us.length := by rw [List.length_append, bytes_len]; rfl
      have hcv3 : (convert 29 9 (.slice (some ⟨g3, 0, none⟩) (2 + 2 * us.length) cap3)).run Tryd.prog wr = .ok (.string ⟨(254 :: 255 :: bytes us).toArray⟩) wr := by
        have := run_convert_bytes_back (P := Tryd.prog) wr 29 9 5 ⟨g3, 0, none⟩ cap3 ([254, 255] ++ bytes us) Tryd.underlying29 Tryd.underlying5 Tryd.underlying9 (fun j hj => hown.cells (g := g3) rfl j _ (u8s_get _ j hj))
        rw [hlen] at this
        exact this
      have HB4 := Lib.hid (HB1.out.trans (HB.out.mono HB1.out.size))
      clear hown hlen
      generalize hout : (254 :: 255 :: bytes us) = out at *
      have HOUT := Lib.hid hout
      clear hout
      go_wp2_with fail
      go_ret
      have hout := HOUT.out
      subst hout
      exact ⟨rfl, HB4.out⟩

/-- impl.UTF16Of of a text. -/
theorem utf16Of (s : ByteArray) (hs : s.size ≤ 4096) (w : World) : Calls Tryd.prog 20 #[.string s] w fun e w' => e = .returned (.string ⟨(wide (runes s.data.toList)).toArray⟩) ∧ Below w.heap.size w w' := by
  have hc := Lib.hid (encode40 s hs w)
  clear hs
  generalize wide (runes s.data.toList) = out at *
  go_enter Tryd.func20, Tryd.ntmps20
  go_wp2_with (go_at_call 40; refine hc.out.mono ?_; rintro e w1 ⟨rfl, hb1⟩)
  go_ret
  exact ⟨rfl, hb1⟩
end Go.Proofs.YtcohlcijgfdanaaDoor.wd
