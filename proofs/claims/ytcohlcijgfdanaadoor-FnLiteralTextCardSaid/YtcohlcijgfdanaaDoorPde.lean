/-
  FnLiteralText: types.decodePDFDocEncoding; the map as its initialiser lays it.
-/
import Derived.Test.YtcohlcijgfdanaaDoorPdf
namespace Go.Proofs.YtcohlcijgfdanaaDoor.lt
open Go.RowKit
open Go.Proofs.YtcohlcijgfdanaaDoor.wd (encode_mkS mkS_app)

theorem app_mkS (a : ByteArray) (x y : List UInt8) : a ++ mkS x ++ mkS y = a ++ mkS (x ++ y) := by
  apply ByteArray.ext
  apply Array.toList_inj.1
  simp [mkS]
theorem app_nil (a : ByteArray) : a ++ mkS [] = a := by
  apply ByteArray.ext
  apply Array.toList_inj.1
  simp [mkS]

theorem foldl_doc : ∀ (l : List UInt8) (acc : ByteArray), (∀ b ∈ l, 0 ≤ dsg b.toNat) → (l.map fun b => pdr b.toNat).foldl (fun r n => r ++ Utf8.encode n) acc = acc ++ mkS (docT l)
  | [], acc, _ => (app_nil acc).symm
  | b :: r, acc, h => by
    have hb := h b (by simp)
    rw [List.map_cons, List.foldl_cons, foldl_doc r _ (fun c hc => h c (by simp [hc])), pdr_dsg b.toNat b.toNat_lt hb]
    obtain ⟨k, hk⟩ : ∃ k : Nat, dsg b.toNat = (k : Int) := ⟨(dsg b.toNat).toNat, by omega⟩
    show _ = acc ++ mkS (Lib.encodeRune (dsg b.toNat) ++ docT r)
    rw [hk, encode_mkS, app_mkS]

theorem runes_doc (l : List UInt8) (h : ∀ b ∈ l, 0 ≤ dsg b.toNat) : runesBytes (l.map fun b => pdr b.toNat) = mkS (docT l) := by
  unfold runesBytes
  rw [foldl_doc l _ h]
  apply ByteArray.ext
  apply Array.toList_inj.1
  simp [mkS]

def rowD (l : List UInt8) (k : Nat) : Nat → Value := fun j => if j < k then .int .i32 (pdr (l.getD j 0).toNat) else .int .i32 0
theorem rowD_add (l : List UInt8) (k : Nat) (b : UInt8) (h : l[k]? = some b) : (fun j => if j = k then Value.int .i32 (pdr b.toNat) else rowD l k j) = rowD l (k + 1) := by
  funext j
  unfold rowD
  by_cases hj : j = k
  · subst hj
    simp [List.getD, h]
  · by_cases h2 : j < k
    · simp [hj, h2, show j < k + 1 by omega]
    · simp [hj, h2, show ¬ j < k + 1 by omega]

set_option maxRecDepth 100000 in
set_option maxHeartbeats 2000000 in
theorem decode81 (w : World) (v : Value) (t : ByteArray) (h : Sl w v t) (hs : t.size ≤ 10000) (hP : PdfTab w) (hd : ∀ b ∈ t.data.toList, 0 ≤ dsg b.toNat) :
    Calls Tryd.prog 81 #[v] w fun e w' => e = .returned (.string (mkS (docT t.data.toList))) ∧ Below w.heap.size w w' := by
  have hv : ∃ a c, v = .slice a t.size c ∧ (0 < t.size → ∃ g o, a = some ⟨g, o, none⟩ ∧ g < w.heap.size ∧ Vw w g o t) := by
    rcases h with ⟨rfl, h0⟩ | ⟨g, o, c, rfl, h2, hm, h4, h5⟩
    · exact ⟨_, _, by rw [h0], fun h => by omega⟩
    · exact ⟨_, _, rfl, fun _ => ⟨g, o, rfl, h4, h5⟩⟩
  obtain ⟨a, c, rfl, hv⟩ := hv
  have HV := Lib.hid hv
  have HC := Lib.hid fun (W : World) (hb : Below w.heap.size w W) (b : UInt8) => rune100 b.toNat b.toNat_lt W (hP.below hb)
  have hmk : ∀ w : World, (Instr.makeSlice 73 (.int .i64 (t.size : Int)) (.int .i64 (t.size : Int))).run Tryd.prog w = .ok (.slice (some ⟨w.heap.size, 0, none⟩) t.size t.size) (w.alloc (.cells (madeCells #[.int .i32 0] t.size) 21)) := fun w =>
    run_make_row' 73 21 (.int .i32 0) 4 Tryd.underlying73 Go.Proofs.YtcohlcijgfdanaaDoor.u16.infoI32 rfl .i64 .i64 t.size (by omega) (by omega) w
  have hrow0 := Lib.hid (World.rowIs_made w (.int .i32 0) t.size 21)
  have hB0 : Hid (Below w.heap.size w (w.alloc (.cells (madeCells #[.int .i32 0] t.size) 21))) := Lib.hid ((Below.refl _ _).alloc (Nat.le_refl _) _)
  have HD := Lib.hid hd
  obtain ⟨X, hX⟩ : ∃ X, mkS (docT t.data.toList) = X := ⟨_, rfl⟩
  rw [hX]
  have HX := Lib.hid hX
  clear h hv hP hd hX
  go_enter Tryd.func81, Tryd.ntmps81
  go_wp2_with fail
  generalize w.alloc (.cells (madeCells #[.int .i32 0] t.size) 21) = W0 at *
  go_loopw [11] (fun i wr => ∃ k : Nat, i = .int .i64 (k : Int) ∧ Hid (k ≤ t.size) ∧ Hid (wr.rowIs w.heap.size 21 t.size (rowD t.data.toList k)) ∧ Hid (Below w.heap.size w wr)) (fun i _ => t.size - (intOf i).toNat)
  case atStart => exact ⟨0, rfl, Lib.hid (by omega), Lib.hid (hrow0.out.congr fun i _ => rfl), hB0⟩
  case round =>
    obtain ⟨k, rfl, HK, HR, HB⟩ := hrel
    by_cases hk : k < t.size
    · have hki : (k : Int) < (t.size : Int) := by omega
      obtain ⟨g, o, rfl, hg, hvw⟩ := HV.out (by omega)
      obtain ⟨b, hb⟩ : ∃ b, t[k] = b := ⟨_, rfl⟩
      have hcell := (hvw.below HB.out hg) k hk
      rw [hb] at hcell
      have hset := HR.out.set k (.int .i32 (pdr b.toNat))
      rw [rowD_add t.data.toList k b (by rw [← hb]; exact get_list t k hk)] at hset
      have HSET := Lib.hid hset
      have hfz := HR.out.frozen k
      have hc1 := HR.out.cell hk
      have hwl := HR.out.lt
      have hk2 : Hid (k + 1 ≤ t.size) := Lib.hid hk
      have hbset : Hid (Below w.heap.size w (wr.setCell ⟨w.heap.size, k, none⟩ (.int .i32 (pdr b.toNat)))) := Lib.hid (HB.out.setCell (p := ⟨w.heap.size, k, none⟩) (Nat.le_refl _) _)
      have HCb := Lib.hid (HC.out wr HB.out b)
      clear hset hvw hb
      generalize pdr b.toNat = r at *
      generalize rowD t.data.toList k k = z at *
      go_wp2_with (go_at_call 100; refine HCb.out.mono ?_; rintro e w1 ⟨rfl, hw1⟩; obtain rfl := hw1.symm)
      go_roundw
      case rel => first | exact ⟨k + 1, rfl, hk2, HSET, hbset⟩ | ((repeat apply Exists.intro); refine ⟨?_, rfl⟩; exact ⟨k + 1, rfl, hk2, HSET, hbset⟩)
      case measure => simp [intOf]; omega
    · have hki : ¬ (k : Int) < (t.size : Int) := by omega
      have hke : k = t.size := by have := HK.out; omega
      have hcv : (convert 73 9 (.slice (some ⟨w.heap.size, 0, none⟩) t.size t.size)).run Tryd.prog wr = .ok (.string X) wr := by
        have hl : t.data.toList.length = t.size := by rw [← Lib.size_eq]
        have h1 := run_convert_runes (P := Tryd.prog) wr 73 9 21 ⟨w.heap.size, 0, none⟩ t.size t.size (t.data.toList.map fun b => pdr b.toNat) (by rw [List.length_map]; omega) Tryd.underlying73 Tryd.underlying21 Tryd.underlying9 (fun j hj => by
          rw [List.length_map] at hj
          have hj' : j < t.size := by omega
          have hc := HR.out.cell hj'
          have e : rowD t.data.toList k j = .int .i32 ((t.data.toList.map fun b => pdr b.toNat).getD j 0) := by
            unfold rowD
            rw [if_pos (by omega)]
            simp only [List.getD, List.getElem?_map, List.getElem?_eq_getElem hj, Option.map_some, Option.getD_some]
          rw [e] at hc
          by_cases hj0 : j = 0
          · subst hj0
            simpa [Addr.add] using hc
          · simp only [Addr.add, hj0, if_false, Nat.zero_add]
            exact hc)
        rw [List.take_of_length_le (by rw [List.length_map]; omega), runes_doc _ HD.out, HX.out] at h1
        exact h1
      clear hke hk
      go_wp2_with fail
      go_ret
      exact ⟨rfl, HB.out⟩

theorem pdfTab_of {W : World} (h : Lib.VarReads Tryd.prog W "given.example/pub-foolscap/pub/pdfcpu/pkg/pdfcpu/types.pdfDocEncoding" DD) : PdfTab W := by
  obtain ⟨g, t, cs, fuel, p, hg, ht, hvar, hd⟩ := h
  obtain rfl : 5 = g := Option.some.inj ((show Tryd.prog.globalNamed "given.example/pub-foolscap/pub/pdfcpu/pkg/pdfcpu/types.pdfDocEncoding" = some 5 by kernel_rfl).symm.trans hg)
  obtain rfl : 132 = t := Option.some.inj ((show (Tryd.prog.globals[5]?).map (·.type) = some 132 by kernel_rfl).symm.trans ht)
  rcases WideElems.open_map Tryd.underlying132 hd with ⟨-, h0⟩ | ⟨bm, es, clock, n, rfl, hcs, hb, -, F, hx⟩
  · exact absurd (congrArg Prod.fst h0) (by unfold DD Rows.laid_given_example_pub_foolscap_pub_pdfcpu_pkg_pdfcpu_types_pdfDocEncoding; simp)
  · have hown := World.ownsMap_of_fit (R := plainElem Tryd.prog 21) hb F (fun x _ z hz => elemAt_plainElem_int Tryd.underlying21 hz)
    rw [← (Prod.mk.inj hx).1] at hown
    refine ⟨bm, _, ?_, hown⟩
    rw [World.var?_cell hg hvar 0, ← Array.getElem?_toList, hcs]
    rfl
end Go.Proofs.YtcohlcijgfdanaaDoor.lt
