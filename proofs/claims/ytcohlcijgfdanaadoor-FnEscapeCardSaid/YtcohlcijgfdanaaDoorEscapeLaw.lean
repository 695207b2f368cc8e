/-
  FnEscape: the law returns true for every input, and each argument and each listed variable reads as before. The row over what it lists, then the card.
-/
import Derived.Test.YtcohlcijgfdanaaDoorEsl
import Derived.Test.YtcohlcijgfdanaaDoorOpen
import Derived.Test.YtcohlcijgfdanaaDoorCards
import Derived.Test.YtcohlcijgfdanaaDoorTie
import Derived.WalkKit
import Derived.ProofKit
import Derived.OpenShut
import Derived.ShutString
import Derived.ChangeOld
import Derived.Below
import Derived.OpenVars
import Derived.Lib.SmallJoins
import Derived.Deep.DeepHandedRow
import Derived.Deep.DeepWitnessRowRef
import Derived.Lib.LaidTab
namespace Go.Proofs.YtcohlcijgfdanaaDoor.fnEscape
open Go.ChangeShapes Go.WideShapes Go.ChangeAt Go.RowKit Go.Joins
open Go.ChangeMaps (open_string shut_string)
set_option linter.unusedVariables false

theorem own : ownKnob Tryd.prog.godebug = none := by kernel_rfl
theorem laidOut : laidOutB Tryd.prog = true := by kernel_rfl
theorem rowed : varsRowed Tryd.prog Rows.fnEscapeSpec.vars = true := by kernel_rfl

theorem vars_len {H : Type} {enc : TypeId × Value → H} {P : Program} {w : World} {sp : Nat → Bool} : ∀ {ns : List String} {gs : List (DataW H)} {ps : List MemPlace}, DataW.TrodVars enc P w sp ns gs ps → gs.length = ns.length
  | [], [], _, _ => rfl
  | [], _ :: _, _, h => h.elim
  | _ :: _, [], _, h => h.elim
  | _ :: _, _ :: _, _, h => by
    obtain ⟨_, _, _, _, _, _, _, _, _, _, hs, _⟩ := h
    simp [vars_len hs]

/-- So many blocks has the settled world. -/
noncomputable def low : Nat := (World.holding Tryd.prog default ⟨#[], #[], []⟩).heap.size
/-- A world for the witness: the settled one, each listed variable holding what its initialiser lays. -/
noncomputable def laidWorld (os : Os) : World :=
  let w0 := World.holding Tryd.prog os ⟨#[.cells #[.string { data := #[118, 97, 108, 117, 101, 32, 111, 117, 116, 32, 111, 102, 32, 114, 97, 110, 103, 101] }] 103, .cells #[.string { data := #[105, 110, 118, 97, 108, 105, 100, 32, 115, 121, 110, 116, 97, 120] }] 103, .cells #[.string { data := #[98, 121, 116, 101, 115, 46, 66, 117, 102, 102, 101, 114, 58, 32, 116, 111, 111, 32, 108, 97, 114, 103, 101] }] 103], #[], []⟩
  let h0 := (w0.heap).modify 9 fun
      | .cells _ t frozen => .cells #[.int .u8 0, .int .u8 1, .int .u8 28, .int .u8 2, .int .u8 29, .int .u8 14, .int .u8 24, .int .u8 3, .int .u8 30, .int .u8 22, .int .u8 20, .int .u8 15, .int .u8 25, .int .u8 17, .int .u8 4, .int .u8 8, .int .u8 31, .int .u8 27, .int .u8 13, .int .u8 23, .int .u8 21, .int .u8 19, .int .u8 16, .int .u8 7, .int .u8 26, .int .u8 12, .int .u8 18, .int .u8 6, .int .u8 11, .int .u8 5, .int .u8 10, .int .u8 9] t frozen
      | o => o
  let h1 := (h0).modify 10 fun
      | .cells _ t frozen => .cells #[.int .u8 0, .int .u8 1, .int .u8 56, .int .u8 2, .int .u8 57, .int .u8 49, .int .u8 28, .int .u8 3, .int .u8 61, .int .u8 58, .int .u8 42, .int .u8 50, .int .u8 38, .int .u8 29, .int .u8 17, .int .u8 4, .int .u8 62, .int .u8 47, .int .u8 59, .int .u8 36, .int .u8 45, .int .u8 43, .int .u8 51, .int .u8 22, .int .u8 53, .int .u8 39, .int .u8 33, .int .u8 30, .int .u8 24, .int .u8 18, .int .u8 12, .int .u8 5, .int .u8 63, .int .u8 55, .int .u8 48, .int .u8 27, .int .u8 60, .int .u8 41, .int .u8 37, .int .u8 16, .int .u8 46, .int .u8 35, .int .u8 44, .int .u8 21, .int .u8 52, .int .u8 32, .int .u8 23, .int .u8 11, .int .u8 54, .int .u8 26, .int .u8 40, .int .u8 15, .int .u8 34, .int .u8 20, .int .u8 31, .int .u8 10, .int .u8 25, .int .u8 14, .int .u8 19, .int .u8 9, .int .u8 13, .int .u8 8, .int .u8 7, .int .u8 6] t frozen
      | o => o
  let h2 := (h1).modify 8 fun
      | .cells _ t frozen => .cells #[.int .u64 1, .int .u64 10, .int .u64 100, .int .u64 1000, .int .u64 10000, .int .u64 100000, .int .u64 1000000, .int .u64 10000000, .int .u64 100000000, .int .u64 1000000000, .int .u64 10000000000, .int .u64 100000000000, .int .u64 1000000000000, .int .u64 10000000000000, .int .u64 100000000000000, .int .u64 1000000000000000, .int .u64 10000000000000000, .int .u64 100000000000000000, .int .u64 1000000000000000000, .int .u64 10000000000000000000] t frozen
      | o => o
  let h3 := (h2).modify 7 fun
      | .cells _ t frozen => .cells #[.iface 101 (.pointer (some ⟨low + 0, 0, none⟩))] t frozen
      | o => o
  let h4 := (h3).modify 6 fun
      | .cells _ t frozen => .cells #[.iface 101 (.pointer (some ⟨low + 1, 0, none⟩))] t frozen
      | o => o
  let h5 := (h4).modify 4 fun
      | .cells _ t frozen => .cells #[.iface 101 (.pointer (some ⟨low + 2, 0, none⟩))] t frozen
      | o => o
  { w0 with heap := h5 }
theorem laid_met (os : Os) : laidMetH Tryd.prog Rows.fnEscapeRow.laid ((laidWorld os).forCall (fun _ _ => 0) ⟨#[], #[.string ByteArray.empty], []⟩).memory :=
  laidMet_of_run' 8 (by kernel_rfl) (by kernel_rfl)
theorem reads (os : Os) {H : Type} (enc : TypeId × Value → H) : ∃ places, DataW.whole enc Tryd.prog ((laidWorld os).forCall (fun _ _ => 0) ⟨#[], #[.string ByteArray.empty], []⟩).memory Tryd.f7.params.toList Rows.fnEscapeSpec.vars false #[(Value.string ByteArray.empty)].toList 8 = some ([.lit (.string [])], [], places) := by
  have h : (DataW.whole enc Tryd.prog ((laidWorld os).forCall (fun _ _ => 0) ⟨#[], #[.string ByteArray.empty], []⟩).memory Tryd.f7.params.toList Rows.fnEscapeSpec.vars false #[(Value.string ByteArray.empty)].toList 8).map (fun x => (x.1, x.2.1)) = some ([.lit (.string [])], []) := by kernel_rfl
  obtain ⟨⟨x, y, z⟩, h1, h2⟩ := Option.map_eq_some_iff.1 h
  obtain ⟨rfl, rfl⟩ := Prod.mk.inj h2
  exact ⟨z, h1⟩

set_option maxRecDepth 100000 in
theorem contract (H : Type) (enc : TypeId × Value → H) (W : World) (base : Nat) (args : Array Value) (ds gs : List (DataW H)) (before : List MemPlace)
    (hval0 : ∀ (j : Nat) t v, Tryd.f7.params[j]? = some t → args[j]? = some v → Value.okWide Tryd.prog W .any base t v)
    (hW : DataW.Whole enc Tryd.prog Tryd.f7.params.toList Rows.fnEscapeSpec.vars false W args.toList ds gs before) (hL : laidMetH Tryd.prog Rows.fnEscapeRow.laid W) :
    Calls Tryd.prog 7 args W fun e W' => ∃ v, e = .returned v ∧ Rows.fnEscapeSpec.post enc Tryd.prog Tryd.f7 false true false false W args v W' := by
  have hval : ∀ (j : Nat) t v, Tryd.f7.params[j]? = some t → args[j]? = some v → Value.okWide Tryd.prog W .any base t v := hval0
  have hW' := hW
  obtain ⟨p, q, hA0, hV, rfl, hfz, hnd⟩ := hW
  have hA : DataW.TrodAll enc Tryd.prog W 0 (fun _ => true) true Tryd.f7.params.toList args.toList ds p := hA0
  rw [Tryd.params7] at hA hval
  obtain ⟨v0, vs0, d0, ds0, p0, q0, hargs, rfl, rfl, h0, r0⟩ := trodAll_cons hA
  obtain ⟨rfl, rfl, rfl⟩ := trodAll_nil r0
  obtain rfl : args = #[v0] := by cases args; simp_all
  obtain rfl : gs = [] := by
    have hl : gs.length = 0 := vars_len hV
    match gs, hl with
    | [], _ => rfl
  have k0 := h0
  have lt0 : ∀ x ∈ p0, x.block < W.heap.size := by obtain ⟨m, hm⟩ := k0; exact DataW.trod_lt m _ _ _ hm
  obtain ⟨a0, rfl, rfl, rfl, w0⟩ := open_string Tryd.underlying9 (hval 0 9 v0 rfl rfl) h0
  clear hA0 hval0
  refine (fnEscape_walk a0 W (fnEscape_tab hL) w0).mono fun e W' ⟨he, bel⟩ => ?_
  subst he
  exact ⟨_, rfl, _, _, _, [], _, _, hW', trodAll_mk1 (shut_bool Tryd.underlying4 _), (trodAll_cons_mk (Below.trod laidOut (by kernel_rfl) (of_decide_eq_true (by kernel_rfl)) k0 bel lt0) trodAll_mk0), Below.trodVars laidOut bel rowed hV, bel.frame _, fun h => by cases h⟩

set_option maxRecDepth 100000 in
theorem lifted (os : Os) (started : os.Started) (H : Type) (enc : TypeId × Value → H) (F : Stop.Interp) :
    ReturnsInHanded {} Tryd.checked os 7 .any ((OpenSpec.ofChange Rows.fnEscapeSpec).preRow enc Tryd.prog Tryd.f7 Rows.fnEscapeRow.domain false Rows.fnEscapeRow.laid) (((OpenSpec.ofChange Rows.fnEscapeSpec).at F).post enc Tryd.prog Tryd.f7 false true false false) := by
  obtain ⟨places, hx⟩ := reads os enc
  refine returnsInHanded_of_row (C := Tryd.checked) (s := OpenSpec.ofChange Rows.fnEscapeSpec) own started (by kernel_rfl) Tryd.func7
    (witness_row_at (enc := enc) (C := Tryd.checked) false (laidWorld os) #[.string ByteArray.empty] rfl (by kernel_rfl) (by kernel_rfl) (by kernel_rfl)
      (OpenSpec.preRow_of_cond 8 hx (by kernel_rfl) (fun k hk => by cases hk) (by kernel_rfl) (laid_met os))) ?_
  intro W base args ds gs before hval hW _ _ _ hL _ _
  exact contract H enc W base args ds gs before hval hW hL

theorem said : Rows.FnEscapeSaid :=
  OpenClaim.holds_of_cond 7 Tryd.f7 rfl rfl rfl rfl rfl rfl rfl ⟨rfl, rfl, rfl, rfl, rfl⟩ rfl rfl rfl rfl rfl (by kernel_rfl) Tryd.func7 (by kernel_rfl)
    (of_decide_eq_true (by kernel_rfl)) (by unfold Func.isWrapper; first | (rw [if_pos (by decide +kernel)]; kernel_rfl) | (rw [if_neg (by decide +kernel)]; exact ⟨rfl, rfl⟩))
    (fun os started H enc _ F => by rw [OpenClaim.pre_eq_preRow]; exact lifted os started H enc F)

theorem plain (f : FuncId) (fn : Func) (hf : Tryd.pinned.checked.prog.funcNamed "given.example/pub-foolscap/laws.FnEscape" = some f) (hfn : Tryd.pinned.checked.prog.funcs[f]? = some fn) :
    true = Tryd.pinned.checked.prog.looks [] ∧ ∀ (j : Nat) t, fn.params[j]? = some t → Tryd.pinned.checked.prog.wantsStandIn t = false := by
  obtain rfl : f = 7 := Option.some.inj ((show Tryd.prog.funcNamed "given.example/pub-foolscap/laws.FnEscape" = some 7 by kernel_rfl).symm.trans hf) |>.symm
  obtain rfl : fn = Tryd.f7 := (Option.some.inj (Tryd.func7.symm.trans hfn)).symm
  refine ⟨by kernel_rfl, fun j t ht => ?_⟩
  rw [Tryd.params7] at ht
  have hm := Array.mem_of_getElem? ht
  obtain rfl : t = 9 := by simpa using hm
  exact (show Tryd.prog.wantsStandIn 9 = false by kernel_rfl)

theorem proved : Rows.FnEscapeCardSaid :=
  Claim7.holds_tied_plain_at .later [] _ _ _ _ said (fun _ h => by cases h) (by kernel_rfl) (fun _ h => by cases h) fnEscape_row_tie rfl ⟨rfl, rfl⟩ (by kernel_rfl) rfl plain (by kernel_rfl)
#print axioms proved
end Go.Proofs.YtcohlcijgfdanaaDoor.fnEscape
