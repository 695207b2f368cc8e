/-
  FnLiteralText: the law returns true for every input, and each argument and each listed variable reads as before. The row over what it lists, then the card.
-/
import Derived.Test.YtcohlcijgfdanaaDoorLtl
import Derived.Test.YtcohlcijgfdanaaDoorOpen
import Derived.Test.YtcohlcijgfdanaaDoorCards
import Derived.Test.YtcohlcijgfdanaaDoorTie
import Derived.WalkKit
import Derived.ProofKit
import Derived.LaidMore
import Derived.Stop.Joined
import Derived.OpenShut
import Derived.ShutString
import Derived.ChangeOld
import Derived.Below
import Derived.OpenVars
import Derived.Lib.SmallJoins
import Derived.Deep.DeepHandedRow
import Derived.Deep.DeepWitnessRowRef
import Derived.Lib.LaidTab
import Derived.Lay
namespace Go.Proofs.YtcohlcijgfdanaaDoor.fnLiteralText
open Go.ChangeShapes Go.WideShapes Go.ChangeAt Go.RowKit Go.Joins
open Go.ChangeMaps (open_string shut_string)
set_option linter.unusedVariables false

theorem own : ownKnob Tryd.prog.godebug = none := by kernel_rfl
theorem laidOut : laidOutB Tryd.prog = true := by kernel_rfl
theorem rowed : varsRowed Tryd.prog Rows.fnLiteralTextSpec.vars = true := by kernel_rfl

theorem vars_len {H : Type} {enc : TypeId × Value → H} {P : Program} {w : World} {sp : Nat → Bool} : ∀ {ns : List String} {gs : List (DataW H)} {ps : List MemPlace}, DataW.TrodVars enc P w sp ns gs ps → gs.length = ns.length
  | [], [], _, _ => rfl
  | [], _ :: _, _, h => h.elim
  | _ :: _, [], _, h => h.elim
  | _ :: _, _ :: _, _, h => by
    obtain ⟨_, _, _, _, _, _, _, _, _, _, hs, _⟩ := h
    simp [vars_len hs]

/-- So many blocks has the settled world. -/
noncomputable def low : Nat := (World.holding Tryd.prog default ⟨#[], #[], []⟩).heap.size
/-- The settled world, in which the variables that are maps hold theirs. -/
noncomputable def mapWorld (os : Os) : World :=
  let w := World.holding Tryd.prog os ⟨#[], #[], []⟩
  { w with heap := ⟨Lay.setRows w.heap.toList [(5, [.map (some (low + 0))])] ++ [Obj.map #[⟨.int .u8 24, .int .i32 728, 0⟩, ⟨.int .u8 25, .int .i32 711, 1⟩, ⟨.int .u8 26, .int .i32 710, 2⟩, ⟨.int .u8 27, .int .i32 729, 3⟩, ⟨.int .u8 28, .int .i32 733, 4⟩, ⟨.int .u8 29, .int .i32 731, 5⟩, ⟨.int .u8 30, .int .i32 730, 6⟩, ⟨.int .u8 31, .int .i32 732, 7⟩, ⟨.int .u8 128, .int .i32 8226, 8⟩, ⟨.int .u8 129, .int .i32 8224, 9⟩, ⟨.int .u8 130, .int .i32 8225, 10⟩, ⟨.int .u8 131, .int .i32 8230, 11⟩, ⟨.int .u8 132, .int .i32 8212, 12⟩, ⟨.int .u8 133, .int .i32 8211, 13⟩, ⟨.int .u8 134, .int .i32 402, 14⟩, ⟨.int .u8 135, .int .i32 8260, 15⟩, ⟨.int .u8 136, .int .i32 8249, 16⟩, ⟨.int .u8 137, .int .i32 8250, 17⟩, ⟨.int .u8 138, .int .i32 8722, 18⟩, ⟨.int .u8 139, .int .i32 8240, 19⟩, ⟨.int .u8 140, .int .i32 8222, 20⟩, ⟨.int .u8 141, .int .i32 8220, 21⟩, ⟨.int .u8 142, .int .i32 8221, 22⟩, ⟨.int .u8 143, .int .i32 8216, 23⟩, ⟨.int .u8 144, .int .i32 8217, 24⟩, ⟨.int .u8 145, .int .i32 8218, 25⟩, ⟨.int .u8 146, .int .i32 8482, 26⟩, ⟨.int .u8 147, .int .i32 64257, 27⟩, ⟨.int .u8 148, .int .i32 64258, 28⟩, ⟨.int .u8 149, .int .i32 321, 29⟩, ⟨.int .u8 150, .int .i32 338, 30⟩, ⟨.int .u8 151, .int .i32 352, 31⟩, ⟨.int .u8 152, .int .i32 376, 32⟩, ⟨.int .u8 153, .int .i32 381, 33⟩, ⟨.int .u8 154, .int .i32 305, 34⟩, ⟨.int .u8 155, .int .i32 322, 35⟩, ⟨.int .u8 156, .int .i32 339, 36⟩, ⟨.int .u8 157, .int .i32 353, 37⟩, ⟨.int .u8 158, .int .i32 382, 38⟩, ⟨.int .u8 160, .int .i32 8364, 39⟩] 40]⟩ }
/-- The names that the function lays. -/
def greatNames : List String := ["math/bits.deBruijn32tab", "math/bits.deBruijn64tab", "internal/strconv.uint64pow10", "unicode/utf8.acceptRanges", "strconv.ErrRange", "strconv.ErrSyntax", "bytes.ErrTooLarge", "given.example/pub-foolscap/pub/pdfcpu/pkg/pdfcpu/types.ErrInvalidUTF16BE", "unicode/utf8.first"]
/-- A world for the witness: each listed variable holding what its initialiser lays. -/
noncomputable def laidWorld (os : Os) : World := (mapWorld os).layVars Tryd.prog (Rows.fnLiteralTextRow.laid.filter fun x => greatNames.contains x.1)
theorem laidWorld_os (os : Os) : (laidWorld os).os = os := World.layVars_os _ _ _
theorem witness_zip {H : Type} {enc : TypeId × Value → H} {C : Checked} {os : Os} {f : FuncId} {fn : Func} {s : OpenSpec} {conds : List PathCond} {apart : Bool} {laid : List (String × DataW Unit)} (modest : Bool) (w0 : World) (args : Array Value) (hos : w0.os = os)
    (hs : (w0.forCall (fun _ _ => 0) ⟨#[], args, []⟩).Shaped C.prog) (hok : Input.okWideB C.prog (w0.forCall (fun _ _ => 0) ⟨#[], args, []⟩) f ⟨#[], args, []⟩ = true)
    (hrow : s.preRow enc C.prog fn conds apart laid (w0.forCall (fun _ _ => 0) ⟨#[], args, []⟩).memory args) :
    ∃ (w : World) (tape : Tape) (i : Input), w.os = os ∧ (w.forCall tape i).Shaped C.prog ∧ i.vars = [] ∧ Input.okWide C.prog (w.forCall tape i) .any w.heap.size f i ∧
      s.preRow enc C.prog fn conds apart laid (w.forCall tape i).memory i.args ∧ ({ modest := modest } : Assume).holds C.prog (lone (Frame.enter C.prog f i.args .normal) [] (w.forCall tape i)) :=
  ⟨w0, fun _ _ => 0, ⟨#[], args, []⟩, hos, hs, (Input.okWide_of_okWideB (base := 0) hok).1, (Input.okWide_of_okWideB hok).2, hrow, by
    simp only [Assume.holds]
    exact ⟨by simp, by simp, fun _ => Modest.zero, by simp, by simp⟩⟩
theorem laid_met (os : Os) : laidMetH Tryd.prog Rows.fnLiteralTextRow.laid ((laidWorld os).forCall (fun _ _ => 0) ⟨#[], #[.string ByteArray.empty], []⟩).memory := by
  rw [MakeChecks.laidMetH_plain _ _ _ (by kernel_rfl)]
  refine laidMet_layVars (w0 := mapWorld os) greatNames [5, low + 0] (by kernel_rfl) (by kernel_rfl) (by kernel_rfl) ?_
  show LaidIn _ _ [("given.example/pub-foolscap/pub/pdfcpu/pkg/pdfcpu/types.pdfDocEncoding", Rows.laid_given_example_pub_foolscap_pub_pdfcpu_pkg_pdfcpu_types_pdfDocEncoding)] _
  exact LaidIn.of_run _ 8 (by kernel_rfl) (by kernel_rfl) (by kernel_rfl) (by kernel_rfl)
theorem reads (os : Os) {H : Type} (enc : TypeId × Value → H) : ∃ gs places, DataW.whole enc Tryd.prog ((laidWorld os).forCall (fun _ _ => 0) ⟨#[], #[.string ByteArray.empty], []⟩).memory Tryd.f8.params.toList Rows.fnLiteralTextSpec.vars false #[(Value.string ByteArray.empty)].toList 8 = some ([.lit (.string [])], gs, places) := by
  have h : (DataW.whole enc Tryd.prog ((laidWorld os).forCall (fun _ _ => 0) ⟨#[], #[.string ByteArray.empty], []⟩).memory Tryd.f8.params.toList Rows.fnLiteralTextSpec.vars false #[(Value.string ByteArray.empty)].toList 8).map (fun x => x.1) = some [.lit (.string [])] := by kernel_rfl
  obtain ⟨⟨x, y, z⟩, h1, h2⟩ := Option.map_eq_some_iff.1 h
  dsimp only at h2
  subst h2
  exact ⟨y, z, h1⟩

set_option maxRecDepth 100000 in
theorem contract (H : Type) (enc : TypeId × Value → H) (W : World) (base : Nat) (args : Array Value) (ds gs : List (DataW H)) (before : List MemPlace)
    (hval0 : ∀ (j : Nat) t v, Tryd.f8.params[j]? = some t → args[j]? = some v → Value.okWide Tryd.prog W .any base t v)
    (hW : DataW.Whole enc Tryd.prog Tryd.f8.params.toList Rows.fnLiteralTextSpec.vars false W args.toList ds gs before) (hL : laidMetH Tryd.prog Rows.fnLiteralTextRow.laid W) :
    Calls Tryd.prog 8 args W fun e W' => ∃ v, e = .returned v ∧ Rows.fnLiteralTextSpec.post enc Tryd.prog Tryd.f8 false true false false W args v W' := by
  have hval : ∀ (j : Nat) t v, Tryd.f8.params[j]? = some t → args[j]? = some v → Value.okWide Tryd.prog W .any base t v := hval0
  have hW' := hW
  obtain ⟨p, q, hA0, hV, rfl, hfz, hnd⟩ := hW
  have hA : DataW.TrodAll enc Tryd.prog W 0 (fun _ => true) true Tryd.f8.params.toList args.toList ds p := hA0
  rw [Tryd.params8] at hA hval
  obtain ⟨v0, vs0, d0, ds0, p0, q0, hargs, rfl, rfl, h0, r0⟩ := trodAll_cons hA
  obtain ⟨rfl, rfl, rfl⟩ := trodAll_nil r0
  obtain rfl : args = #[v0] := by cases args; simp_all
  obtain ⟨g0, g1, rfl⟩ : ∃ g0 g1, gs = [g0, g1] := by
    have hl : gs.length = 2 := vars_len hV
    match gs, hl with
    | [g0, g1], _ => exact ⟨_, _, rfl⟩
  have k0 := h0
  have lt0 : ∀ x ∈ p0, x.block < W.heap.size := by obtain ⟨m, hm⟩ := k0; exact DataW.trod_lt m _ _ _ hm
  obtain ⟨a0, rfl, rfl, rfl, w0⟩ := open_string Tryd.underlying9 (hval 0 9 v0 rfl rfl) h0
  clear hA0 hval0
  refine (fnLiteralText_walk a0 W (fnLiteralText_tab hL) w0).mono fun e W' ⟨he, bel⟩ => ?_
  subst he
  exact ⟨_, rfl, _, _, _, [], _, _, hW', trodAll_mk1 (shut_bool Tryd.underlying4 _), (trodAll_cons_mk (Below.trod laidOut (by kernel_rfl) (of_decide_eq_true (by kernel_rfl)) k0 bel lt0) trodAll_mk0), Below.trodVars laidOut bel rowed hV, bel.frame _, fun h => by cases h⟩

set_option maxRecDepth 100000 in
theorem lifted (os : Os) (started : os.Started) (H : Type) (enc : TypeId × Value → H) (F : Stop.Interp) :
    ReturnsInHanded {} Tryd.checked os 8 .any ((OpenSpec.ofChange Rows.fnLiteralTextSpec).preRow enc Tryd.prog Tryd.f8 Rows.fnLiteralTextRow.domain false Rows.fnLiteralTextRow.laid) (((OpenSpec.ofChange Rows.fnLiteralTextSpec).at F).post enc Tryd.prog Tryd.f8 false true false false) := by
  obtain ⟨gs, places, hx⟩ := reads os enc
  refine returnsInHanded_of_row (C := Tryd.checked) (s := OpenSpec.ofChange Rows.fnLiteralTextSpec) own started (by kernel_rfl) Tryd.func8
    (witness_zip (enc := enc) (C := Tryd.checked) false (laidWorld os) #[.string ByteArray.empty] (laidWorld_os _) (World.shaped_of_ZipB (by kernel_rfl) (by kernel_rfl)) (by kernel_rfl)
      (OpenSpec.preRow_of_cond 8 hx (by kernel_rfl) (fun k hk => by cases hk) (by kernel_rfl) (laid_met os))) ?_
  intro W base args ds gs before hval hW _ _ _ hL _ _
  exact contract H enc W base args ds gs before hval hW hL

theorem said : Rows.FnLiteralTextSaid :=
  OpenClaim.holds_of_cond 8 Tryd.f8 rfl rfl rfl rfl rfl rfl rfl ⟨rfl, rfl, rfl, rfl, rfl⟩ rfl rfl rfl rfl rfl (by kernel_rfl) Tryd.func8 (by kernel_rfl)
    (of_decide_eq_true (by kernel_rfl)) (by unfold Func.isWrapper; first | (rw [if_pos (by decide +kernel)]; kernel_rfl) | (rw [if_neg (by decide +kernel)]; exact ⟨rfl, rfl⟩))
    (fun os started H enc _ F => by rw [OpenClaim.pre_eq_preRow]; exact lifted os started H enc F)

theorem plain (f : FuncId) (fn : Func) (hf : Tryd.pinned.checked.prog.funcNamed "given.example/pub-foolscap/laws.FnLiteralText" = some f) (hfn : Tryd.pinned.checked.prog.funcs[f]? = some fn) :
    true = Tryd.pinned.checked.prog.looks [] ∧ ∀ (j : Nat) t, fn.params[j]? = some t → Tryd.pinned.checked.prog.wantsStandIn t = false := by
  obtain rfl : f = 8 := Option.some.inj ((show Tryd.prog.funcNamed "given.example/pub-foolscap/laws.FnLiteralText" = some 8 by kernel_rfl).symm.trans hf) |>.symm
  obtain rfl : fn = Tryd.f8 := (Option.some.inj (Tryd.func8.symm.trans hfn)).symm
  refine ⟨by kernel_rfl, fun j t ht => ?_⟩
  rw [Tryd.params8] at ht
  have hm := Array.mem_of_getElem? ht
  obtain rfl : t = 9 := by simpa using hm
  exact (show Tryd.prog.wantsStandIn 9 = false by kernel_rfl)

theorem proved : Rows.FnLiteralTextCardSaid :=
  Claim7.holds_tied_plain_at .later [] _ _ _ _ said (fun _ h => by cases h) (by kernel_rfl) (fun _ h => by cases h) fnLiteralText_row_tie rfl ⟨rfl, rfl⟩ (by kernel_rfl) rfl plain (by kernel_rfl)
#print axioms proved
end Go.Proofs.YtcohlcijgfdanaaDoor.fnLiteralText
