/-
  THE LAW FnCompiled ANSWERS true FOR EVERY TEXT AND EVERY BYTE, AND BOTH ARGUMENTS READ BEHIND THE CALL AS THEY READ BEFORE.
  CONDITIONS: the row's own: the five package variables that it lists read as their initialisers lay them (io.EOF, strings.asciiSpace, unicode.White_Space, utf8.first, utf8.acceptRanges); the form's limits on what comes in. No condition of this text's own.
-/
import Derived.Test.YtfakghnpkdoclaaDoorCards
import Derived.Test.YtfakghnpkdoclaaDoorTie
import Derived.Test.YtfakghnpkdoclaaDoorLawC
import Derived.WalkKit
import Derived.ProofKit
import Derived.OpenShut
import Derived.ChangeMaps5
import Derived.LaidLaws
import Derived.Stop.LaidErr
import Derived.Deep.DeepHandedRow
import Derived.Deep.DeepWitnessRowRef
import Derived.Lib.LaidTab
import Derived.Lib.LaidU8
set_option linter.unusedVariables false
set_option linter.unusedSimpArgs false
namespace Go.Proofs.YtfakghnpkdoclaaDoor.fnCompiled
open Go.ChangeShapes Go.WideShapes Go.ChangeAt Go.RowKit Go.ChangeMaps

theorem own : ownKnob Tryd.prog.godebug = none := by kernel_rfl
theorem gEof : Tryd.prog.globalNamed "io.EOF" = some 0 := by kernel_rfl
theorem gEofType : (Tryd.prog.globals[(0 : Nat)]?).map (·.type) = some 45 := by kernel_rfl
theorem gSp : Tryd.prog.globalNamed "strings.asciiSpace" = some 1 := by kernel_rfl
theorem gSpType : (Tryd.prog.globals[(1 : Nat)]?).map (·.type) = some 111 := by kernel_rfl
theorem cellsTab : Tryd.prog.cellsOf 111 = 256 := by kernel_rfl
theorem cells5 : Tryd.prog.cellsOf 5 = 1 := by kernel_rfl
theorem cells9 : Tryd.prog.cellsOf 9 = 1 := by kernel_rfl
theorem cellsErr : Tryd.prog.cellsOf 157 = 1 := by kernel_rfl
theorem star : "*" ++ "errors.errorString" = "*errors.errorString" := by decide
theorem rowErr (u : TypeId) (h : Tryd.prog.typeName? 3 u = some "*errors.errorString") : u = 140 :=
  typeName_ptr_named (nm := "errors.errorString") (by rw [star]; kernel_rfl) (by kernel_rfl) (by decide) u (by rw [star]; exact h)

set_option maxRecDepth 100000 in
/-- what the row's list gives -/
theorem holds {W : World} (h : laidMetH Tryd.prog Rows.fnCompiledRow.laid W) : ∃ eb, Gl W.heap.size eb W := by
  have h' : laidMet Tryd.prog [("unicode/utf8.acceptRanges", Rows.laid_unicode_utf8_acceptRanges), ("io.EOF", Rows.laid_io_EOF), ("unicode.White_Space", Rows.laid_unicode_White_Space), ("strings.asciiSpace", Rows.laid_strings_asciiSpace), ("unicode/utf8.first", Rows.laid_unicode_utf8_first)] W := h
  have h1 := laidMet.tail h'
  have h3 := laidMet.tail (laidMet.tail h1)
  obtain ⟨a, s, hv, -, -, -⟩ := laid_sentinel (P := Tryd.prog) h1 gEof gEofType Tryd.underlying45 rowErr Tryd.underlying140 Tryd.underlying157 rfl rfl Tryd.underlying9 cellsErr cells9
  have sp : Lib.TabIs Tryd.prog W "strings.asciiSpace" .u8 Lib.asciiSpaceTab := Lib.tabIs_of_head (P := Tryd.prog) (zs := Lib.asciiSpaceTab) gSp gSpType Tryd.underlying111 Tryd.underlying5 cells5 cellsTab h3
  exact ⟨a, W, rfl, ⟨by simpa using World.var?_cell gEof hv 0, sp⟩, Below.refl _ _⟩

set_option maxRecDepth 100000 in
theorem contract (H : Type) (enc : TypeId × Value → H) (W : World) (base : Nat) (args : Array Value) (ds gs : List (DataW H)) (before : List MemPlace)
    (hval : ∀ (j : Nat) t v, Tryd.f3.params[j]? = some t → args[j]? = some v → Value.okWide Tryd.prog W .any base t v)
    (hW : DataW.Whole enc Tryd.prog Tryd.f3.params.toList Rows.fnCompiledSpec.vars false W args.toList ds gs before) (hL : laidMetH Tryd.prog Rows.fnCompiledRow.laid W) :
    Calls Tryd.prog 3 args W fun e W' => ∃ v, e = .returned v ∧ Rows.fnCompiledSpec.post enc Tryd.prog Tryd.f3 false true false false W args v W' := by
  have hW' := hW
  obtain ⟨p, q, hA0, hV, rfl, hfz, hnd⟩ := hW
  have hA : DataW.TrodAll enc Tryd.prog W 0 (fun _ => true) true Tryd.f3.params.toList args.toList ds p := hA0
  rw [Tryd.params3] at hA hval
  obtain ⟨v0, v1, d0, d1, p0, p1, rfl, rfl, rfl, h0, h1⟩ := trodAll_two hA
  obtain ⟨rfl, rfl⟩ := trodVars_none hV
  obtain ⟨s, rfl, rfl, rfl, hsz⟩ := open_string Tryd.underlying9 (hval 0 9 v0 rfl rfl) h0
  obtain ⟨n, rfl, rfl, rfl, hw⟩ := open_int Tryd.underlying5 (hval 1 5 v1 rfl rfl) h1
  clear hA0
  simp only [List.append_nil] at hW'
  obtain ⟨eb, hg⟩ := holds hL
  obtain ⟨k, rfl, hk⟩ : ∃ k : Nat, n = k ∧ k < 256 := by
    simp [Lit.wf, IntKind.min, IntKind.max, IntKind.signed, IntKind.bits] at hw
    exact ⟨n.toNat, by omega, by omega⟩
  refine (law_FnCompiled W.heap.size eb s k W hk hg).mono ?_
  rintro e W' ⟨rfl, hf⟩
  have bel : Below W.heap.size W W' := F0.below hf
  refine ⟨_, rfl, _, _, _, [], [], [], hW', ?_, ?_, ?_, bel.frame _, fun h => by cases h⟩
  · exact trodAll_mk1 (shut_bool Tryd.underlying4 _)
  · exact trodAll_mk2 (shut_string Tryd.underlying9 hsz) (shut_int Tryd.underlying5 hw)
  · exact rfl

/-- a world for the witness -/
noncomputable def laidWorld (os : Os) : World :=
  let N := (World.settled Tryd.prog os).heap.size
  let w0 := World.holding Tryd.prog os ⟨#[.cells (Lib.whiteT.map fun (z : Nat) => Value.int .u16 (z : Int)).toArray 129, .cells #[.slice (some ⟨N, 0, none⟩) 7 7, .slice none 0 0, .int .i64 2] 126,
    .cells #[.string ⟨#[69, 79, 70]⟩] 157], #[], []⟩
  let put (h : Array Obj) (g : Nat) (cs : Array Value) : Array Obj := h.modify g fun
    | .cells _ t frozen => .cells cs t frozen
    | o => o
  let h1 := put w0.heap 1 (Lib.asciiSpaceTab.map fun z => Value.int .u8 z).toArray
  let h2 := put h1 3 (Lib.firstTab.map fun z => Value.int .u8 z).toArray
  let h3 := put h2 4 ((List.range 16).flatMap fun i => [Value.int .u8 (Lib.accLo i), Value.int .u8 (Lib.accHi i)]).toArray
  let h4 := put h3 2 #[.pointer (some ⟨N + 1, 0, none⟩)]
  let h5 := put h4 0 #[.iface 140 (.pointer (some ⟨N + 2, 0, none⟩))]
  { w0 with heap := h5 }
theorem laid_met (os : Os) (args : Array Value) : laidMet Tryd.prog Rows.fnCompiledRow.laid ((laidWorld os).forCall (fun _ _ => 0) ⟨#[], args, []⟩).memory :=
  laidMet_of_run' 10 (by kernel_rfl) (by kernel_rfl)
theorem reads (os : Os) {H : Type} (enc : TypeId × Value → H) : ∃ places, DataW.whole enc Tryd.prog ((laidWorld os).forCall (fun _ _ => 0) ⟨#[], #[.string ⟨#[]⟩, .int .u8 0], []⟩).memory Tryd.f3.params.toList Rows.fnCompiledSpec.vars false #[Value.string ⟨#[]⟩, Value.int .u8 0].toList 8 = some ([.lit (.string []), .lit (.int .u8 0)], [], places) :=
  ⟨[], by kernel_rfl⟩

set_option maxRecDepth 100000 in
theorem lifted (os : Os) (started : os.Started) (H : Type) (enc : TypeId × Value → H) (F : Stop.Interp) :
    ReturnsInHanded {} Tryd.checked os 3 .any ((OpenSpec.ofChange Rows.fnCompiledSpec).preRow enc Tryd.prog Tryd.f3 Rows.fnCompiledRow.domain false Rows.fnCompiledRow.laid) (((OpenSpec.ofChange Rows.fnCompiledSpec).at F).post enc Tryd.prog Tryd.f3 false true false false) := by
  obtain ⟨places, hx⟩ := reads os enc
  refine returnsInHanded_of_row (C := Tryd.checked) (s := OpenSpec.ofChange Rows.fnCompiledSpec) own started (by kernel_rfl) Tryd.func3
    (witness_row_atRef (enc := enc) (C := Tryd.checked) false (laidWorld os) #[.string ⟨#[]⟩, .int .u8 0] rfl (by kernel_rfl) (by kernel_rfl) (by kernel_rfl)
      (OpenSpec.preRow_of_cond 8 hx (by kernel_rfl) (fun k hk => by cases hk) (by kernel_rfl) (laid_met os _))) ?_
  intro W base args ds gs before hval hW _ _ _ hL _ _
  exact contract H enc W base args ds gs before hval hW hL

theorem said : Rows.FnCompiledSaid :=
  OpenClaim.holds_of_cond 3 Tryd.f3 rfl rfl rfl rfl rfl rfl rfl ⟨rfl, rfl, rfl, rfl, rfl⟩ rfl rfl rfl rfl rfl (by kernel_rfl) Tryd.func3 (by kernel_rfl)
    (of_decide_eq_true (by kernel_rfl)) (by unfold Func.isWrapper; first | (rw [if_pos (by decide +kernel)]; kernel_rfl) | (rw [if_neg (by decide +kernel)]; exact ⟨rfl, rfl⟩))
    (fun os started H enc _ F => by rw [OpenClaim.pre_eq_preRow]; exact lifted os started H enc F)

theorem plain (f : FuncId) (fn : Func) (hf : Tryd.pinned.checked.prog.funcNamed "loop.example/pub-g03152/laws.FnCompiled" = some f) (hfn : Tryd.pinned.checked.prog.funcs[f]? = some fn) :
    true = Tryd.pinned.checked.prog.looks [] ∧ ∀ (j : Nat) t, fn.params[j]? = some t → Tryd.pinned.checked.prog.wantsStandIn t = false := by
  obtain rfl : f = 3 := Option.some.inj ((show Tryd.prog.funcNamed "loop.example/pub-g03152/laws.FnCompiled" = some 3 by kernel_rfl).symm.trans hf) |>.symm
  obtain rfl : fn = Tryd.f3 := (Option.some.inj (Tryd.func3.symm.trans hfn)).symm
  refine ⟨by kernel_rfl, fun j t ht => ?_⟩
  rw [Tryd.params3] at ht
  have hm := Array.mem_of_getElem? ht
  have h : t = 9 ∨ t = 5 := by simpa using hm
  rcases h with rfl | rfl
  · exact (show Tryd.prog.wantsStandIn 9 = false by kernel_rfl)
  · exact (show Tryd.prog.wantsStandIn 5 = false by kernel_rfl)

theorem card : Rows.FnCompiledCardSaid :=
  Claim7.holds_tied_plain_at .later [] _ _ _ _ said (fun _ h => by cases h) (by kernel_rfl) (fun _ h => by cases h) fnCompiled_row_tie rfl ⟨rfl, rfl⟩ (by kernel_rfl) rfl plain (by kernel_rfl)
end Go.Proofs.YtfakghnpkdoclaaDoor.fnCompiled
