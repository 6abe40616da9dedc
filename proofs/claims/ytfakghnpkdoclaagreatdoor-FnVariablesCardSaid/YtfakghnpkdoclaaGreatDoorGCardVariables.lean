/-
  THE LAW FnVariables ANSWERS true FOR EVERY TEXT AND CONTEXT, AND ALL ARGUMENTS READ BEHIND THE CALL AS THEY READ BEFORE.
  CONDITIONS: the row's own: the package variables that it lists read as their initialisers lay them; the form's limits on what comes in. No condition of this text's own.
-/
import Derived.Test.YtfakghnpkdoclaaGreatDoorGZ1
import Derived.Test.YtfakghnpkdoclaaGreatDoorGLVariables
set_option linter.unusedVariables false
set_option linter.unusedSimpArgs false
set_option maxRecDepth 1000000
set_option maxHeartbeats 8000000
namespace Go.Proofs.YtfakghnpkdoclaaGreatDoor.fnVariables
open Go.ChangeShapes Go.WideShapes Go.ChangeAt Go.RowKit Go.ChangeMaps
theorem contract (H : Type) (enc : TypeId × Value → H) (W : World) (base : Nat) (args : Array Value) (ds gs : List (DataW H)) (before : List MemPlace)
 (hval : ∀ (j : Nat) t v, Tryz.f10.params[j]? = some t → args[j]? = some v → Value.okWide Tryz.prog W .any base t v)
 (hW : DataW.Whole enc Tryz.prog Tryz.f10.params.toList Rows.fnVariablesSpec.vars false W args.toList ds gs before) (hL : laidMetH Tryz.prog Rows.fnVariablesRow.laid W) :
 Calls Tryz.prog 10 args W fun e W' => ∃ v, e = .returned v ∧ Rows.fnVariablesSpec.post enc Tryz.prog Tryz.f10 false true false false W args v W' := by
 have hW' := hW
 obtain ⟨p, q, hA0, hV, rfl, hfz, hnd⟩ := hW
 have hA : DataW.TrodAll enc Tryz.prog W 0 (fun _ => true) true Tryz.f10.params.toList args.toList ds p := hA0
 rw [Tryz.params10] at hA hval
 obtain ⟨v0, v1, d0, d1, p0, p1, rfl, rfl, rfl, h0, h1⟩ := trodAll_two hA
 obtain ⟨rfl, rfl⟩ := trodVars_none hV
 obtain ⟨s0, rfl, rfl, rfl, hz0⟩ := open_string Tryz.underlying9 (hval 0 9 v0 rfl rfl) h0
 obtain ⟨x1, hd1, hr1⟩ := open_ctx (hval 1 25 v1 rfl rfl) h1
 clear hA0
 simp only [List.append_nil, List.nil_append] at hW'
 have hlt : ∀ y ∈ (p1), y.block < W.heap.size := fun y hy => hW'.lt y hy
 obtain ⟨eb, hgf, hgt⟩ := glob_holds hL
 refine (law_FnVariables (B := W.heap.size) (eb := eb) ⟨⟨W, rfl, hgf, hgt, ps_nil W, Below.refl _ _⟩, ⟨_, hd1, fun k hk => hk⟩, hr1⟩).mono ?_
 rintro e W' ⟨rfl, hf⟩
 have bel : Below W.heap.size W W' := F0.below hf
 refine ⟨_, rfl, _, _, _, [], ([] ++ p1), [], hW', ?_, ?_, ?_, bel.frame _, fun h => by cases h⟩
 · exact trodAll_mk1 (shut_bool Tryz.underlying4 _)
 · exact trodAll_mk2 (shut_string Tryz.underlying9 hz0) (Below.trod laidOut (by kernel_rfl) (of_decide_eq_true (by kernel_rfl)) h1 bel (fun y hy => hlt y (by simp [hy])))
 · exact rfl
theorem reads (W : World) {H : Type} (enc : TypeId × Value → H) : ∃ places, DataW.whole enc Tryz.prog W Tryz.f10.params.toList Rows.fnVariablesSpec.vars false (#[.string ⟨#[]⟩, .agg #[.int .i64 0, .string ⟨#[]⟩, .int .i64 0, .bool false, .slice none 0 0, .slice none 0 0]] : Array Value).toList 8 = some ([.lit (.string []), .agg [.lit (.int .i64 0), .lit (.string []), .lit (.int .i64 0), .lit (.bool false), .nil, .nil]], [], places) :=
 ⟨[], by kernel_rfl⟩
theorem lifted (os : Os) (started : os.Started) (H : Type) (enc : TypeId × Value → H) (F : Stop.Interp) :
 ReturnsInHanded {} Tryz.checked os 10 .any ((OpenSpec.ofChange Rows.fnVariablesSpec).preRow enc Tryz.prog Tryz.f10 Rows.fnVariablesRow.domain false Rows.fnVariablesRow.laid) (((OpenSpec.ofChange Rows.fnVariablesSpec).at F).post enc Tryz.prog Tryz.f10 false true false false) := by
 obtain ⟨places, hx⟩ := reads ((laidWorld os).forCall (fun _ _ => 0) ⟨#[], #[.string ⟨#[]⟩, .agg #[.int .i64 0, .string ⟨#[]⟩, .int .i64 0, .bool false, .slice none 0 0, .slice none 0 0]], []⟩).memory enc
 refine returnsInHanded_of_row (C := Tryz.checked) (s := OpenSpec.ofChange Rows.fnVariablesSpec) own started (by kernel_rfl) Tryz.func10
  (witness_row_atRef (enc := enc) (C := Tryz.checked) false (laidWorld os) #[.string ⟨#[]⟩, .agg #[.int .i64 0, .string ⟨#[]⟩, .int .i64 0, .bool false, .slice none 0 0, .slice none 0 0]] (World.laidAll_os _ _ _) (by kernel_rfl) (by kernel_rfl) (by kernel_rfl)
    (OpenSpec.preRow_of_cond 8 hx (by kernel_rfl) (fun k hk => by cases hk) (by kernel_rfl) (laid_met os _))) ?_
 intro W base args ds gs before hval hW _ _ _ hL _ _
 exact contract H enc W base args ds gs before hval hW hL
theorem closed : joinedFacts Tryz.prog 10 Tryz.f10 (OpenSpec.ofChange Rows.fnVariablesSpec).bare Rows.fnVariablesRow = true := by
 unfold joinedFacts
 repeat' (with_reducible refine and_mk ?_ ?_)
 all_goals (as_aux_lemma => kernel_rfl)
theorem wrap : (Tryz.f10).isWrapper Tryz.prog Rows.fnVariablesRow.wrapper Rows.fnVariablesRow.mainSum := by
 unfold Func.isWrapper
 first | (rw [if_pos (by decide +kernel)]; kernel_rfl) | (rw [if_neg (by decide +kernel)]; exact ⟨rfl, rfl⟩)
theorem inst : (Tryz.f10).isInstance Tryz.prog Rows.fnVariablesRow.origin Rows.fnVariablesRow.targs := of_decide_eq_true (by kernel_rfl)
theorem named : Tryz.prog.funcNamed Rows.fnVariablesRow.func = some 10 := by kernel_rfl
theorem said : Rows.FnVariablesSaid :=
 OpenClaim.holds_of_cond 10 Tryz.f10 rfl rfl rfl rfl rfl rfl rfl ⟨rfl, rfl, rfl, rfl, rfl⟩ rfl rfl rfl rfl rfl named Tryz.func10 closed inst wrap
  (fun os started H enc _ F => by rw [OpenClaim.pre_eq_preRow]; exact lifted os started H enc F)
theorem plain (f : FuncId) (fn : Func) (hf : Tryz.pinned.checked.prog.funcNamed "loop.example/pub-g03152/laws.FnVariables" = some f) (hfn : Tryz.pinned.checked.prog.funcs[f]? = some fn) :
 true = Tryz.pinned.checked.prog.looks [] ∧ ∀ (j : Nat) t, fn.params[j]? = some t → Tryz.pinned.checked.prog.wantsStandIn t = false := by
 obtain rfl : f = 10 := Option.some.inj ((show Tryz.prog.funcNamed "loop.example/pub-g03152/laws.FnVariables" = some 10 by kernel_rfl).symm.trans hf) |>.symm
 obtain rfl : fn = Tryz.f10 := (Option.some.inj (Tryz.func10.symm.trans hfn)).symm
 refine ⟨by kernel_rfl, fun j t ht => ?_⟩
 rw [Tryz.params10] at ht
 have hm : t ∈ ([9, 25] : List TypeId) := by simpa using Array.mem_of_getElem? ht
 have hall : (([9, 25] : List TypeId).all fun u => !Tryz.prog.wantsStandIn u) = true := by kernel_rfl
 exact (show Tryz.prog.wantsStandIn t = false by simpa using List.all_eq_true.1 hall t hm)
theorem card : Rows.FnVariablesCardSaid :=
 Claim7.holds_tied_plain_at .later [] _ _ _ _ said (fun _ h => by cases h) (by kernel_rfl) (fun _ h => by cases h) fnVariables_row_tie rfl ⟨rfl, rfl⟩ (by kernel_rfl) rfl plain (by kernel_rfl)
end Go.Proofs.YtfakghnpkdoclaaGreatDoor.fnVariables
