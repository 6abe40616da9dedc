/-
  THE LAW FnPartials ANSWERS true FOR EVERY TEXT, LIST OF PARTIALS AND CONTEXT, AND ALL ARGUMENTS READ BEHIND THE CALL AS THEY READ BEFORE.
  CONDITIONS: the row's own: the package variables that it lists read as their initialisers lay them; the form's limits on what comes in. No condition of this text's own.
-/
import Derived.Test.YtfakghnpkdoclaaGreatDoorGZ1
import Derived.Test.YtfakghnpkdoclaaGreatDoorGLPartials
set_option linter.unusedVariables false
set_option linter.unusedSimpArgs false
set_option maxRecDepth 1000000
set_option maxHeartbeats 8000000
namespace Go.Proofs.YtfakghnpkdoclaaGreatDoor.fnPartials
open Go.ChangeShapes Go.WideShapes Go.ChangeAt Go.RowKit Go.ChangeMaps
theorem contract (H : Type) (enc : TypeId × Value → H) (W : World) (base : Nat) (args : Array Value) (ds gs : List (DataW H)) (before : List MemPlace)
 (hval : ∀ (j : Nat) t v, Tryz.f8.params[j]? = some t → args[j]? = some v → Value.okWide Tryz.prog W .any base t v)
 (hW : DataW.Whole enc Tryz.prog Tryz.f8.params.toList Rows.fnPartialsSpec.vars false W args.toList ds gs before) (hL : laidMetH Tryz.prog Rows.fnPartialsRow.laid W) :
 Calls Tryz.prog 8 args W fun e W' => ∃ v, e = .returned v ∧ Rows.fnPartialsSpec.post enc Tryz.prog Tryz.f8 false true false false W args v W' := by
 have hW' := hW
 obtain ⟨p, q, hA0, hV, rfl, hfz, hnd⟩ := hW
 have hA : DataW.TrodAll enc Tryz.prog W 0 (fun _ => true) true Tryz.f8.params.toList args.toList ds p := hA0
 rw [Tryz.params8] at hA hval
 obtain ⟨v0, v1, v2, d0, d1, d2, p0, p1, p2, rfl, rfl, rfl, h0, h1, h2⟩ := trodAll_three hA
 obtain ⟨rfl, rfl⟩ := trodVars_none hV
 obtain ⟨s0, rfl, rfl, rfl, hz0⟩ := open_string Tryz.underlying9 (hval 0 9 v0 rfl rfl) h0
 obtain ⟨q1, hq1, -, -⟩ := open_parts (hval 1 41 v1 rfl rfl) h1
 obtain ⟨x2, hd2, hr2⟩ := open_ctx (hval 2 25 v2 rfl rfl) h2
 clear hA0
 simp only [List.append_nil, List.nil_append] at hW'
 have hlt : ∀ y ∈ (p1 ++ p2), y.block < W.heap.size := fun y hy => hW'.lt y hy
 obtain ⟨eb, hgf, hgt⟩ := glob_holds hL
 refine (law_FnPartials (B := W.heap.size) (eb := eb) (ps := q1) ⟨⟨W, rfl, hgf, hgt, hq1, Below.refl _ _⟩, ⟨_, hd2, fun k hk => hk⟩, hr2⟩).mono ?_
 rintro e W' ⟨rfl, hf⟩
 have bel : Below W.heap.size W W' := F0.below hf
 refine ⟨_, rfl, _, _, _, [], ([] ++ (p1 ++ p2)), [], hW', ?_, ?_, ?_, bel.frame _, fun h => by cases h⟩
 · exact trodAll_mk1 (shut_bool Tryz.underlying4 _)
 · exact trodAll_mk3 (shut_string Tryz.underlying9 hz0) (Below.trod laidOut (by kernel_rfl) (of_decide_eq_true (by kernel_rfl)) h1 bel (fun y hy => hlt y (by simp [hy]))) (Below.trod laidOut (by kernel_rfl) (of_decide_eq_true (by kernel_rfl)) h2 bel (fun y hy => hlt y (by simp [hy])))
 · exact rfl
theorem reads (W : World) {H : Type} (enc : TypeId × Value → H) : ∃ places, DataW.whole enc Tryz.prog W Tryz.f8.params.toList Rows.fnPartialsSpec.vars false (#[.string ⟨#[]⟩, .slice none 0 0, .agg #[.int .i64 0, .string ⟨#[]⟩, .int .i64 0, .bool false, .slice none 0 0, .slice none 0 0]] : Array Value).toList 8 = some ([.lit (.string []), .nil, .agg [.lit (.int .i64 0), .lit (.string []), .lit (.int .i64 0), .lit (.bool false), .nil, .nil]], [], places) :=
 ⟨[], by kernel_rfl⟩
theorem lifted (os : Os) (started : os.Started) (H : Type) (enc : TypeId × Value → H) (F : Stop.Interp) :
 ReturnsInHanded {} Tryz.checked os 8 .any ((OpenSpec.ofChange Rows.fnPartialsSpec).preRow enc Tryz.prog Tryz.f8 Rows.fnPartialsRow.domain false Rows.fnPartialsRow.laid) (((OpenSpec.ofChange Rows.fnPartialsSpec).at F).post enc Tryz.prog Tryz.f8 false true false false) := by
 obtain ⟨places, hx⟩ := reads ((laidWorld os).forCall (fun _ _ => 0) ⟨#[], #[.string ⟨#[]⟩, .slice none 0 0, .agg #[.int .i64 0, .string ⟨#[]⟩, .int .i64 0, .bool false, .slice none 0 0, .slice none 0 0]], []⟩).memory enc
 refine returnsInHanded_of_row (C := Tryz.checked) (s := OpenSpec.ofChange Rows.fnPartialsSpec) own started (by kernel_rfl) Tryz.func8
  (witness_row_atRef (enc := enc) (C := Tryz.checked) false (laidWorld os) #[.string ⟨#[]⟩, .slice none 0 0, .agg #[.int .i64 0, .string ⟨#[]⟩, .int .i64 0, .bool false, .slice none 0 0, .slice none 0 0]] (World.laidAll_os _ _ _) (by kernel_rfl) (by kernel_rfl) (by kernel_rfl)
    (OpenSpec.preRow_of_cond 8 hx (by kernel_rfl) (fun k hk => by cases hk) (by kernel_rfl) (laid_met os _))) ?_
 intro W base args ds gs before hval hW _ _ _ hL _ _
 exact contract H enc W base args ds gs before hval hW hL
theorem closed : joinedFacts Tryz.prog 8 Tryz.f8 (OpenSpec.ofChange Rows.fnPartialsSpec).bare Rows.fnPartialsRow = true := by
 unfold joinedFacts
 repeat' (with_reducible refine and_mk ?_ ?_)
 all_goals (as_aux_lemma => kernel_rfl)
theorem wrap : (Tryz.f8).isWrapper Tryz.prog Rows.fnPartialsRow.wrapper Rows.fnPartialsRow.mainSum := by
 unfold Func.isWrapper
 first | (rw [if_pos (by decide +kernel)]; kernel_rfl) | (rw [if_neg (by decide +kernel)]; exact ⟨rfl, rfl⟩)
theorem inst : (Tryz.f8).isInstance Tryz.prog Rows.fnPartialsRow.origin Rows.fnPartialsRow.targs := of_decide_eq_true (by kernel_rfl)
theorem named : Tryz.prog.funcNamed Rows.fnPartialsRow.func = some 8 := by kernel_rfl
theorem said : Rows.FnPartialsSaid :=
 OpenClaim.holds_of_cond 8 Tryz.f8 rfl rfl rfl rfl rfl rfl rfl ⟨rfl, rfl, rfl, rfl, rfl⟩ rfl rfl rfl rfl rfl named Tryz.func8 closed inst wrap
  (fun os started H enc _ F => by rw [OpenClaim.pre_eq_preRow]; exact lifted os started H enc F)
theorem plain (f : FuncId) (fn : Func) (hf : Tryz.pinned.checked.prog.funcNamed "loop.example/pub-g03152/laws.FnPartials" = some f) (hfn : Tryz.pinned.checked.prog.funcs[f]? = some fn) :
 true = Tryz.pinned.checked.prog.looks [] ∧ ∀ (j : Nat) t, fn.params[j]? = some t → Tryz.pinned.checked.prog.wantsStandIn t = false := by
 obtain rfl : f = 8 := Option.some.inj ((show Tryz.prog.funcNamed "loop.example/pub-g03152/laws.FnPartials" = some 8 by kernel_rfl).symm.trans hf) |>.symm
 obtain rfl : fn = Tryz.f8 := (Option.some.inj (Tryz.func8.symm.trans hfn)).symm
 refine ⟨by kernel_rfl, fun j t ht => ?_⟩
 rw [Tryz.params8] at ht
 have hm : t ∈ ([9, 41, 25] : List TypeId) := by simpa using Array.mem_of_getElem? ht
 have hall : (([9, 41, 25] : List TypeId).all fun u => !Tryz.prog.wantsStandIn u) = true := by kernel_rfl
 exact (show Tryz.prog.wantsStandIn t = false by simpa using List.all_eq_true.1 hall t hm)
theorem card : Rows.FnPartialsCardSaid :=
 Claim7.holds_tied_plain_at .later [] _ _ _ _ said (fun _ h => by cases h) (by kernel_rfl) (fun _ h => by cases h) fnPartials_row_tie rfl ⟨rfl, rfl⟩ (by kernel_rfl) rfl plain (by kernel_rfl)
end Go.Proofs.YtfakghnpkdoclaaGreatDoor.fnPartials
