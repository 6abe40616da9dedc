/-
  THE LAW FnLayout ANSWERS true FOR EVERY TEXT, LAYOUT AND CONTEXT, AND ALL ARGUMENTS READ BEHIND THE CALL AS THEY READ BEFORE.
  CONDITIONS: the row's own: the package variables that it lists read as their initialisers lay them; the form's limits on what comes in. No condition of this text's own.
-/
import Derived.Test.YtfakghnpkdoclaaGreatDoorGZ1
import Derived.Test.YtfakghnpkdoclaaGreatDoorGLl
set_option linter.unusedVariables false
set_option linter.unusedSimpArgs false
set_option maxRecDepth 1000000
set_option maxHeartbeats 8000000
namespace Go.Proofs.YtfakghnpkdoclaaGreatDoor.fnLayout
open Go.ChangeShapes Go.WideShapes Go.ChangeAt Go.RowKit Go.ChangeMaps
theorem contract (H : Type) (enc : TypeId × Value → H) (W : World) (base : Nat) (args : Array Value) (ds gs : List (DataW H)) (before : List MemPlace)
 (hval : ∀ (j : Nat) t v, Tryz.f12.params[j]? = some t → args[j]? = some v → Value.okWide Tryz.prog W .any base t v)
 (hW : DataW.Whole enc Tryz.prog Tryz.f12.params.toList Rows.fnLayoutSpec.vars false W args.toList ds gs before) (hL : laidMetH Tryz.prog Rows.fnLayoutRow.laid W) :
 Calls Tryz.prog 12 args W fun e W' => ∃ v, e = .returned v ∧ Rows.fnLayoutSpec.post enc Tryz.prog Tryz.f12 false true false false W args v W' := by
 have hW' := hW
 obtain ⟨p, q, hA0, hV, rfl, hfz, hnd⟩ := hW
 have hA : DataW.TrodAll enc Tryz.prog W 0 (fun _ => true) true Tryz.f12.params.toList args.toList ds p := hA0
 rw [Tryz.params12] at hA hval
 obtain ⟨v0, v1, v2, d0, d1, d2, p0, p1, p2, rfl, rfl, rfl, h0, h1, h2⟩ := trodAll_three hA
 obtain ⟨rfl, rfl⟩ := trodVars_none hV
 obtain ⟨s0, rfl, rfl, rfl, hz0⟩ := open_string Tryz.underlying9 (hval 0 9 v0 rfl rfl) h0
 obtain ⟨s1, rfl, rfl, rfl, hz1⟩ := open_string Tryz.underlying9 (hval 1 9 v1 rfl rfl) h1
 obtain ⟨x2, hd2, hr2⟩ := open_ctx (hval 2 25 v2 rfl rfl) h2
 clear hA0
 simp only [List.append_nil, List.nil_append] at hW'
 have hlt : ∀ y ∈ (p2), y.block < W.heap.size := fun y hy => hW'.lt y hy
 obtain ⟨eb, hgf, hgt⟩ := glob_holds hL
 refine (law_FnLayout (B := W.heap.size) (eb := eb) ⟨⟨W, rfl, hgf, hgt, ps_nil W, Below.refl _ _⟩, ⟨_, hd2, fun k hk => hk⟩, hr2⟩ ⟨⟨W, rfl, hgf, hgt, ps_nil W, Below.refl _ _⟩, ⟨_, hd2, fun k hk => hk⟩, hr2⟩).mono ?_
 rintro e W' ⟨rfl, hf⟩
 have bel : Below W.heap.size W W' := F0.below hf
 refine ⟨_, rfl, _, _, _, [], ([] ++ ([] ++ p2)), [], hW', ?_, ?_, ?_, bel.frame _, fun h => by cases h⟩
 · exact trodAll_mk1 (shut_bool Tryz.underlying4 _)
 · exact trodAll_mk3 (shut_string Tryz.underlying9 hz0) (shut_string Tryz.underlying9 hz1) (Below.trod laidOut (by kernel_rfl) (of_decide_eq_true (by kernel_rfl)) h2 bel (fun y hy => hlt y (by simp [hy])))
 · exact rfl
theorem reads (W : World) {H : Type} (enc : TypeId × Value → H) : ∃ places, DataW.whole enc Tryz.prog W Tryz.f12.params.toList Rows.fnLayoutSpec.vars false (#[.string ⟨#[]⟩, .string ⟨#[]⟩, .agg #[.int .i64 0, .string ⟨#[]⟩, .int .i64 0, .bool false, .slice none 0 0, .slice none 0 0]] : Array Value).toList 8 = some ([.lit (.string []), .lit (.string []), .agg [.lit (.int .i64 0), .lit (.string []), .lit (.int .i64 0), .lit (.bool false), .nil, .nil]], [], places) :=
 ⟨[], by kernel_rfl⟩
theorem lifted (os : Os) (started : os.Started) (H : Type) (enc : TypeId × Value → H) (F : Stop.Interp) :
 ReturnsInHanded {} Tryz.checked os 12 .any ((OpenSpec.ofChange Rows.fnLayoutSpec).preRow enc Tryz.prog Tryz.f12 Rows.fnLayoutRow.domain false Rows.fnLayoutRow.laid) (((OpenSpec.ofChange Rows.fnLayoutSpec).at F).post enc Tryz.prog Tryz.f12 false true false false) := by
 obtain ⟨places, hx⟩ := reads ((laidWorld os).forCall (fun _ _ => 0) ⟨#[], #[.string ⟨#[]⟩, .string ⟨#[]⟩, .agg #[.int .i64 0, .string ⟨#[]⟩, .int .i64 0, .bool false, .slice none 0 0, .slice none 0 0]], []⟩).memory enc
 refine returnsInHanded_of_row (C := Tryz.checked) (s := OpenSpec.ofChange Rows.fnLayoutSpec) own started (by kernel_rfl) Tryz.func12
  (witness_row_atRef (enc := enc) (C := Tryz.checked) false (laidWorld os) #[.string ⟨#[]⟩, .string ⟨#[]⟩, .agg #[.int .i64 0, .string ⟨#[]⟩, .int .i64 0, .bool false, .slice none 0 0, .slice none 0 0]] (World.laidAll_os _ _ _) (by kernel_rfl) (by kernel_rfl) (by kernel_rfl)
    (OpenSpec.preRow_of_cond 8 hx (by kernel_rfl) (fun k hk => by cases hk) (by kernel_rfl) (laid_met os _))) ?_
 intro W base args ds gs before hval hW _ _ _ hL _ _
 exact contract H enc W base args ds gs before hval hW hL
theorem closed : joinedFacts Tryz.prog 12 Tryz.f12 (OpenSpec.ofChange Rows.fnLayoutSpec).bare Rows.fnLayoutRow = true := by
 unfold joinedFacts
 repeat' (with_reducible refine and_mk ?_ ?_)
 all_goals (as_aux_lemma => kernel_rfl)
theorem wrap : (Tryz.f12).isWrapper Tryz.prog Rows.fnLayoutRow.wrapper Rows.fnLayoutRow.mainSum := by
 unfold Func.isWrapper
 first | (rw [if_pos (by decide +kernel)]; kernel_rfl) | (rw [if_neg (by decide +kernel)]; exact ⟨rfl, rfl⟩)
theorem inst : (Tryz.f12).isInstance Tryz.prog Rows.fnLayoutRow.origin Rows.fnLayoutRow.targs := of_decide_eq_true (by kernel_rfl)
theorem named : Tryz.prog.funcNamed Rows.fnLayoutRow.func = some 12 := by kernel_rfl
theorem said : Rows.FnLayoutSaid :=
 OpenClaim.holds_of_cond 12 Tryz.f12 rfl rfl rfl rfl rfl rfl rfl ⟨rfl, rfl, rfl, rfl, rfl⟩ rfl rfl rfl rfl rfl named Tryz.func12 closed inst wrap
  (fun os started H enc _ F => by rw [OpenClaim.pre_eq_preRow]; exact lifted os started H enc F)
theorem plain (f : FuncId) (fn : Func) (hf : Tryz.pinned.checked.prog.funcNamed "loop.example/pub-g03152/laws.FnLayout" = some f) (hfn : Tryz.pinned.checked.prog.funcs[f]? = some fn) :
 true = Tryz.pinned.checked.prog.looks [] ∧ ∀ (j : Nat) t, fn.params[j]? = some t → Tryz.pinned.checked.prog.wantsStandIn t = false := by
 obtain rfl : f = 12 := Option.some.inj ((show Tryz.prog.funcNamed "loop.example/pub-g03152/laws.FnLayout" = some 12 by kernel_rfl).symm.trans hf) |>.symm
 obtain rfl : fn = Tryz.f12 := (Option.some.inj (Tryz.func12.symm.trans hfn)).symm
 refine ⟨by kernel_rfl, fun j t ht => ?_⟩
 rw [Tryz.params12] at ht
 have hm : t ∈ ([9, 25] : List TypeId) := by simpa using Array.mem_of_getElem? ht
 have hall : (([9, 25] : List TypeId).all fun u => !Tryz.prog.wantsStandIn u) = true := by kernel_rfl
 exact (show Tryz.prog.wantsStandIn t = false by simpa using List.all_eq_true.1 hall t hm)
theorem card : Rows.FnLayoutCardSaid :=
 Claim7.holds_tied_plain_at .later [] _ _ _ _ said (fun _ h => by cases h) (by kernel_rfl) (fun _ h => by cases h) fnLayout_row_tie rfl ⟨rfl, rfl⟩ (by kernel_rfl) rfl plain (by kernel_rfl)
end Go.Proofs.YtfakghnpkdoclaaGreatDoor.fnLayout
