/-
  THE LAW FnTags ANSWERS true FOR EVERY TEXT AND LIST OF PARTIALS, AND ALL ARGUMENTS READ BEHIND THE CALL AS THEY READ BEFORE.
  CONDITIONS: the row's own: the package variables that it lists read as their initialisers lay them; the form's limits on what comes in. No condition of this text's own.
-/
import Derived.Test.YtfakghnpkdoclaaGreatDoorGZ1
import Derived.Test.YtfakghnpkdoclaaGreatDoorGLt
set_option linter.unusedVariables false
set_option linter.unusedSimpArgs false
set_option maxRecDepth 1000000
set_option maxHeartbeats 8000000
namespace Go.Proofs.YtfakghnpkdoclaaGreatDoor.fnTags
open Go.ChangeShapes Go.WideShapes Go.ChangeAt Go.RowKit Go.ChangeMaps
theorem contract (H : Type) (enc : TypeId × Value → H) (W : World) (base : Nat) (args : Array Value) (ds gs : List (DataW H)) (before : List MemPlace)
 (hval : ∀ (j : Nat) t v, Tryz.f13.params[j]? = some t → args[j]? = some v → Value.okWide Tryz.prog W .any base t v)
 (hW : DataW.Whole enc Tryz.prog Tryz.f13.params.toList Rows.fnTagsSpec.vars false W args.toList ds gs before) (hL : laidMetH Tryz.prog Rows.fnTagsRow.laid W) :
 Calls Tryz.prog 13 args W fun e W' => ∃ v, e = .returned v ∧ Rows.fnTagsSpec.post enc Tryz.prog Tryz.f13 false true false false W args v W' := by
 have hW' := hW
 obtain ⟨p, q, hA0, hV, rfl, hfz, hnd⟩ := hW
 have hA : DataW.TrodAll enc Tryz.prog W 0 (fun _ => true) true Tryz.f13.params.toList args.toList ds p := hA0
 rw [Tryz.params13] at hA hval
 obtain ⟨v0, v1, d0, d1, p0, p1, rfl, rfl, rfl, h0, h1⟩ := trodAll_two hA
 obtain ⟨rfl, rfl⟩ := trodVars_none hV
 obtain ⟨s0, rfl, rfl, rfl, hz0⟩ := open_string Tryz.underlying9 (hval 0 9 v0 rfl rfl) h0
 obtain ⟨q1, hq1, -, -⟩ := open_parts (hval 1 41 v1 rfl rfl) h1
 clear hA0
 simp only [List.append_nil, List.nil_append] at hW'
 have hlt : ∀ y ∈ (p1), y.block < W.heap.size := fun y hy => hW'.lt y hy
 obtain ⟨eb, hgf, hgt⟩ := glob_holds hL
 refine (law_FnTags W.heap.size eb s0 v1 q1 W ⟨W, rfl, hgf, hgt, hq1, Below.refl _ _⟩).mono ?_
 rintro e W' ⟨rfl, hf⟩
 have bel : Below W.heap.size W W' := F0.below hf
 refine ⟨_, rfl, _, _, _, [], ([] ++ p1), [], hW', ?_, ?_, ?_, bel.frame _, fun h => by cases h⟩
 · exact trodAll_mk1 (shut_bool Tryz.underlying4 _)
 · exact trodAll_mk2 (shut_string Tryz.underlying9 hz0) (Below.trod laidOut (by kernel_rfl) (of_decide_eq_true (by kernel_rfl)) h1 bel (fun y hy => hlt y (by simp [hy])))
 · exact rfl
theorem reads (W : World) {H : Type} (enc : TypeId × Value → H) : ∃ places, DataW.whole enc Tryz.prog W Tryz.f13.params.toList Rows.fnTagsSpec.vars false (#[.string ⟨#[]⟩, .slice none 0 0] : Array Value).toList 8 = some ([.lit (.string []), .nil], [], places) :=
 ⟨[], by kernel_rfl⟩
theorem lifted (os : Os) (started : os.Started) (H : Type) (enc : TypeId × Value → H) (F : Stop.Interp) :
 ReturnsInHanded {} Tryz.checked os 13 .any ((OpenSpec.ofChange Rows.fnTagsSpec).preRow enc Tryz.prog Tryz.f13 Rows.fnTagsRow.domain false Rows.fnTagsRow.laid) (((OpenSpec.ofChange Rows.fnTagsSpec).at F).post enc Tryz.prog Tryz.f13 false true false false) := by
 obtain ⟨places, hx⟩ := reads ((laidWorld os).forCall (fun _ _ => 0) ⟨#[], #[.string ⟨#[]⟩, .slice none 0 0], []⟩).memory enc
 refine returnsInHanded_of_row (C := Tryz.checked) (s := OpenSpec.ofChange Rows.fnTagsSpec) own started (by kernel_rfl) Tryz.func13
  (witness_row_atRef (enc := enc) (C := Tryz.checked) false (laidWorld os) #[.string ⟨#[]⟩, .slice none 0 0] (World.laidAll_os _ _ _) (by kernel_rfl) (by kernel_rfl) (by kernel_rfl)
    (OpenSpec.preRow_of_cond 8 hx (by kernel_rfl) (fun k hk => by cases hk) (by kernel_rfl) (laid_met os _))) ?_
 intro W base args ds gs before hval hW _ _ _ hL _ _
 exact contract H enc W base args ds gs before hval hW hL
theorem closed : joinedFacts Tryz.prog 13 Tryz.f13 (OpenSpec.ofChange Rows.fnTagsSpec).bare Rows.fnTagsRow = true := by
 unfold joinedFacts
 repeat' (with_reducible refine and_mk ?_ ?_)
 all_goals (as_aux_lemma => kernel_rfl)
theorem wrap : (Tryz.f13).isWrapper Tryz.prog Rows.fnTagsRow.wrapper Rows.fnTagsRow.mainSum := by
 unfold Func.isWrapper
 first | (rw [if_pos (by decide +kernel)]; kernel_rfl) | (rw [if_neg (by decide +kernel)]; exact ⟨rfl, rfl⟩)
theorem inst : (Tryz.f13).isInstance Tryz.prog Rows.fnTagsRow.origin Rows.fnTagsRow.targs := of_decide_eq_true (by kernel_rfl)
theorem named : Tryz.prog.funcNamed Rows.fnTagsRow.func = some 13 := by kernel_rfl
theorem said : Rows.FnTagsSaid :=
 OpenClaim.holds_of_cond 13 Tryz.f13 rfl rfl rfl rfl rfl rfl rfl ⟨rfl, rfl, rfl, rfl, rfl⟩ rfl rfl rfl rfl rfl named Tryz.func13 closed inst wrap
  (fun os started H enc _ F => by rw [OpenClaim.pre_eq_preRow]; exact lifted os started H enc F)
theorem plain (f : FuncId) (fn : Func) (hf : Tryz.pinned.checked.prog.funcNamed "loop.example/pub-g03152/laws.FnTags" = some f) (hfn : Tryz.pinned.checked.prog.funcs[f]? = some fn) :
 true = Tryz.pinned.checked.prog.looks [] ∧ ∀ (j : Nat) t, fn.params[j]? = some t → Tryz.pinned.checked.prog.wantsStandIn t = false := by
 obtain rfl : f = 13 := Option.some.inj ((show Tryz.prog.funcNamed "loop.example/pub-g03152/laws.FnTags" = some 13 by kernel_rfl).symm.trans hf) |>.symm
 obtain rfl : fn = Tryz.f13 := (Option.some.inj (Tryz.func13.symm.trans hfn)).symm
 refine ⟨by kernel_rfl, fun j t ht => ?_⟩
 rw [Tryz.params13] at ht
 have hm : t ∈ ([9, 41] : List TypeId) := by simpa using Array.mem_of_getElem? ht
 have hall : (([9, 41] : List TypeId).all fun u => !Tryz.prog.wantsStandIn u) = true := by kernel_rfl
 exact (show Tryz.prog.wantsStandIn t = false by simpa using List.all_eq_true.1 hall t hm)
theorem card : Rows.FnTagsCardSaid :=
 Claim7.holds_tied_plain_at .later [] _ _ _ _ said (fun _ h => by cases h) (by kernel_rfl) (fun _ h => by cases h) fnTags_row_tie rfl ⟨rfl, rfl⟩ (by kernel_rfl) rfl plain (by kernel_rfl)
end Go.Proofs.YtfakghnpkdoclaaGreatDoor.fnTags
