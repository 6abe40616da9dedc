/-
  What the cards share. (Joined by wip/pack.py.)
-/
import Derived.Test.YtfakghnpkdoclaaGreatDoorCards
import Derived.Test.YtfakghnpkdoclaaGreatDoorTie
import Derived.WalkKit
import Derived.ProofKit
import Derived.OpenShut
import Derived.ChangeMaps5
import Derived.LaidLaws
import Derived.Stop.LaidErr
import Derived.Deep.DeepHandedRow
import Derived.Deep.DeepWitnessRowRef
import Derived.Lib.LaidTab
import Derived.Lib.LaidU8
import Derived.Lib.LaidPrint
import Derived.Lay
import Derived.Carry
import Derived.Test.YtfakghnpkdoclaaGreatDoorGV1
import Derived.Test.YtfakghnpkdoclaaGreatDoorGC1
set_option linter.unusedVariables false
set_option linter.unusedSimpArgs false
set_option maxRecDepth 100000
set_option maxHeartbeats 8000000
namespace Go.Proofs.YtfakghnpkdoclaaGreatDoor
open Go.ChangeShapes Go.WideShapes Go.ChangeAt Go.RowKit Go.ChangeMaps
theorem own : ownKnob Tryz.prog.godebug = none := by kernel_rfl
theorem laidOut : laidOutB Tryz.prog = true := by kernel_rfl
theorem gEof : Tryz.prog.globalNamed "io.EOF" = some 0 := by kernel_rfl
theorem gEofType : (Tryz.prog.globals[(0 : Nat)]?).map (·.type) = some 62 := by kernel_rfl
theorem gSp : Tryz.prog.globalNamed "strings.asciiSpace" = some 1 := by kernel_rfl
theorem gSpType : (Tryz.prog.globals[(1 : Nat)]?).map (·.type) = some 182 := by kernel_rfl
theorem gPw : Tryz.prog.globalNamed "internal/strconv.uint64pow10" = some 5 := by kernel_rfl
theorem gPwType : (Tryz.prog.globals[(5 : Nat)]?).map (·.type) = some 239 := by kernel_rfl
theorem cellsTab : Tryz.prog.cellsOf 182 = 256 := by kernel_rfl
theorem cellsPw : Tryz.prog.cellsOf 239 = 20 := by kernel_rfl
theorem cellsU8 : Tryz.prog.cellsOf 5 = 1 := by kernel_rfl
theorem cellsU64 : Tryz.prog.cellsOf 231 = 1 := by kernel_rfl
theorem cellsErr : Tryz.prog.cellsOf 221 = 1 := by kernel_rfl
theorem star : "*" ++ "errors.errorString" = "*errors.errorString" := by decide
theorem rowErr (u : TypeId) (h : Tryz.prog.typeName? 3 u = some "*errors.errorString") : u = 219 :=
 typeName_ptr_named (nm := "errors.errorString") (by rw [star]; kernel_rfl) (by kernel_rfl) (by decide) u (by rw [star]; exact h)
def laidAll : List (String × DataW Unit) := [("math/bits.deBruijn32tab", Rows.laid_math_bits_deBruijn32tab), ("math/bits.deBruijn64tab", Rows.laid_math_bits_deBruijn64tab), ("internal/strconv.uint64pow10", Rows.laid_internal_strconv_uint64pow10), ("unicode/utf8.acceptRanges", Rows.laid_unicode_utf8_acceptRanges), ("io.EOF", Rows.laid_io_EOF), ("unicode.White_Space", Rows.laid_unicode_White_Space), ("strings.asciiSpace", Rows.laid_strings_asciiSpace), ("strconv.isGraphic", Rows.laid_strconv_isGraphic), ("strconv.isNotPrint16", Rows.laid_strconv_isNotPrint16), ("strconv.isNotPrint32", Rows.laid_strconv_isNotPrint32), ("strconv.isPrint16", Rows.laid_strconv_isPrint16), ("strconv.isPrint32", Rows.laid_strconv_isPrint32), ("unicode/utf8.first", Rows.laid_unicode_utf8_first)]
theorem glob_holds {W : World} (h : laidMetH Tryz.prog laidAll W) : ∃ eb, GlF W eb ∧ GlT W := by
 rw [MakeChecks.laidMetH_plain _ _ _ (by kernel_rfl)] at h
 have h2 := laidMet.tail (laidMet.tail h)
 have h4 := laidMet.tail (laidMet.tail h2)
 have h6 := laidMet.tail (laidMet.tail h4)
 obtain ⟨a, s, hv, -, -, -⟩ := laid_sentinel (P := Tryz.prog) h4 gEof gEofType Tryz.underlying62 rowErr Tryz.underlying219 Tryz.underlying221 rfl rfl Tryz.underlying9 cellsErr (by kernel_rfl)
 have sp : Lib.TabIs Tryz.prog W "strings.asciiSpace" .u8 Lib.asciiSpaceTab := Lib.tabIs_of_head (P := Tryz.prog) (zs := Lib.asciiSpaceTab) gSp gSpType Tryz.underlying182 Tryz.underlying5 cellsU8 cellsTab h6
 have pw : Lib.TabIs Tryz.prog W "internal/strconv.uint64pow10" .u64 Lib.pow10Tab := Lib.tabIs_of_head (P := Tryz.prog) (zs := Lib.pow10Tab) gPw gPwType Tryz.underlying239 Tryz.underlying231 cellsU64 cellsPw h2
 have hU : Lib.Utf8Tabs 3 4 W :=
  utf8Tabs_of_reads (ρ := Tryz.lays177_ren) { Tryz.lays177 with } ⟨by kernel_rfl, by kernel_rfl, by kernel_rfl, by kernel_rfl, by kernel_rfl, by kernel_rfl, by kernel_rfl⟩ (Lib.laidMet.reads h (.tail _ (.tail _ (.tail _ (.tail _ (.tail _ (.tail _ (.tail _ (.tail _ (.tail _ (.tail _ (.tail _ (.tail _ (.head _)))))))))))))) (Lib.laidMet.reads h (.tail _ (.tail _ (.tail _ (.head _)))))
 have hT : Lib.PrintTabsAt 6 7 8 9 Lib.goPrintTabs W :=
  printTabs_of_reads (ρ := Tryz.lays177_ren) { Tryz.lays177 with } ⟨by kernel_rfl, by kernel_rfl, by kernel_rfl, by kernel_rfl, by kernel_rfl, by kernel_rfl, by kernel_rfl, by kernel_rfl, by kernel_rfl, by kernel_rfl⟩
   (Lib.laidMet.reads h (.tail _ (.tail _ (.tail _ (.tail _ (.tail _ (.tail _ (.tail _ (.tail _ (.tail _ (.tail _ (.head _)))))))))))) (Lib.laidMet.reads h (.tail _ (.tail _ (.tail _ (.tail _ (.tail _ (.tail _ (.tail _ (.tail _ (.head _)))))))))) (Lib.laidMet.reads h (.tail _ (.tail _ (.tail _ (.tail _ (.tail _ (.tail _ (.tail _ (.tail _ (.tail _ (.tail _ (.tail _ (.head _))))))))))))) (Lib.laidMet.reads h (.tail _ (.tail _ (.tail _ (.tail _ (.tail _ (.tail _ (.tail _ (.tail _ (.tail _ (.head _)))))))))))
 exact ⟨a, ⟨by simpa using World.var?_cell gEof hv 0, sp⟩, ⟨pw, hT, hU⟩⟩
noncomputable def laidWorld (os : Os) : World := World.laidAll Tryz.prog os laidAll
theorem laid_met (os : Os) (args : Array Value) : laidMet Tryz.prog laidAll ((laidWorld os).forCall (fun _ _ => 0) ⟨#[], args, []⟩).memory :=
 laidMet_laidAll args (by kernel_rfl) (by kernel_rfl)
theorem and_mk {a b : Bool} (ha : a = true) (hb : b = true) : (a && b) = true := by rw [ha, hb]; rfl
theorem ps_nil (W : World) : PsAt W (.slice none 0 0) [] := ⟨none, 0, rfl, Nat.le_refl _, fun h => absurd h (by simp)⟩
end Go.Proofs.YtfakghnpkdoclaaGreatDoor
