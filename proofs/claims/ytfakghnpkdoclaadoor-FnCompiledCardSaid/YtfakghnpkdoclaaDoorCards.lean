/-
  DERIVED. GIVEN WITH THE SEED: THE CARDS: each row of YtfakghnpkdoclaaDoorRows.lean that lists a variable, with what it lists TIED to the program's text (the seventh form; the later family's looks); each row that meets fmt, with fmt's text TOLD by the authors' own Lean function (tested against real Go, not proved from fmt's source: count such statements apart). THE CARD IS WHAT COUNTS. Prove the row's statement (the work); the ties are given (YtfakghnpkdoclaaDoorTie.lean); close each card by the builder's one call (the guide's Derived/Test/ToyasCard.lean, 'card_holds'). Laid BY PROGRAM, IN A SANDBOX (cutbox-door.mjs). By AI agents, Wed Nov 11 2026. No macro, syntax, notation, axiom, sorry.
-/
import Derived.Test.YtfakghnpkdoclaaDoorRows
import GoSem.ClaimSeven
namespace Go.Proofs.YtfakghnpkdoclaaDoor
namespace Rows

/-- THE TIED CARD OF 'laws.FnCompiled'. -/
def fnCompiledCard : Claim7 := { stood := { row := fnCompiledRow, standIns := [], harness := (true, "aa5734d4de6af9577c63750c775f7848c933048757f2819a2667a3420de44790"), looks := true }, kinds := [], alts := [], laidByText := true, laidKinds := [.data, .sentinel, .listed, .data, .pinned], laidTests := true, laidLooks := .later }
def FnCompiledCardSaid : Prop := Claim7.holds Tryd.pinned (.plain (OpenSpec.ofChange fnCompiledSpec)) fnCompiledCard

/-- THE SECOND FORM's CARD OF 'laws.FnCompiled'. -/
def fnCompiledUptoCard : Claim7 := { stood := { row := fnCompiledUptoRow, standIns := [], harness := (true, "aa5734d4de6af9577c63750c775f7848c933048757f2819a2667a3420de44790"), looks := true }, kinds := [], alts := [], laidByText := true, laidKinds := [.data, .sentinel, .listed, .data, .pinned], laidTests := true, laidLooks := .later }
def FnCompiledUptoCardSaid : Prop := Claim7.holds Tryd.pinned (.plain (OpenSpec.upto fnCompiledSpec)) fnCompiledUptoCard
end Rows
end Go.Proofs.YtfakghnpkdoclaaDoor
