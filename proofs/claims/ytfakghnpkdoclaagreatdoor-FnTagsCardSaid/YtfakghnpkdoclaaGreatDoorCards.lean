/-
  DERIVED. GIVEN WITH THE SEED: THE CARDS: each row of YtfakghnpkdoclaaGreatDoorRows.lean that lists a variable, with what it lists TIED to the program's text (the seventh form; the later family's looks); each row that meets fmt, with fmt's text TOLD by the authors' own Lean function (tested against real Go, not proved from fmt's source: count such statements apart). THE CARD IS WHAT COUNTS. Prove the row's statement (the work); the ties are given (YtfakghnpkdoclaaGreatDoorTie.lean); close each card by the builder's one call (the guide's Derived/Test/ToyasCard.lean, 'card_holds'). Laid BY PROGRAM, IN A SANDBOX (cutbox-door.mjs). By AI agents, Wed Nov 11 2026. No macro, syntax, notation, axiom, sorry.
-/
import Derived.Test.YtfakghnpkdoclaaGreatDoorRows
import GoSem.ClaimSeven
namespace Go.Proofs.YtfakghnpkdoclaaGreatDoor
namespace Rows

/-- THE TIED CARD OF 'laws.FnContexts'. -/
def fnContextsCard : Claim7 := { stood := { row := fnContextsRow, standIns := [], harness := (true, "d2257dd6a1c82a282bd77e2881b97cab5a19a49471345124d3ef23bb95228316"), looks := true }, kinds := [], alts := [], laidByText := true, laidKinds := [.data, .data, .data, .data, .sentinel, .listed, .data, .pinned, .pinned, .pinned, .pinned, .pinned, .pinned], laidTests := true, laidLooks := .later }
def FnContextsCardSaid : Prop := Claim7.holds Tryz.pinned (.plain (OpenSpec.ofChange fnContextsSpec)) fnContextsCard

/-- THE TIED CARD OF 'laws.FnPlain'. -/
def fnPlainCard : Claim7 := { stood := { row := fnPlainRow, standIns := [], harness := (true, "d2257dd6a1c82a282bd77e2881b97cab5a19a49471345124d3ef23bb95228316"), looks := true }, kinds := [], alts := [], laidByText := true, laidKinds := [.data, .data, .data, .data, .sentinel, .listed, .data, .pinned, .pinned, .pinned, .pinned, .pinned, .pinned], laidTests := true, laidLooks := .later }
def FnPlainCardSaid : Prop := Claim7.holds Tryz.pinned (.plain (OpenSpec.ofChange fnPlainSpec)) fnPlainCard

/-- THE TIED CARD OF 'laws.FnRender'. -/
def fnRenderCard : Claim7 := { stood := { row := fnRenderRow, standIns := [], harness := (true, "d2257dd6a1c82a282bd77e2881b97cab5a19a49471345124d3ef23bb95228316"), looks := true }, kinds := [], alts := [], laidByText := true, laidKinds := [.data, .data, .data, .data, .sentinel, .listed, .data, .pinned, .pinned, .pinned, .pinned, .pinned, .pinned], laidTests := true, laidLooks := .later }
def FnRenderCardSaid : Prop := Claim7.holds Tryz.pinned (.plain (OpenSpec.ofChange fnRenderSpec)) fnRenderCard

/-- THE TIED CARD OF 'laws.FnRaw'. -/
def fnRawCard : Claim7 := { stood := { row := fnRawRow, standIns := [], harness := (true, "d2257dd6a1c82a282bd77e2881b97cab5a19a49471345124d3ef23bb95228316"), looks := true }, kinds := [], alts := [], laidByText := true, laidKinds := [.data, .data, .data, .data, .sentinel, .listed, .data, .pinned, .pinned, .pinned, .pinned, .pinned, .pinned], laidTests := true, laidLooks := .later }
def FnRawCardSaid : Prop := Claim7.holds Tryz.pinned (.plain (OpenSpec.ofChange fnRawSpec)) fnRawCard

/-- THE TIED CARD OF 'laws.FnInverted'. -/
def fnInvertedCard : Claim7 := { stood := { row := fnInvertedRow, standIns := [], harness := (true, "d2257dd6a1c82a282bd77e2881b97cab5a19a49471345124d3ef23bb95228316"), looks := true }, kinds := [], alts := [], laidByText := true, laidKinds := [.data, .data, .data, .data, .sentinel, .listed, .data, .pinned, .pinned, .pinned, .pinned, .pinned, .pinned], laidTests := true, laidLooks := .later }
def FnInvertedCardSaid : Prop := Claim7.holds Tryz.pinned (.plain (OpenSpec.ofChange fnInvertedSpec)) fnInvertedCard

/-- THE TIED CARD OF 'laws.FnPartials'. -/
def fnPartialsCard : Claim7 := { stood := { row := fnPartialsRow, standIns := [], harness := (true, "d2257dd6a1c82a282bd77e2881b97cab5a19a49471345124d3ef23bb95228316"), looks := true }, kinds := [], alts := [], laidByText := true, laidKinds := [.data, .data, .data, .data, .sentinel, .listed, .data, .pinned, .pinned, .pinned, .pinned, .pinned, .pinned], laidTests := true, laidLooks := .later }
def FnPartialsCardSaid : Prop := Claim7.holds Tryz.pinned (.plain (OpenSpec.ofChange fnPartialsSpec)) fnPartialsCard

/-- THE TIED CARD OF 'laws.FnSections'. -/
def fnSectionsCard : Claim7 := { stood := { row := fnSectionsRow, standIns := [], harness := (true, "d2257dd6a1c82a282bd77e2881b97cab5a19a49471345124d3ef23bb95228316"), looks := true }, kinds := [], alts := [], laidByText := true, laidKinds := [.data, .data, .data, .data, .sentinel, .listed, .data, .pinned, .pinned, .pinned, .pinned, .pinned, .pinned], laidTests := true, laidLooks := .later }
def FnSectionsCardSaid : Prop := Claim7.holds Tryz.pinned (.plain (OpenSpec.ofChange fnSectionsSpec)) fnSectionsCard

/-- THE TIED CARD OF 'laws.FnVariables'. -/
def fnVariablesCard : Claim7 := { stood := { row := fnVariablesRow, standIns := [], harness := (true, "d2257dd6a1c82a282bd77e2881b97cab5a19a49471345124d3ef23bb95228316"), looks := true }, kinds := [], alts := [], laidByText := true, laidKinds := [.data, .data, .data, .data, .sentinel, .listed, .data, .pinned, .pinned, .pinned, .pinned, .pinned, .pinned], laidTests := true, laidLooks := .later }
def FnVariablesCardSaid : Prop := Claim7.holds Tryz.pinned (.plain (OpenSpec.ofChange fnVariablesSpec)) fnVariablesCard

/-- THE TIED CARD OF 'laws.FnStrict'. -/
def fnStrictCard : Claim7 := { stood := { row := fnStrictRow, standIns := [], harness := (true, "d2257dd6a1c82a282bd77e2881b97cab5a19a49471345124d3ef23bb95228316"), looks := true }, kinds := [], alts := [], laidByText := true, laidKinds := [.data, .data, .data, .data, .sentinel, .listed, .data, .pinned, .pinned, .pinned, .pinned, .pinned, .pinned], laidTests := true, laidLooks := .later }
def FnStrictCardSaid : Prop := Claim7.holds Tryz.pinned (.plain (OpenSpec.ofChange fnStrictSpec)) fnStrictCard

/-- THE TIED CARD OF 'laws.FnLayout'. -/
def fnLayoutCard : Claim7 := { stood := { row := fnLayoutRow, standIns := [], harness := (true, "d2257dd6a1c82a282bd77e2881b97cab5a19a49471345124d3ef23bb95228316"), looks := true }, kinds := [], alts := [], laidByText := true, laidKinds := [.data, .data, .data, .data, .sentinel, .listed, .data, .pinned, .pinned, .pinned, .pinned, .pinned, .pinned], laidTests := true, laidLooks := .later }
def FnLayoutCardSaid : Prop := Claim7.holds Tryz.pinned (.plain (OpenSpec.ofChange fnLayoutSpec)) fnLayoutCard

/-- THE TIED CARD OF 'laws.FnTags'. -/
def fnTagsCard : Claim7 := { stood := { row := fnTagsRow, standIns := [], harness := (true, "d2257dd6a1c82a282bd77e2881b97cab5a19a49471345124d3ef23bb95228316"), looks := true }, kinds := [], alts := [], laidByText := true, laidKinds := [.data, .data, .data, .data, .sentinel, .listed, .data, .pinned, .pinned, .pinned, .pinned, .pinned, .pinned], laidTests := true, laidLooks := .later }
def FnTagsCardSaid : Prop := Claim7.holds Tryz.pinned (.plain (OpenSpec.ofChange fnTagsSpec)) fnTagsCard

/-- THE SECOND FORM's CARD OF 'laws.FnContexts'. -/
def fnContextsUptoCard : Claim7 := { stood := { row := fnContextsUptoRow, standIns := [], harness := (true, "d2257dd6a1c82a282bd77e2881b97cab5a19a49471345124d3ef23bb95228316"), looks := true }, kinds := [], alts := [], laidByText := true, laidKinds := [.data, .data, .data, .data, .sentinel, .listed, .data, .pinned, .pinned, .pinned, .pinned, .pinned, .pinned], laidTests := true, laidLooks := .later }
def FnContextsUptoCardSaid : Prop := Claim7.holds Tryz.pinned (.plain (OpenSpec.upto fnContextsSpec)) fnContextsUptoCard

/-- THE SECOND FORM's CARD OF 'laws.FnPlain'. -/
def fnPlainUptoCard : Claim7 := { stood := { row := fnPlainUptoRow, standIns := [], harness := (true, "d2257dd6a1c82a282bd77e2881b97cab5a19a49471345124d3ef23bb95228316"), looks := true }, kinds := [], alts := [], laidByText := true, laidKinds := [.data, .data, .data, .data, .sentinel, .listed, .data, .pinned, .pinned, .pinned, .pinned, .pinned, .pinned], laidTests := true, laidLooks := .later }
def FnPlainUptoCardSaid : Prop := Claim7.holds Tryz.pinned (.plain (OpenSpec.upto fnPlainSpec)) fnPlainUptoCard

/-- THE SECOND FORM's CARD OF 'laws.FnRender'. -/
def fnRenderUptoCard : Claim7 := { stood := { row := fnRenderUptoRow, standIns := [], harness := (true, "d2257dd6a1c82a282bd77e2881b97cab5a19a49471345124d3ef23bb95228316"), looks := true }, kinds := [], alts := [], laidByText := true, laidKinds := [.data, .data, .data, .data, .sentinel, .listed, .data, .pinned, .pinned, .pinned, .pinned, .pinned, .pinned], laidTests := true, laidLooks := .later }
def FnRenderUptoCardSaid : Prop := Claim7.holds Tryz.pinned (.plain (OpenSpec.upto fnRenderSpec)) fnRenderUptoCard

/-- THE SECOND FORM's CARD OF 'laws.FnRaw'. -/
def fnRawUptoCard : Claim7 := { stood := { row := fnRawUptoRow, standIns := [], harness := (true, "d2257dd6a1c82a282bd77e2881b97cab5a19a49471345124d3ef23bb95228316"), looks := true }, kinds := [], alts := [], laidByText := true, laidKinds := [.data, .data, .data, .data, .sentinel, .listed, .data, .pinned, .pinned, .pinned, .pinned, .pinned, .pinned], laidTests := true, laidLooks := .later }
def FnRawUptoCardSaid : Prop := Claim7.holds Tryz.pinned (.plain (OpenSpec.upto fnRawSpec)) fnRawUptoCard

/-- THE SECOND FORM's CARD OF 'laws.FnInverted'. -/
def fnInvertedUptoCard : Claim7 := { stood := { row := fnInvertedUptoRow, standIns := [], harness := (true, "d2257dd6a1c82a282bd77e2881b97cab5a19a49471345124d3ef23bb95228316"), looks := true }, kinds := [], alts := [], laidByText := true, laidKinds := [.data, .data, .data, .data, .sentinel, .listed, .data, .pinned, .pinned, .pinned, .pinned, .pinned, .pinned], laidTests := true, laidLooks := .later }
def FnInvertedUptoCardSaid : Prop := Claim7.holds Tryz.pinned (.plain (OpenSpec.upto fnInvertedSpec)) fnInvertedUptoCard

/-- THE SECOND FORM's CARD OF 'laws.FnPartials'. -/
def fnPartialsUptoCard : Claim7 := { stood := { row := fnPartialsUptoRow, standIns := [], harness := (true, "d2257dd6a1c82a282bd77e2881b97cab5a19a49471345124d3ef23bb95228316"), looks := true }, kinds := [], alts := [], laidByText := true, laidKinds := [.data, .data, .data, .data, .sentinel, .listed, .data, .pinned, .pinned, .pinned, .pinned, .pinned, .pinned], laidTests := true, laidLooks := .later }
def FnPartialsUptoCardSaid : Prop := Claim7.holds Tryz.pinned (.plain (OpenSpec.upto fnPartialsSpec)) fnPartialsUptoCard

/-- THE SECOND FORM's CARD OF 'laws.FnSections'. -/
def fnSectionsUptoCard : Claim7 := { stood := { row := fnSectionsUptoRow, standIns := [], harness := (true, "d2257dd6a1c82a282bd77e2881b97cab5a19a49471345124d3ef23bb95228316"), looks := true }, kinds := [], alts := [], laidByText := true, laidKinds := [.data, .data, .data, .data, .sentinel, .listed, .data, .pinned, .pinned, .pinned, .pinned, .pinned, .pinned], laidTests := true, laidLooks := .later }
def FnSectionsUptoCardSaid : Prop := Claim7.holds Tryz.pinned (.plain (OpenSpec.upto fnSectionsSpec)) fnSectionsUptoCard

/-- THE SECOND FORM's CARD OF 'laws.FnVariables'. -/
def fnVariablesUptoCard : Claim7 := { stood := { row := fnVariablesUptoRow, standIns := [], harness := (true, "d2257dd6a1c82a282bd77e2881b97cab5a19a49471345124d3ef23bb95228316"), looks := true }, kinds := [], alts := [], laidByText := true, laidKinds := [.data, .data, .data, .data, .sentinel, .listed, .data, .pinned, .pinned, .pinned, .pinned, .pinned, .pinned], laidTests := true, laidLooks := .later }
def FnVariablesUptoCardSaid : Prop := Claim7.holds Tryz.pinned (.plain (OpenSpec.upto fnVariablesSpec)) fnVariablesUptoCard

/-- THE SECOND FORM's CARD OF 'laws.FnStrict'. -/
def fnStrictUptoCard : Claim7 := { stood := { row := fnStrictUptoRow, standIns := [], harness := (true, "d2257dd6a1c82a282bd77e2881b97cab5a19a49471345124d3ef23bb95228316"), looks := true }, kinds := [], alts := [], laidByText := true, laidKinds := [.data, .data, .data, .data, .sentinel, .listed, .data, .pinned, .pinned, .pinned, .pinned, .pinned, .pinned], laidTests := true, laidLooks := .later }
def FnStrictUptoCardSaid : Prop := Claim7.holds Tryz.pinned (.plain (OpenSpec.upto fnStrictSpec)) fnStrictUptoCard

/-- THE SECOND FORM's CARD OF 'laws.FnLayout'. -/
def fnLayoutUptoCard : Claim7 := { stood := { row := fnLayoutUptoRow, standIns := [], harness := (true, "d2257dd6a1c82a282bd77e2881b97cab5a19a49471345124d3ef23bb95228316"), looks := true }, kinds := [], alts := [], laidByText := true, laidKinds := [.data, .data, .data, .data, .sentinel, .listed, .data, .pinned, .pinned, .pinned, .pinned, .pinned, .pinned], laidTests := true, laidLooks := .later }
def FnLayoutUptoCardSaid : Prop := Claim7.holds Tryz.pinned (.plain (OpenSpec.upto fnLayoutSpec)) fnLayoutUptoCard

/-- THE SECOND FORM's CARD OF 'laws.FnTags'. -/
def fnTagsUptoCard : Claim7 := { stood := { row := fnTagsUptoRow, standIns := [], harness := (true, "d2257dd6a1c82a282bd77e2881b97cab5a19a49471345124d3ef23bb95228316"), looks := true }, kinds := [], alts := [], laidByText := true, laidKinds := [.data, .data, .data, .data, .sentinel, .listed, .data, .pinned, .pinned, .pinned, .pinned, .pinned, .pinned], laidTests := true, laidLooks := .later }
def FnTagsUptoCardSaid : Prop := Claim7.holds Tryz.pinned (.plain (OpenSpec.upto fnTagsSpec)) fnTagsUptoCard
end Rows
end Go.Proofs.YtfakghnpkdoclaaGreatDoor
