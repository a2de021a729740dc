/-
  DERIVED. GIVEN WITH THE SEED: THE CARDS: each row of YtdgmfkapglmlhaaGreatDoorRows.lean that lists a variable, with what it lists TIED to the program's text (the seventh form; the later family's looks); each row that meets fmt, with fmt's text TOLD by the authors' own Lean function (tested against real Go, not proved from fmt's source: count such statements apart). THE CARD IS WHAT COUNTS. Prove the row's statement (the work); the ties are given (YtdgmfkapglmlhaaGreatDoorTie.lean); close each card by the builder's one call (the guide's Derived/Test/ToyasCard.lean, 'card_holds'). Laid BY PROGRAM, IN A SANDBOX (cutbox-door.mjs). By AI agents, Wed Nov 11 2026. No macro, syntax, notation, axiom, sorry.
-/
import Derived.Test.YtdgmfkapglmlhaaGreatDoorRows
import GoSem.ClaimSeven
namespace Go.Proofs.YtdgmfkapglmlhaaGreatDoor
namespace Rows

/-- THE TIED CARD OF 'laws.FnListBack'. -/
def fnListBackCard : Claim7 := { stood := { row := fnListBackRow, standIns := [], harness := (true, "87e716848d9baeec999d0a9ad29d311d9864d3a7952860cf04f0711bfc367818"), looks := true }, kinds := [], alts := [], laidByText := true, laidKinds := [.data, .data, .data, .data, .sentinel, .sentinel, .pinned, .pinned], laidTests := true, laidLooks := .later }
def FnListBackCardSaid : Prop := Claim7.holds Tryz.pinned (.plain (OpenSpec.ofChange fnListBackSpec)) fnListBackCard

/-- THE TIED CARD OF 'laws.FnListRead'. -/
def fnListReadCard : Claim7 := { stood := { row := fnListReadRow, standIns := [], harness := (true, "87e716848d9baeec999d0a9ad29d311d9864d3a7952860cf04f0711bfc367818"), looks := true }, kinds := [], alts := [], laidByText := true, laidKinds := [.data, .data, .data, .data, .sentinel, .sentinel, .pinned, .pinned], laidTests := true, laidLooks := .later }
def FnListReadCardSaid : Prop := Claim7.holds Tryz.pinned (.plain (OpenSpec.ofChange fnListReadSpec)) fnListReadCard

/-- THE TIED CARD OF 'laws.FnKindText'. -/
def fnKindTextCard : Claim7 := { stood := { row := fnKindTextRow, standIns := [], harness := (true, "87e716848d9baeec999d0a9ad29d311d9864d3a7952860cf04f0711bfc367818"), looks := true }, kinds := [], alts := [], laidByText := true, laidKinds := [.data, .data, .data, .data, .sentinel, .sentinel, .pinned, .pinned], laidTests := true, laidLooks := .later }
def FnKindTextCardSaid : Prop := Claim7.holds Tryz.pinned (.plain (OpenSpec.ofChange fnKindTextSpec)) fnKindTextCard

/-- THE TIED CARD OF 'laws.FnLists'. -/
def fnListsCard : Claim7 := { stood := { row := fnListsRow, standIns := [], harness := (true, "87e716848d9baeec999d0a9ad29d311d9864d3a7952860cf04f0711bfc367818"), looks := true }, kinds := [], alts := [], laidByText := true, laidKinds := [.data, .data, .data, .data, .sentinel, .sentinel, .pinned, .pinned], laidTests := true, laidLooks := .later }
def FnListsCardSaid : Prop := Claim7.holds Tryz.pinned (.plain (OpenSpec.ofChange fnListsSpec)) fnListsCard

/-- THE SECOND FORM's CARD OF 'laws.FnListBack'. -/
def fnListBackUptoCard : Claim7 := { stood := { row := fnListBackUptoRow, standIns := [], harness := (true, "87e716848d9baeec999d0a9ad29d311d9864d3a7952860cf04f0711bfc367818"), looks := true }, kinds := [], alts := [], laidByText := true, laidKinds := [.data, .data, .data, .data, .sentinel, .sentinel, .pinned, .pinned], laidTests := true, laidLooks := .later }
def FnListBackUptoCardSaid : Prop := Claim7.holds Tryz.pinned (.plain (OpenSpec.upto fnListBackSpec)) fnListBackUptoCard

/-- THE SECOND FORM's CARD OF 'laws.FnListRead'. -/
def fnListReadUptoCard : Claim7 := { stood := { row := fnListReadUptoRow, standIns := [], harness := (true, "87e716848d9baeec999d0a9ad29d311d9864d3a7952860cf04f0711bfc367818"), looks := true }, kinds := [], alts := [], laidByText := true, laidKinds := [.data, .data, .data, .data, .sentinel, .sentinel, .pinned, .pinned], laidTests := true, laidLooks := .later }
def FnListReadUptoCardSaid : Prop := Claim7.holds Tryz.pinned (.plain (OpenSpec.upto fnListReadSpec)) fnListReadUptoCard

/-- THE SECOND FORM's CARD OF 'laws.FnKindText'. -/
def fnKindTextUptoCard : Claim7 := { stood := { row := fnKindTextUptoRow, standIns := [], harness := (true, "87e716848d9baeec999d0a9ad29d311d9864d3a7952860cf04f0711bfc367818"), looks := true }, kinds := [], alts := [], laidByText := true, laidKinds := [.data, .data, .data, .data, .sentinel, .sentinel, .pinned, .pinned], laidTests := true, laidLooks := .later }
def FnKindTextUptoCardSaid : Prop := Claim7.holds Tryz.pinned (.plain (OpenSpec.upto fnKindTextSpec)) fnKindTextUptoCard

/-- THE SECOND FORM's CARD OF 'laws.FnLists'. -/
def fnListsUptoCard : Claim7 := { stood := { row := fnListsUptoRow, standIns := [], harness := (true, "87e716848d9baeec999d0a9ad29d311d9864d3a7952860cf04f0711bfc367818"), looks := true }, kinds := [], alts := [], laidByText := true, laidKinds := [.data, .data, .data, .data, .sentinel, .sentinel, .pinned, .pinned], laidTests := true, laidLooks := .later }
def FnListsUptoCardSaid : Prop := Claim7.holds Tryz.pinned (.plain (OpenSpec.upto fnListsSpec)) fnListsUptoCard
end Rows
end Go.Proofs.YtdgmfkapglmlhaaGreatDoor
