/-
  DERIVED. GIVEN WITH THE SEED: THE CARDS: each row of YtppfldobgemddaaDoorRows.lean that lists a variable, with what it lists TIED to the program's text (the seventh form; the later family's looks); each row that meets fmt, with fmt's text TOLD by the authors' own Lean function (tested against real Go, not proved from fmt's source: count such statements apart). THE CARD IS WHAT COUNTS. Prove the row's statement (the work); the ties are given (YtppfldobgemddaaDoorTie.lean); close each card by the builder's one call (the guide's Derived/Test/ToyasCard.lean, 'card_holds'). Laid BY PROGRAM, IN A SANDBOX (cutbox-door.mjs). By AI agents, Wed Nov 11 2026. No macro, syntax, notation, axiom, sorry.
-/
import Derived.Test.YtppfldobgemddaaDoorRows
import GoSem.ClaimSeven
namespace Go.Proofs.YtppfldobgemddaaDoor
namespace Rows

/-- THE TIED CARD OF 'laws.FnTags'. -/
def fnTagsCard : Claim7 := { stood := { row := fnTagsRow, standIns := [], harness := (true, "b3acc4371786a2f56855d348ce7cc0548a779e121642633c9aeafdf0e9e6441e"), looks := true }, kinds := [], alts := [], laidByText := true, laidKinds := [.sentinel, .sentinel, .sentinel], laidTests := true, laidLooks := .later }
def FnTagsCardSaid : Prop := Claim7.holds Tryd.pinned (.plain (OpenSpec.ofChange fnTagsSpec)) fnTagsCard

/-- THE TIED CARD OF 'laws.FnHeader'. -/
def fnHeaderCard : Claim7 := { stood := { row := fnHeaderRow, standIns := [], harness := (true, "b3acc4371786a2f56855d348ce7cc0548a779e121642633c9aeafdf0e9e6441e"), looks := true }, kinds := [], alts := [], laidByText := true, laidKinds := [.sentinel], laidTests := true, laidLooks := .later }
def FnHeaderCardSaid : Prop := Claim7.holds Tryd.pinned (.plain (OpenSpec.ofChange fnHeaderSpec)) fnHeaderCard

/-- THE TIED CARD OF 'laws.FnSideInfo'. -/
def fnSideInfoCard : Claim7 := { stood := { row := fnSideInfoRow, standIns := [], harness := (true, "b3acc4371786a2f56855d348ce7cc0548a779e121642633c9aeafdf0e9e6441e"), looks := true }, kinds := [], alts := [], laidByText := true, laidKinds := [.sentinel, .data], laidTests := true, laidLooks := .later }
def FnSideInfoCardSaid : Prop := Claim7.holds Tryd.pinned (.plain (OpenSpec.ofChange fnSideInfoSpec)) fnSideInfoCard

/-- THE TIED CARD OF 'laws.FnWindow'. -/
def fnWindowCard : Claim7 := { stood := { row := fnWindowRow, standIns := [], harness := (true, "b3acc4371786a2f56855d348ce7cc0548a779e121642633c9aeafdf0e9e6441e"), looks := true }, kinds := [], alts := [], laidByText := true, laidKinds := [.data, .data, .data], laidTests := true, laidLooks := .later }
def FnWindowCardSaid : Prop := Claim7.holds Tryd.pinned (.plain (OpenSpec.ofChange fnWindowSpec)) fnWindowCard

/-- THE SECOND FORM's CARD OF 'laws.FnTags'. -/
def fnTagsUptoCard : Claim7 := { stood := { row := fnTagsUptoRow, standIns := [], harness := (true, "b3acc4371786a2f56855d348ce7cc0548a779e121642633c9aeafdf0e9e6441e"), looks := true }, kinds := [], alts := [], laidByText := true, laidKinds := [.sentinel, .sentinel, .sentinel], laidTests := true, laidLooks := .later }
def FnTagsUptoCardSaid : Prop := Claim7.holds Tryd.pinned (.plain (OpenSpec.upto fnTagsSpec)) fnTagsUptoCard

/-- THE SECOND FORM's CARD OF 'laws.FnHeader'. -/
def fnHeaderUptoCard : Claim7 := { stood := { row := fnHeaderUptoRow, standIns := [], harness := (true, "b3acc4371786a2f56855d348ce7cc0548a779e121642633c9aeafdf0e9e6441e"), looks := true }, kinds := [], alts := [], laidByText := true, laidKinds := [.sentinel], laidTests := true, laidLooks := .later }
def FnHeaderUptoCardSaid : Prop := Claim7.holds Tryd.pinned (.plain (OpenSpec.upto fnHeaderSpec)) fnHeaderUptoCard

/-- THE SECOND FORM's CARD OF 'laws.FnSideInfo'. -/
def fnSideInfoUptoCard : Claim7 := { stood := { row := fnSideInfoUptoRow, standIns := [], harness := (true, "b3acc4371786a2f56855d348ce7cc0548a779e121642633c9aeafdf0e9e6441e"), looks := true }, kinds := [], alts := [], laidByText := true, laidKinds := [.sentinel, .data], laidTests := true, laidLooks := .later }
def FnSideInfoUptoCardSaid : Prop := Claim7.holds Tryd.pinned (.plain (OpenSpec.upto fnSideInfoSpec)) fnSideInfoUptoCard

/-- THE SECOND FORM's CARD OF 'laws.FnWindow'. -/
def fnWindowUptoCard : Claim7 := { stood := { row := fnWindowUptoRow, standIns := [], harness := (true, "b3acc4371786a2f56855d348ce7cc0548a779e121642633c9aeafdf0e9e6441e"), looks := true }, kinds := [], alts := [], laidByText := true, laidKinds := [.data, .data, .data], laidTests := true, laidLooks := .later }
def FnWindowUptoCardSaid : Prop := Claim7.holds Tryd.pinned (.plain (OpenSpec.upto fnWindowSpec)) fnWindowUptoCard
end Rows
end Go.Proofs.YtppfldobgemddaaDoor
