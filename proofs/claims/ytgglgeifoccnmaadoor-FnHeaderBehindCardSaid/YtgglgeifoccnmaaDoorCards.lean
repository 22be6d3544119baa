/-
  DERIVED. GIVEN WITH THE SEED: THE CARDS: each row of YtgglgeifoccnmaaDoorRows.lean that lists a variable, with what it lists TIED to the program's text (the seventh form; the later family's looks); each row that meets fmt, with fmt's text TOLD by the authors' own Lean function (tested against real Go, not proved from fmt's source: count such statements apart). THE CARD IS WHAT COUNTS. Prove the row's statement (the work); the ties are given (YtgglgeifoccnmaaDoorTie.lean); close each card by the builder's one call (the guide's Derived/Test/ToyasCard.lean, 'card_holds'). Laid BY PROGRAM, IN A SANDBOX (cutbox-door.mjs). By AI agents, Wed Nov 11 2026. No macro, syntax, notation, axiom, sorry.
-/
import Derived.Test.YtgglgeifoccnmaaDoorRows
import GoSem.ClaimSeven
namespace Go.Proofs.YtgglgeifoccnmaaDoor
namespace Rows

/-- THE TIED CARD OF 'laws.FnSkipFrame'. -/
def fnSkipFrameCard : Claim7 := { stood := { row := fnSkipFrameRow, standIns := [], harness := (true, "4d826c6fea089a6f9e2a06a952eb7a7a43f6ec5222fa314ffcb5f50cf83f1f8e"), looks := true }, kinds := [], alts := [], laidByText := true, laidKinds := [.sentinel, .sentinel, .sentinel], laidTests := true, laidLooks := .later }
def FnSkipFrameCardSaid : Prop := Claim7.holds Tryd.pinned (.plain (OpenSpec.ofChange fnSkipFrameSpec)) fnSkipFrameCard

/-- THE TIED CARD OF 'laws.FnSkipShort'. -/
def fnSkipShortCard : Claim7 := { stood := { row := fnSkipShortRow, standIns := [], harness := (true, "4d826c6fea089a6f9e2a06a952eb7a7a43f6ec5222fa314ffcb5f50cf83f1f8e"), looks := true }, kinds := [], alts := [], laidByText := true, laidKinds := [.sentinel, .sentinel, .sentinel], laidTests := true, laidLooks := .later }
def FnSkipShortCardSaid : Prop := Claim7.holds Tryd.pinned (.plain (OpenSpec.ofChange fnSkipShortSpec)) fnSkipShortCard

/-- THE TIED CARD OF 'laws.FnHeader'. -/
def fnHeaderCard : Claim7 := { stood := { row := fnHeaderRow, standIns := [], harness := (true, "4d826c6fea089a6f9e2a06a952eb7a7a43f6ec5222fa314ffcb5f50cf83f1f8e"), looks := true }, kinds := [], alts := [], laidByText := true, laidKinds := [.sentinel, .sentinel, .sentinel, .data], laidTests := true, laidLooks := .later }
def FnHeaderCardSaid : Prop := Claim7.holds Tryd.pinned (.plain (OpenSpec.ofChange fnHeaderSpec)) fnHeaderCard

/-- THE TIED CARD OF 'laws.FnHeaderBehind'. -/
def fnHeaderBehindCard : Claim7 := { stood := { row := fnHeaderBehindRow, standIns := [], harness := (true, "4d826c6fea089a6f9e2a06a952eb7a7a43f6ec5222fa314ffcb5f50cf83f1f8e"), looks := true }, kinds := [], alts := [], laidByText := true, laidKinds := [.sentinel, .sentinel, .sentinel, .data], laidTests := true, laidLooks := .later }
def FnHeaderBehindCardSaid : Prop := Claim7.holds Tryd.pinned (.plain (OpenSpec.ofChange fnHeaderBehindSpec)) fnHeaderBehindCard

/-- THE TIED CARD OF 'laws.FnHeaderCut'. -/
def fnHeaderCutCard : Claim7 := { stood := { row := fnHeaderCutRow, standIns := [], harness := (true, "4d826c6fea089a6f9e2a06a952eb7a7a43f6ec5222fa314ffcb5f50cf83f1f8e"), looks := true }, kinds := [], alts := [], laidByText := true, laidKinds := [.sentinel, .sentinel, .sentinel, .data], laidTests := true, laidLooks := .later }
def FnHeaderCutCardSaid : Prop := Claim7.holds Tryd.pinned (.plain (OpenSpec.ofChange fnHeaderCutSpec)) fnHeaderCutCard

/-- THE SECOND FORM's CARD OF 'laws.FnSkipFrame'. -/
def fnSkipFrameUptoCard : Claim7 := { stood := { row := fnSkipFrameUptoRow, standIns := [], harness := (true, "4d826c6fea089a6f9e2a06a952eb7a7a43f6ec5222fa314ffcb5f50cf83f1f8e"), looks := true }, kinds := [], alts := [], laidByText := true, laidKinds := [.sentinel, .sentinel, .sentinel], laidTests := true, laidLooks := .later }
def FnSkipFrameUptoCardSaid : Prop := Claim7.holds Tryd.pinned (.plain (OpenSpec.upto fnSkipFrameSpec)) fnSkipFrameUptoCard

/-- THE SECOND FORM's CARD OF 'laws.FnSkipShort'. -/
def fnSkipShortUptoCard : Claim7 := { stood := { row := fnSkipShortUptoRow, standIns := [], harness := (true, "4d826c6fea089a6f9e2a06a952eb7a7a43f6ec5222fa314ffcb5f50cf83f1f8e"), looks := true }, kinds := [], alts := [], laidByText := true, laidKinds := [.sentinel, .sentinel, .sentinel], laidTests := true, laidLooks := .later }
def FnSkipShortUptoCardSaid : Prop := Claim7.holds Tryd.pinned (.plain (OpenSpec.upto fnSkipShortSpec)) fnSkipShortUptoCard

/-- THE SECOND FORM's CARD OF 'laws.FnHeader'. -/
def fnHeaderUptoCard : Claim7 := { stood := { row := fnHeaderUptoRow, standIns := [], harness := (true, "4d826c6fea089a6f9e2a06a952eb7a7a43f6ec5222fa314ffcb5f50cf83f1f8e"), looks := true }, kinds := [], alts := [], laidByText := true, laidKinds := [.sentinel, .sentinel, .sentinel, .data], laidTests := true, laidLooks := .later }
def FnHeaderUptoCardSaid : Prop := Claim7.holds Tryd.pinned (.plain (OpenSpec.upto fnHeaderSpec)) fnHeaderUptoCard

/-- THE SECOND FORM's CARD OF 'laws.FnHeaderBehind'. -/
def fnHeaderBehindUptoCard : Claim7 := { stood := { row := fnHeaderBehindUptoRow, standIns := [], harness := (true, "4d826c6fea089a6f9e2a06a952eb7a7a43f6ec5222fa314ffcb5f50cf83f1f8e"), looks := true }, kinds := [], alts := [], laidByText := true, laidKinds := [.sentinel, .sentinel, .sentinel, .data], laidTests := true, laidLooks := .later }
def FnHeaderBehindUptoCardSaid : Prop := Claim7.holds Tryd.pinned (.plain (OpenSpec.upto fnHeaderBehindSpec)) fnHeaderBehindUptoCard

/-- THE SECOND FORM's CARD OF 'laws.FnHeaderCut'. -/
def fnHeaderCutUptoCard : Claim7 := { stood := { row := fnHeaderCutUptoRow, standIns := [], harness := (true, "4d826c6fea089a6f9e2a06a952eb7a7a43f6ec5222fa314ffcb5f50cf83f1f8e"), looks := true }, kinds := [], alts := [], laidByText := true, laidKinds := [.sentinel, .sentinel, .sentinel, .data], laidTests := true, laidLooks := .later }
def FnHeaderCutUptoCardSaid : Prop := Claim7.holds Tryd.pinned (.plain (OpenSpec.upto fnHeaderCutSpec)) fnHeaderCutUptoCard
end Rows
end Go.Proofs.YtgglgeifoccnmaaDoor
