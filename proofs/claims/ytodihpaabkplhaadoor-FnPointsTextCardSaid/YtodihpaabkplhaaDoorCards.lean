/-
  DERIVED. GIVEN WITH THE SEED: THE CARDS: each row of YtodihpaabkplhaaDoorRows.lean that lists a variable, with what it lists TIED to the program's text (the seventh form; the later family's looks); each row that meets fmt, with fmt's text TOLD by the authors' own Lean function (tested against real Go, not proved from fmt's source: count such statements apart). THE CARD IS WHAT COUNTS. Prove the row's statement (the work); the ties are given (YtodihpaabkplhaaDoorTie.lean); close each card by the builder's one call (the guide's Derived/Test/ToyasCard.lean, 'card_holds'). Laid BY PROGRAM, IN A SANDBOX (cutbox-door.mjs). By AI agents, Wed Nov 11 2026. No macro, syntax, notation, axiom, sorry.
-/
import Derived.Test.YtodihpaabkplhaaDoorRows
import GoSem.ClaimSeven
namespace Go.Proofs.YtodihpaabkplhaaDoor
namespace Rows

/-- THE TIED CARD OF 'laws.FnPlaceText'. -/
def fnPlaceTextCard : Claim7 := { stood := { row := fnPlaceTextRow, standIns := [], harness := (true, "358e843cc37ce6e96793964947cd690d362cccff0fb614e9c2b1c9b0391fc2ac"), looks := false }, kinds := [], alts := [], laidByText := true, laidKinds := [.data, .data, .data, .data, .pinned, .pinned], laidTests := true, laidLooks := .later }
def FnPlaceTextCardSaid : Prop := Claim7.holds Tryd.pinned (.plain (OpenSpec.ofChange fnPlaceTextSpec)) fnPlaceTextCard

/-- THE TIED CARD OF 'laws.FnLineText'. -/
def fnLineTextCard : Claim7 := { stood := { row := fnLineTextRow, standIns := [], harness := (true, "358e843cc37ce6e96793964947cd690d362cccff0fb614e9c2b1c9b0391fc2ac"), looks := false }, kinds := [], alts := [], laidByText := true, laidKinds := [.data, .data, .data, .data, .pinned, .pinned], laidTests := true, laidLooks := .later }
def FnLineTextCardSaid : Prop := Claim7.holds Tryd.pinned (.plain (OpenSpec.ofChange fnLineTextSpec)) fnLineTextCard

/-- THE TIED CARD OF 'laws.FnPointsText'. -/
def fnPointsTextCard : Claim7 := { stood := { row := fnPointsTextRow, standIns := [], harness := (true, "358e843cc37ce6e96793964947cd690d362cccff0fb614e9c2b1c9b0391fc2ac"), looks := false }, kinds := [], alts := [], laidByText := true, laidKinds := [.data, .data, .data, .data, .pinned, .pinned], laidTests := true, laidLooks := .later }
def FnPointsTextCardSaid : Prop := Claim7.holds Tryd.pinned (.plain (OpenSpec.ofChange fnPointsTextSpec)) fnPointsTextCard

/-- THE TIED CARD OF 'laws.FnLinesText'. -/
def fnLinesTextCard : Claim7 := { stood := { row := fnLinesTextRow, standIns := [], harness := (true, "358e843cc37ce6e96793964947cd690d362cccff0fb614e9c2b1c9b0391fc2ac"), looks := false }, kinds := [], alts := [], laidByText := true, laidKinds := [.data, .data, .data, .data, .pinned, .pinned], laidTests := true, laidLooks := .later }
def FnLinesTextCardSaid : Prop := Claim7.holds Tryd.pinned (.plain (OpenSpec.ofChange fnLinesTextSpec)) fnLinesTextCard

/-- THE TIED CARD OF 'laws.FnAreasText'. -/
def fnAreasTextCard : Claim7 := { stood := { row := fnAreasTextRow, standIns := [], harness := (true, "358e843cc37ce6e96793964947cd690d362cccff0fb614e9c2b1c9b0391fc2ac"), looks := false }, kinds := [], alts := [], laidByText := true, laidKinds := [.data, .data, .data, .data, .pinned, .pinned], laidTests := true, laidLooks := .later }
def FnAreasTextCardSaid : Prop := Claim7.holds Tryd.pinned (.plain (OpenSpec.ofChange fnAreasTextSpec)) fnAreasTextCard

/-- THE SECOND FORM's CARD OF 'laws.FnPlaceText'. -/
def fnPlaceTextUptoCard : Claim7 := { stood := { row := fnPlaceTextUptoRow, standIns := [], harness := (true, "358e843cc37ce6e96793964947cd690d362cccff0fb614e9c2b1c9b0391fc2ac"), looks := false }, kinds := [], alts := [], laidByText := true, laidKinds := [.data, .data, .data, .data, .pinned, .pinned], laidTests := true, laidLooks := .later }
def FnPlaceTextUptoCardSaid : Prop := Claim7.holds Tryd.pinned (.plain (OpenSpec.upto fnPlaceTextSpec)) fnPlaceTextUptoCard

/-- THE SECOND FORM's CARD OF 'laws.FnLineText'. -/
def fnLineTextUptoCard : Claim7 := { stood := { row := fnLineTextUptoRow, standIns := [], harness := (true, "358e843cc37ce6e96793964947cd690d362cccff0fb614e9c2b1c9b0391fc2ac"), looks := false }, kinds := [], alts := [], laidByText := true, laidKinds := [.data, .data, .data, .data, .pinned, .pinned], laidTests := true, laidLooks := .later }
def FnLineTextUptoCardSaid : Prop := Claim7.holds Tryd.pinned (.plain (OpenSpec.upto fnLineTextSpec)) fnLineTextUptoCard

/-- THE SECOND FORM's CARD OF 'laws.FnPointsText'. -/
def fnPointsTextUptoCard : Claim7 := { stood := { row := fnPointsTextUptoRow, standIns := [], harness := (true, "358e843cc37ce6e96793964947cd690d362cccff0fb614e9c2b1c9b0391fc2ac"), looks := false }, kinds := [], alts := [], laidByText := true, laidKinds := [.data, .data, .data, .data, .pinned, .pinned], laidTests := true, laidLooks := .later }
def FnPointsTextUptoCardSaid : Prop := Claim7.holds Tryd.pinned (.plain (OpenSpec.upto fnPointsTextSpec)) fnPointsTextUptoCard

/-- THE SECOND FORM's CARD OF 'laws.FnLinesText'. -/
def fnLinesTextUptoCard : Claim7 := { stood := { row := fnLinesTextUptoRow, standIns := [], harness := (true, "358e843cc37ce6e96793964947cd690d362cccff0fb614e9c2b1c9b0391fc2ac"), looks := false }, kinds := [], alts := [], laidByText := true, laidKinds := [.data, .data, .data, .data, .pinned, .pinned], laidTests := true, laidLooks := .later }
def FnLinesTextUptoCardSaid : Prop := Claim7.holds Tryd.pinned (.plain (OpenSpec.upto fnLinesTextSpec)) fnLinesTextUptoCard

/-- THE SECOND FORM's CARD OF 'laws.FnAreasText'. -/
def fnAreasTextUptoCard : Claim7 := { stood := { row := fnAreasTextUptoRow, standIns := [], harness := (true, "358e843cc37ce6e96793964947cd690d362cccff0fb614e9c2b1c9b0391fc2ac"), looks := false }, kinds := [], alts := [], laidByText := true, laidKinds := [.data, .data, .data, .data, .pinned, .pinned], laidTests := true, laidLooks := .later }
def FnAreasTextUptoCardSaid : Prop := Claim7.holds Tryd.pinned (.plain (OpenSpec.upto fnAreasTextSpec)) fnAreasTextUptoCard
end Rows
end Go.Proofs.YtodihpaabkplhaaDoor
