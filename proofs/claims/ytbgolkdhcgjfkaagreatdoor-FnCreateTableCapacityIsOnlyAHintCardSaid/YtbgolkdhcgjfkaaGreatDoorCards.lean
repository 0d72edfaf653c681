/-
  DERIVED. GIVEN WITH THE SEED: THE CARDS: each row of YtbgolkdhcgjfkaaGreatDoorRows.lean that lists a variable, with what it lists TIED to the program's text (the seventh form; the later family's looks); each row that meets fmt, with fmt's text TOLD by the authors' own Lean function (tested against real Go, not proved from fmt's source: count such statements apart). THE CARD IS WHAT COUNTS. Prove the row's statement (the work); the ties are given (YtbgolkdhcgjfkaaGreatDoorTie.lean); close each card by the builder's one call (the guide's Derived/Test/ToyasCard.lean, 'card_holds'). Laid BY PROGRAM, IN A SANDBOX (cutbox-door.mjs). By AI agents, Wed Nov 11 2026. No macro, syntax, notation, axiom, sorry.
-/
import Derived.Test.YtbgolkdhcgjfkaaGreatDoorRows
import GoSem.ClaimSeven
namespace Go.Proofs.YtbgolkdhcgjfkaaGreatDoor
namespace Rows

/-- THE TIED CARD OF 'n005_92.FnNewTableIsEmptyAndFresh'. -/
def fnNewTableIsEmptyAndFreshCard : Claim7 := { stood := { row := fnNewTableIsEmptyAndFreshRow, standIns := [], harness := (true, "4e0c84757922cfba46f17ddc4397046440d7d38257913f381a4c51fa7977e13f"), looks := true }, kinds := [], alts := [], laidByText := true, laidKinds := [.data, .data, .widerDeep, .widerDeep, .data, .data, .data, .data, .data, .sentinel, .sentinel, .pinned, .pinned], laidTests := true, laidLooks := .later }
def FnNewTableIsEmptyAndFreshCardSaid : Prop := Claim7.holds Tryz.pinned (.plain (OpenSpec.ofChange fnNewTableIsEmptyAndFreshSpec)) fnNewTableIsEmptyAndFreshCard

/-- THE TIED CARD OF 'n005_92.FnCreateTableIsEmptyForAnyHint'. -/
def fnCreateTableIsEmptyForAnyHintCard : Claim7 := { stood := { row := fnCreateTableIsEmptyForAnyHintRow, standIns := [], harness := (true, "4e0c84757922cfba46f17ddc4397046440d7d38257913f381a4c51fa7977e13f"), looks := true }, kinds := [], alts := [], laidByText := true, laidKinds := [.data, .data, .widerDeep, .widerDeep, .data, .data, .data, .data, .data, .sentinel, .sentinel, .pinned, .pinned], laidTests := true, laidLooks := .later }
def FnCreateTableIsEmptyForAnyHintCardSaid : Prop := Claim7.holds Tryz.pinned (.plain (OpenSpec.ofChange fnCreateTableIsEmptyForAnyHintSpec)) fnCreateTableIsEmptyForAnyHintCard

/-- THE TIED CARD OF 'n005_92.FnNewTableLastWriteWins'. -/
def fnNewTableLastWriteWinsCard : Claim7 := { stood := { row := fnNewTableLastWriteWinsRow, standIns := [], harness := (true, "4e0c84757922cfba46f17ddc4397046440d7d38257913f381a4c51fa7977e13f"), looks := true }, kinds := [], alts := [], laidByText := true, laidKinds := [.data, .data, .widerDeep, .widerDeep, .data, .data, .data, .data, .data, .sentinel, .sentinel, .pinned, .pinned], laidTests := true, laidLooks := .later }
def FnNewTableLastWriteWinsCardSaid : Prop := Claim7.holds Tryz.pinned (.plain (OpenSpec.ofChange fnNewTableLastWriteWinsSpec)) fnNewTableLastWriteWinsCard

/-- THE TIED CARD OF 'n005_92.FnCreateTableCapacityIsOnlyAHint'. -/
def fnCreateTableCapacityIsOnlyAHintCard : Claim7 := { stood := { row := fnCreateTableCapacityIsOnlyAHintRow, standIns := [], harness := (true, "4e0c84757922cfba46f17ddc4397046440d7d38257913f381a4c51fa7977e13f"), looks := true }, kinds := [], alts := [], laidByText := true, laidKinds := [.data, .data, .widerDeep, .widerDeep, .data, .data, .data, .data, .data, .sentinel, .sentinel, .pinned, .pinned], laidTests := true, laidLooks := .later }
def FnCreateTableCapacityIsOnlyAHintCardSaid : Prop := Claim7.holds Tryz.pinned (.plain (OpenSpec.ofChange fnCreateTableCapacityIsOnlyAHintSpec)) fnCreateTableCapacityIsOnlyAHintCard

/-- THE SECOND FORM's CARD OF 'n005_92.FnNewTableIsEmptyAndFresh'. -/
def fnNewTableIsEmptyAndFreshUptoCard : Claim7 := { stood := { row := fnNewTableIsEmptyAndFreshUptoRow, standIns := [], harness := (true, "4e0c84757922cfba46f17ddc4397046440d7d38257913f381a4c51fa7977e13f"), looks := true }, kinds := [], alts := [], laidByText := true, laidKinds := [.data, .data, .widerDeep, .widerDeep, .data, .data, .data, .data, .data, .sentinel, .sentinel, .pinned, .pinned], laidTests := true, laidLooks := .later }
def FnNewTableIsEmptyAndFreshUptoCardSaid : Prop := Claim7.holds Tryz.pinned (.plain (OpenSpec.upto fnNewTableIsEmptyAndFreshSpec)) fnNewTableIsEmptyAndFreshUptoCard

/-- THE SECOND FORM's CARD OF 'n005_92.FnCreateTableIsEmptyForAnyHint'. -/
def fnCreateTableIsEmptyForAnyHintUptoCard : Claim7 := { stood := { row := fnCreateTableIsEmptyForAnyHintUptoRow, standIns := [], harness := (true, "4e0c84757922cfba46f17ddc4397046440d7d38257913f381a4c51fa7977e13f"), looks := true }, kinds := [], alts := [], laidByText := true, laidKinds := [.data, .data, .widerDeep, .widerDeep, .data, .data, .data, .data, .data, .sentinel, .sentinel, .pinned, .pinned], laidTests := true, laidLooks := .later }
def FnCreateTableIsEmptyForAnyHintUptoCardSaid : Prop := Claim7.holds Tryz.pinned (.plain (OpenSpec.upto fnCreateTableIsEmptyForAnyHintSpec)) fnCreateTableIsEmptyForAnyHintUptoCard

/-- THE SECOND FORM's CARD OF 'n005_92.FnNewTableLastWriteWins'. -/
def fnNewTableLastWriteWinsUptoCard : Claim7 := { stood := { row := fnNewTableLastWriteWinsUptoRow, standIns := [], harness := (true, "4e0c84757922cfba46f17ddc4397046440d7d38257913f381a4c51fa7977e13f"), looks := true }, kinds := [], alts := [], laidByText := true, laidKinds := [.data, .data, .widerDeep, .widerDeep, .data, .data, .data, .data, .data, .sentinel, .sentinel, .pinned, .pinned], laidTests := true, laidLooks := .later }
def FnNewTableLastWriteWinsUptoCardSaid : Prop := Claim7.holds Tryz.pinned (.plain (OpenSpec.upto fnNewTableLastWriteWinsSpec)) fnNewTableLastWriteWinsUptoCard

/-- THE SECOND FORM's CARD OF 'n005_92.FnCreateTableCapacityIsOnlyAHint'. -/
def fnCreateTableCapacityIsOnlyAHintUptoCard : Claim7 := { stood := { row := fnCreateTableCapacityIsOnlyAHintUptoRow, standIns := [], harness := (true, "4e0c84757922cfba46f17ddc4397046440d7d38257913f381a4c51fa7977e13f"), looks := true }, kinds := [], alts := [], laidByText := true, laidKinds := [.data, .data, .widerDeep, .widerDeep, .data, .data, .data, .data, .data, .sentinel, .sentinel, .pinned, .pinned], laidTests := true, laidLooks := .later }
def FnCreateTableCapacityIsOnlyAHintUptoCardSaid : Prop := Claim7.holds Tryz.pinned (.plain (OpenSpec.upto fnCreateTableCapacityIsOnlyAHintSpec)) fnCreateTableCapacityIsOnlyAHintUptoCard
end Rows
end Go.Proofs.YtbgolkdhcgjfkaaGreatDoor
