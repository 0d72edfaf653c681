/-
  DERIVED. GIVEN WITH THE SEED: THE CARDS: each row of YtjaibjdhfljmmaaDoorRows.lean that lists a variable, with what it lists TIED to the program's text (the seventh form; the later family's looks); each row that meets fmt, with fmt's text TOLD by the authors' own Lean function (tested against real Go, not proved from fmt's source: count such statements apart). THE CARD IS WHAT COUNTS. Prove the row's statement (the work); the ties are given (YtjaibjdhfljmmaaDoorTie.lean); close each card by the builder's one call (the guide's Derived/Test/ToyasCard.lean, 'card_holds'). Laid BY PROGRAM, IN A SANDBOX (cutbox-door.mjs). By AI agents, Wed Nov 11 2026. No macro, syntax, notation, axiom, sorry.
-/
import Derived.Test.YtjaibjdhfljmmaaDoorRows
import GoSem.ClaimSeven
namespace Go.Proofs.YtjaibjdhfljmmaaDoor
namespace Rows

/-- THE TIED CARD OF 'n005_114.FnAsNumberRefusesForeignByte'. -/
def fnAsNumberRefusesForeignByteCard : Claim7 := { stood := { row := fnAsNumberRefusesForeignByteRow, standIns := [], harness := (true, "2414c2f6bfad2beca3632759371715706faf16a69a91582ab87f43e669740b98"), looks := true }, kinds := [], alts := [], laidByText := true, laidKinds := [.data, .data, .widerDeep, .widerDeep, .data, .data, .data, .data, .data, .sentinel, .sentinel, .pinned, .pinned], laidTests := true, laidLooks := .later }
def FnAsNumberRefusesForeignByteCardSaid : Prop := Claim7.holds Tryd.pinned (.plain (OpenSpec.ofChange fnAsNumberRefusesForeignByteSpec)) fnAsNumberRefusesForeignByteCard

/-- THE TIED CARD OF 'n005_114.FnAsNumberReadsSignedIntegerNumeral'. -/
def fnAsNumberReadsSignedIntegerNumeralCard : Claim7 := { stood := { row := fnAsNumberReadsSignedIntegerNumeralRow, standIns := [], harness := (true, "2414c2f6bfad2beca3632759371715706faf16a69a91582ab87f43e669740b98"), looks := true }, kinds := [], alts := [], laidByText := true, laidKinds := [.data, .data, .widerDeep, .widerDeep, .data, .data, .data, .data, .data, .sentinel, .sentinel, .pinned, .pinned], laidTests := true, laidLooks := .later }
def FnAsNumberReadsSignedIntegerNumeralCardSaid : Prop := Claim7.holds Tryd.pinned (.plain (OpenSpec.ofChange fnAsNumberReadsSignedIntegerNumeralSpec)) fnAsNumberReadsSignedIntegerNumeralCard

/-- THE TIED CARD OF 'n005_89.FnLnumberValueNonNumeralIsNaN'. -/
def fnLnumberValueNonNumeralIsNaNCard : Claim7 := { stood := { row := fnLnumberValueNonNumeralIsNaNRow, standIns := [], harness := (true, "2414c2f6bfad2beca3632759371715706faf16a69a91582ab87f43e669740b98"), looks := true }, kinds := [], alts := [], laidByText := true, laidKinds := [.data, .data, .widerDeep, .widerDeep, .data, .data, .data, .data, .data, .sentinel, .sentinel, .pinned, .pinned], laidTests := true, laidLooks := .later }
def FnLnumberValueNonNumeralIsNaNCardSaid : Prop := Claim7.holds Tryd.pinned (.plain (OpenSpec.ofChange fnLnumberValueNonNumeralIsNaNSpec)) fnLnumberValueNonNumeralIsNaNCard

/-- THE TIED CARD OF 'n005_89.FnLnumberValueDecimalInteger'. -/
def fnLnumberValueDecimalIntegerCard : Claim7 := { stood := { row := fnLnumberValueDecimalIntegerRow, standIns := [], harness := (true, "2414c2f6bfad2beca3632759371715706faf16a69a91582ab87f43e669740b98"), looks := true }, kinds := [], alts := [], laidByText := true, laidKinds := [.data, .data, .widerDeep, .widerDeep, .data, .data, .data, .data, .data, .sentinel, .sentinel, .pinned, .pinned], laidTests := true, laidLooks := .later }
def FnLnumberValueDecimalIntegerCardSaid : Prop := Claim7.holds Tryd.pinned (.plain (OpenSpec.ofChange fnLnumberValueDecimalIntegerSpec)) fnLnumberValueDecimalIntegerCard

/-- THE SECOND FORM's CARD OF 'n005_114.FnAsNumberRefusesForeignByte'. -/
def fnAsNumberRefusesForeignByteUptoCard : Claim7 := { stood := { row := fnAsNumberRefusesForeignByteUptoRow, standIns := [], harness := (true, "2414c2f6bfad2beca3632759371715706faf16a69a91582ab87f43e669740b98"), looks := true }, kinds := [], alts := [], laidByText := true, laidKinds := [.data, .data, .widerDeep, .widerDeep, .data, .data, .data, .data, .data, .sentinel, .sentinel, .pinned, .pinned], laidTests := true, laidLooks := .later }
def FnAsNumberRefusesForeignByteUptoCardSaid : Prop := Claim7.holds Tryd.pinned (.plain (OpenSpec.upto fnAsNumberRefusesForeignByteSpec)) fnAsNumberRefusesForeignByteUptoCard

/-- THE SECOND FORM's CARD OF 'n005_114.FnAsNumberReadsSignedIntegerNumeral'. -/
def fnAsNumberReadsSignedIntegerNumeralUptoCard : Claim7 := { stood := { row := fnAsNumberReadsSignedIntegerNumeralUptoRow, standIns := [], harness := (true, "2414c2f6bfad2beca3632759371715706faf16a69a91582ab87f43e669740b98"), looks := true }, kinds := [], alts := [], laidByText := true, laidKinds := [.data, .data, .widerDeep, .widerDeep, .data, .data, .data, .data, .data, .sentinel, .sentinel, .pinned, .pinned], laidTests := true, laidLooks := .later }
def FnAsNumberReadsSignedIntegerNumeralUptoCardSaid : Prop := Claim7.holds Tryd.pinned (.plain (OpenSpec.upto fnAsNumberReadsSignedIntegerNumeralSpec)) fnAsNumberReadsSignedIntegerNumeralUptoCard

/-- THE SECOND FORM's CARD OF 'n005_89.FnLnumberValueNonNumeralIsNaN'. -/
def fnLnumberValueNonNumeralIsNaNUptoCard : Claim7 := { stood := { row := fnLnumberValueNonNumeralIsNaNUptoRow, standIns := [], harness := (true, "2414c2f6bfad2beca3632759371715706faf16a69a91582ab87f43e669740b98"), looks := true }, kinds := [], alts := [], laidByText := true, laidKinds := [.data, .data, .widerDeep, .widerDeep, .data, .data, .data, .data, .data, .sentinel, .sentinel, .pinned, .pinned], laidTests := true, laidLooks := .later }
def FnLnumberValueNonNumeralIsNaNUptoCardSaid : Prop := Claim7.holds Tryd.pinned (.plain (OpenSpec.upto fnLnumberValueNonNumeralIsNaNSpec)) fnLnumberValueNonNumeralIsNaNUptoCard

/-- THE SECOND FORM's CARD OF 'n005_89.FnLnumberValueDecimalInteger'. -/
def fnLnumberValueDecimalIntegerUptoCard : Claim7 := { stood := { row := fnLnumberValueDecimalIntegerUptoRow, standIns := [], harness := (true, "2414c2f6bfad2beca3632759371715706faf16a69a91582ab87f43e669740b98"), looks := true }, kinds := [], alts := [], laidByText := true, laidKinds := [.data, .data, .widerDeep, .widerDeep, .data, .data, .data, .data, .data, .sentinel, .sentinel, .pinned, .pinned], laidTests := true, laidLooks := .later }
def FnLnumberValueDecimalIntegerUptoCardSaid : Prop := Claim7.holds Tryd.pinned (.plain (OpenSpec.upto fnLnumberValueDecimalIntegerSpec)) fnLnumberValueDecimalIntegerUptoCard
end Rows
end Go.Proofs.YtjaibjdhfljmmaaDoor
