/-
  DERIVED. GIVEN WITH THE SEED: THE CARDS: each row of YtdnomaafjmfdkaaGreatDoorRows.lean that lists a variable, with what it lists TIED to the program's text (the seventh form; the later family's looks); each row that meets fmt, with fmt's text TOLD by the authors' own Lean function (tested against real Go, not proved from fmt's source: count such statements apart). THE CARD IS WHAT COUNTS. Prove the row's statement (the work); the ties are given (YtdnomaafjmfdkaaGreatDoorTie.lean); close each card by the builder's one call (the guide's Derived/Test/ToyasCard.lean, 'card_holds'). Laid BY PROGRAM, IN A SANDBOX (cutbox-door.mjs). By AI agents, Wed Nov 11 2026. No macro, syntax, notation, axiom, sorry.
-/
import Derived.Test.YtdnomaafjmfdkaaGreatDoorRows
import GoSem.ClaimSeven
namespace Go.Proofs.YtdnomaafjmfdkaaGreatDoor
namespace Rows

/-- THE TIED CARD OF 'n005_28.FnRegistryPushLifo'. -/
def fnRegistryPushLifoCard : Claim7 := { stood := { row := fnRegistryPushLifoRow, standIns := [], harness := (true, "c64c69bef222d083aba4bee5d1c65d6301b90ac9e7cfcef7684faaad8f684168"), looks := true }, kinds := [], alts := [], laidByText := true, laidKinds := [.data, .data, .widerDeep, .widerDeep, .data, .data, .data, .data, .data, .sentinel, .sentinel, .pinned, .pinned], laidTests := true, laidLooks := .later }
def FnRegistryPushLifoCardSaid : Prop := Claim7.holds Tryz.pinned (.plain (OpenSpec.ofChange fnRegistryPushLifoSpec)) fnRegistryPushLifoCard

/-- THE TIED CARD OF 'n005_28.FnRegistryTopWithinCapacity'. -/
def fnRegistryTopWithinCapacityCard : Claim7 := { stood := { row := fnRegistryTopWithinCapacityRow, standIns := [], harness := (true, "c64c69bef222d083aba4bee5d1c65d6301b90ac9e7cfcef7684faaad8f684168"), looks := true }, kinds := [], alts := [], laidByText := true, laidKinds := [.data, .data, .widerDeep, .widerDeep, .data, .data, .data, .data, .data, .sentinel, .sentinel, .pinned, .pinned], laidTests := true, laidLooks := .later }
def FnRegistryTopWithinCapacityCardSaid : Prop := Claim7.holds Tryz.pinned (.plain (OpenSpec.ofChange fnRegistryTopWithinCapacitySpec)) fnRegistryTopWithinCapacityCard

/-- THE TIED CARD OF 'n005_28.FnRegistrySetTopTwiceExact'. -/
def fnRegistrySetTopTwiceExactCard : Claim7 := { stood := { row := fnRegistrySetTopTwiceExactRow, standIns := [], harness := (true, "c64c69bef222d083aba4bee5d1c65d6301b90ac9e7cfcef7684faaad8f684168"), looks := true }, kinds := [], alts := [], laidByText := true, laidKinds := [.data, .data, .widerDeep, .widerDeep, .data, .data, .data, .data, .data, .sentinel, .sentinel, .pinned, .pinned], laidTests := true, laidLooks := .later }
def FnRegistrySetTopTwiceExactCardSaid : Prop := Claim7.holds Tryz.pinned (.plain (OpenSpec.ofChange fnRegistrySetTopTwiceExactSpec)) fnRegistrySetTopTwiceExactCard

/-- THE TIED CARD OF 'n005_28.FnRegistryPushPopRoundTrip'. -/
def fnRegistryPushPopRoundTripCard : Claim7 := { stood := { row := fnRegistryPushPopRoundTripRow, standIns := [], harness := (true, "c64c69bef222d083aba4bee5d1c65d6301b90ac9e7cfcef7684faaad8f684168"), looks := true }, kinds := [], alts := [], laidByText := true, laidKinds := [.data, .data, .widerDeep, .widerDeep, .data, .data, .data, .data, .data, .sentinel, .sentinel, .pinned, .pinned], laidTests := true, laidLooks := .later }
def FnRegistryPushPopRoundTripCardSaid : Prop := Claim7.holds Tryz.pinned (.plain (OpenSpec.ofChange fnRegistryPushPopRoundTripSpec)) fnRegistryPushPopRoundTripCard

/-- THE TIED CARD OF 'n005_28.FnRegistryScriptMatchesModel'. -/
def fnRegistryScriptMatchesModelCard : Claim7 := { stood := { row := fnRegistryScriptMatchesModelRow, standIns := [], harness := (true, "c64c69bef222d083aba4bee5d1c65d6301b90ac9e7cfcef7684faaad8f684168"), looks := true }, kinds := [], alts := [], laidByText := true, laidKinds := [.data, .data, .widerDeep, .widerDeep, .data, .data, .data, .data, .data, .sentinel, .sentinel, .pinned, .pinned], laidTests := true, laidLooks := .later }
def FnRegistryScriptMatchesModelCardSaid : Prop := Claim7.holds Tryz.pinned (.plain (OpenSpec.ofChange fnRegistryScriptMatchesModelSpec)) fnRegistryScriptMatchesModelCard

/-- THE SECOND FORM's CARD OF 'n005_28.FnRegistryPushLifo'. -/
def fnRegistryPushLifoUptoCard : Claim7 := { stood := { row := fnRegistryPushLifoUptoRow, standIns := [], harness := (true, "c64c69bef222d083aba4bee5d1c65d6301b90ac9e7cfcef7684faaad8f684168"), looks := true }, kinds := [], alts := [], laidByText := true, laidKinds := [.data, .data, .widerDeep, .widerDeep, .data, .data, .data, .data, .data, .sentinel, .sentinel, .pinned, .pinned], laidTests := true, laidLooks := .later }
def FnRegistryPushLifoUptoCardSaid : Prop := Claim7.holds Tryz.pinned (.plain (OpenSpec.upto fnRegistryPushLifoSpec)) fnRegistryPushLifoUptoCard

/-- THE SECOND FORM's CARD OF 'n005_28.FnRegistryTopWithinCapacity'. -/
def fnRegistryTopWithinCapacityUptoCard : Claim7 := { stood := { row := fnRegistryTopWithinCapacityUptoRow, standIns := [], harness := (true, "c64c69bef222d083aba4bee5d1c65d6301b90ac9e7cfcef7684faaad8f684168"), looks := true }, kinds := [], alts := [], laidByText := true, laidKinds := [.data, .data, .widerDeep, .widerDeep, .data, .data, .data, .data, .data, .sentinel, .sentinel, .pinned, .pinned], laidTests := true, laidLooks := .later }
def FnRegistryTopWithinCapacityUptoCardSaid : Prop := Claim7.holds Tryz.pinned (.plain (OpenSpec.upto fnRegistryTopWithinCapacitySpec)) fnRegistryTopWithinCapacityUptoCard

/-- THE SECOND FORM's CARD OF 'n005_28.FnRegistrySetTopTwiceExact'. -/
def fnRegistrySetTopTwiceExactUptoCard : Claim7 := { stood := { row := fnRegistrySetTopTwiceExactUptoRow, standIns := [], harness := (true, "c64c69bef222d083aba4bee5d1c65d6301b90ac9e7cfcef7684faaad8f684168"), looks := true }, kinds := [], alts := [], laidByText := true, laidKinds := [.data, .data, .widerDeep, .widerDeep, .data, .data, .data, .data, .data, .sentinel, .sentinel, .pinned, .pinned], laidTests := true, laidLooks := .later }
def FnRegistrySetTopTwiceExactUptoCardSaid : Prop := Claim7.holds Tryz.pinned (.plain (OpenSpec.upto fnRegistrySetTopTwiceExactSpec)) fnRegistrySetTopTwiceExactUptoCard

/-- THE SECOND FORM's CARD OF 'n005_28.FnRegistryPushPopRoundTrip'. -/
def fnRegistryPushPopRoundTripUptoCard : Claim7 := { stood := { row := fnRegistryPushPopRoundTripUptoRow, standIns := [], harness := (true, "c64c69bef222d083aba4bee5d1c65d6301b90ac9e7cfcef7684faaad8f684168"), looks := true }, kinds := [], alts := [], laidByText := true, laidKinds := [.data, .data, .widerDeep, .widerDeep, .data, .data, .data, .data, .data, .sentinel, .sentinel, .pinned, .pinned], laidTests := true, laidLooks := .later }
def FnRegistryPushPopRoundTripUptoCardSaid : Prop := Claim7.holds Tryz.pinned (.plain (OpenSpec.upto fnRegistryPushPopRoundTripSpec)) fnRegistryPushPopRoundTripUptoCard

/-- THE SECOND FORM's CARD OF 'n005_28.FnRegistryScriptMatchesModel'. -/
def fnRegistryScriptMatchesModelUptoCard : Claim7 := { stood := { row := fnRegistryScriptMatchesModelUptoRow, standIns := [], harness := (true, "c64c69bef222d083aba4bee5d1c65d6301b90ac9e7cfcef7684faaad8f684168"), looks := true }, kinds := [], alts := [], laidByText := true, laidKinds := [.data, .data, .widerDeep, .widerDeep, .data, .data, .data, .data, .data, .sentinel, .sentinel, .pinned, .pinned], laidTests := true, laidLooks := .later }
def FnRegistryScriptMatchesModelUptoCardSaid : Prop := Claim7.holds Tryz.pinned (.plain (OpenSpec.upto fnRegistryScriptMatchesModelSpec)) fnRegistryScriptMatchesModelUptoCard
end Rows
end Go.Proofs.YtdnomaafjmfdkaaGreatDoor
