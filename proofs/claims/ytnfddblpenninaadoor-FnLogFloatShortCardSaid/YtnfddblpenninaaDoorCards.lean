/-
  DERIVED. GIVEN WITH THE SEED: THE CARDS: each row of YtnfddblpenninaaDoorRows.lean that lists a variable, with what it lists TIED to the program's text (the seventh form; the later family's looks); each row that meets fmt, with fmt's text TOLD by the authors' own Lean function (tested against real Go, not proved from fmt's source: count such statements apart). THE CARD IS WHAT COUNTS. Prove the row's statement (the work); the ties are given (YtnfddblpenninaaDoorTie.lean); close each card by the builder's one call (the guide's Derived/Test/ToyasCard.lean, 'card_holds'). Laid BY PROGRAM, IN A SANDBOX (cutbox-door.mjs). By AI agents, Wed Nov 11 2026. No macro, syntax, notation, axiom, sorry.
-/
import Derived.Test.YtnfddblpenninaaDoorRows
import GoSem.ClaimSeven
namespace Go.Proofs.YtnfddblpenninaaDoor
namespace Rows

/-- THE TIED CARD OF 'laws.FnLogFixed'. -/
def fnLogFixedCard : Claim7 := { stood := { row := fnLogFixedRow, standIns := [], harness := (true, "cb9d0ff3b1084c13dda5fabf8b91d7f44ddc25e679bc94a10ddc0efe4cc0cfe5"), looks := true }, kinds := [], alts := [], laidByText := true, laidKinds := [.data, .data, .data, .data, .sentinel, .sentinel, .pinned, .pinned], laidTests := true, laidLooks := .later }
def FnLogFixedCardSaid : Prop := Claim7.holds Tryd.pinned (.plain (OpenSpec.ofChange fnLogFixedSpec)) fnLogFixedCard

/-- THE TIED CARD OF 'laws.FnLogFloatShort'. -/
def fnLogFloatShortCard : Claim7 := { stood := { row := fnLogFloatShortRow, standIns := [], harness := (true, "cb9d0ff3b1084c13dda5fabf8b91d7f44ddc25e679bc94a10ddc0efe4cc0cfe5"), looks := true }, kinds := [], alts := [], laidByText := true, laidKinds := [.data, .data, .data, .data, .sentinel, .sentinel, .pinned, .pinned], laidTests := true, laidLooks := .later }
def FnLogFloatShortCardSaid : Prop := Claim7.holds Tryd.pinned (.plain (OpenSpec.ofChange fnLogFloatShortSpec)) fnLogFloatShortCard

/-- THE SECOND FORM's CARD OF 'laws.FnLogFixed'. -/
def fnLogFixedUptoCard : Claim7 := { stood := { row := fnLogFixedUptoRow, standIns := [], harness := (true, "cb9d0ff3b1084c13dda5fabf8b91d7f44ddc25e679bc94a10ddc0efe4cc0cfe5"), looks := true }, kinds := [], alts := [], laidByText := true, laidKinds := [.data, .data, .data, .data, .sentinel, .sentinel, .pinned, .pinned], laidTests := true, laidLooks := .later }
def FnLogFixedUptoCardSaid : Prop := Claim7.holds Tryd.pinned (.plain (OpenSpec.upto fnLogFixedSpec)) fnLogFixedUptoCard

/-- THE SECOND FORM's CARD OF 'laws.FnLogFloatShort'. -/
def fnLogFloatShortUptoCard : Claim7 := { stood := { row := fnLogFloatShortUptoRow, standIns := [], harness := (true, "cb9d0ff3b1084c13dda5fabf8b91d7f44ddc25e679bc94a10ddc0efe4cc0cfe5"), looks := true }, kinds := [], alts := [], laidByText := true, laidKinds := [.data, .data, .data, .data, .sentinel, .sentinel, .pinned, .pinned], laidTests := true, laidLooks := .later }
def FnLogFloatShortUptoCardSaid : Prop := Claim7.holds Tryd.pinned (.plain (OpenSpec.upto fnLogFloatShortSpec)) fnLogFloatShortUptoCard
end Rows
end Go.Proofs.YtnfddblpenninaaDoor
