/-
  DERIVED. GIVEN WITH THE SEED: THE CARDS: each row of YtpenbgiobeebiaaGreatDoorRows.lean that lists a variable, with what it lists TIED to the program's text (the seventh form; the later family's looks); each row that meets fmt, with fmt's text TOLD by the authors' own Lean function (tested against real Go, not proved from fmt's source: count such statements apart). THE CARD IS WHAT COUNTS. Prove the row's statement (the work); the ties are given (YtpenbgiobeebiaaGreatDoorTie.lean); close each card by the builder's one call (the guide's Derived/Test/ToyasCard.lean, 'card_holds'). Laid BY PROGRAM, IN A SANDBOX (cutbox-door.mjs). By AI agents, Wed Nov 11 2026. No macro, syntax, notation, axiom, sorry.
-/
import Derived.Test.YtpenbgiobeebiaaGreatDoorRows
import GoSem.ClaimSeven
namespace Go.Proofs.YtpenbgiobeebiaaGreatDoor
namespace Rows

/-- THE TIED CARD OF 'laws.FnLogPassOrder'. -/
def fnLogPassOrderCard : Claim7 := { stood := { row := fnLogPassOrderRow, standIns := [], harness := (true, "5329bc6ce919b8f1a2702bcd96467f0bbe6f502a5b75835e826e10d42e89cc34"), looks := true }, kinds := [], alts := [], laidByText := true, laidKinds := [.data, .data, .data, .sentinel, .sentinel], laidTests := true, laidLooks := .later }
def FnLogPassOrderCardSaid : Prop := Claim7.holds Tryz.pinned (.plain (OpenSpec.ofChange fnLogPassOrderSpec)) fnLogPassOrderCard

/-- THE SECOND FORM's CARD OF 'laws.FnLogPassOrder'. -/
def fnLogPassOrderUptoCard : Claim7 := { stood := { row := fnLogPassOrderUptoRow, standIns := [], harness := (true, "5329bc6ce919b8f1a2702bcd96467f0bbe6f502a5b75835e826e10d42e89cc34"), looks := true }, kinds := [], alts := [], laidByText := true, laidKinds := [.data, .data, .data, .sentinel, .sentinel], laidTests := true, laidLooks := .later }
def FnLogPassOrderUptoCardSaid : Prop := Claim7.holds Tryz.pinned (.plain (OpenSpec.upto fnLogPassOrderSpec)) fnLogPassOrderUptoCard
end Rows
end Go.Proofs.YtpenbgiobeebiaaGreatDoor
