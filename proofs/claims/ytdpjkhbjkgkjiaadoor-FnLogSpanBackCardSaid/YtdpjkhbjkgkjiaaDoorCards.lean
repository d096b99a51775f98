/-
  DERIVED. GIVEN WITH THE SEED: THE CARDS: each row of YtdpjkhbjkgkjiaaDoorRows.lean that lists a variable, with what it lists TIED to the program's text (the seventh form; the later family's looks); each row that meets fmt, with fmt's text TOLD by the authors' own Lean function (tested against real Go, not proved from fmt's source: count such statements apart). THE CARD IS WHAT COUNTS. Prove the row's statement (the work); the ties are given (YtdpjkhbjkgkjiaaDoorTie.lean); close each card by the builder's one call (the guide's Derived/Test/ToyasCard.lean, 'card_holds'). Laid BY PROGRAM, IN A SANDBOX (cutbox-door.mjs). By AI agents, Wed Nov 11 2026. No macro, syntax, notation, axiom, sorry.
-/
import Derived.Test.YtdpjkhbjkgkjiaaDoorRows
import GoSem.ClaimSeven
namespace Go.Proofs.YtdpjkhbjkgkjiaaDoor
namespace Rows

/-- THE TIED CARD OF 'laws.FnLogParse'. -/
def fnLogParseCard : Claim7 := { stood := { row := fnLogParseRow, standIns := [], harness := (true, "6ac61154d966f7cd3ca1c548a83322b1afa541f0e18537a776645f8137991906"), looks := true }, kinds := [], alts := [], laidByText := true, laidKinds := [.data, .data, .data, .sentinel, .sentinel], laidTests := true, laidLooks := .later }
def FnLogParseCardSaid : Prop := Claim7.holds Tryd.pinned (.plain (OpenSpec.ofChange fnLogParseSpec)) fnLogParseCard

/-- THE TIED CARD OF 'laws.FnLogBurst'. -/
def fnLogBurstCard : Claim7 := { stood := { row := fnLogBurstRow, standIns := [], harness := (true, "6ac61154d966f7cd3ca1c548a83322b1afa541f0e18537a776645f8137991906"), looks := true }, kinds := [], alts := [], laidByText := true, laidKinds := [.data, .data, .data, .sentinel, .sentinel], laidTests := true, laidLooks := .later }
def FnLogBurstCardSaid : Prop := Claim7.holds Tryd.pinned (.plain (OpenSpec.ofChange fnLogBurstSpec)) fnLogBurstCard

/-- THE TIED CARD OF 'laws.FnLogSpanBack'. -/
def fnLogSpanBackCard : Claim7 := { stood := { row := fnLogSpanBackRow, standIns := [], harness := (true, "6ac61154d966f7cd3ca1c548a83322b1afa541f0e18537a776645f8137991906"), looks := true }, kinds := [], alts := [], laidByText := true, laidKinds := [.data, .data, .data, .sentinel, .sentinel], laidTests := true, laidLooks := .later }
def FnLogSpanBackCardSaid : Prop := Claim7.holds Tryd.pinned (.plain (OpenSpec.ofChange fnLogSpanBackSpec)) fnLogSpanBackCard

/-- THE SECOND FORM's CARD OF 'laws.FnLogParse'. -/
def fnLogParseUptoCard : Claim7 := { stood := { row := fnLogParseUptoRow, standIns := [], harness := (true, "6ac61154d966f7cd3ca1c548a83322b1afa541f0e18537a776645f8137991906"), looks := true }, kinds := [], alts := [], laidByText := true, laidKinds := [.data, .data, .data, .sentinel, .sentinel], laidTests := true, laidLooks := .later }
def FnLogParseUptoCardSaid : Prop := Claim7.holds Tryd.pinned (.plain (OpenSpec.upto fnLogParseSpec)) fnLogParseUptoCard

/-- THE SECOND FORM's CARD OF 'laws.FnLogBurst'. -/
def fnLogBurstUptoCard : Claim7 := { stood := { row := fnLogBurstUptoRow, standIns := [], harness := (true, "6ac61154d966f7cd3ca1c548a83322b1afa541f0e18537a776645f8137991906"), looks := true }, kinds := [], alts := [], laidByText := true, laidKinds := [.data, .data, .data, .sentinel, .sentinel], laidTests := true, laidLooks := .later }
def FnLogBurstUptoCardSaid : Prop := Claim7.holds Tryd.pinned (.plain (OpenSpec.upto fnLogBurstSpec)) fnLogBurstUptoCard

/-- THE SECOND FORM's CARD OF 'laws.FnLogSpanBack'. -/
def fnLogSpanBackUptoCard : Claim7 := { stood := { row := fnLogSpanBackUptoRow, standIns := [], harness := (true, "6ac61154d966f7cd3ca1c548a83322b1afa541f0e18537a776645f8137991906"), looks := true }, kinds := [], alts := [], laidByText := true, laidKinds := [.data, .data, .data, .sentinel, .sentinel], laidTests := true, laidLooks := .later }
def FnLogSpanBackUptoCardSaid : Prop := Claim7.holds Tryd.pinned (.plain (OpenSpec.upto fnLogSpanBackSpec)) fnLogSpanBackUptoCard
end Rows
end Go.Proofs.YtdpjkhbjkgkjiaaDoor
