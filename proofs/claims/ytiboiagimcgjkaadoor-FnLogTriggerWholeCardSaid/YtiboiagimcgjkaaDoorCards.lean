/-
  DERIVED. GIVEN WITH THE SEED: THE CARDS: each row of YtiboiagimcgjkaaDoorRows.lean that lists a variable, with what it lists TIED to the program's text (the seventh form; the later family's looks); each row that meets fmt, with fmt's text TOLD by the authors' own Lean function (tested against real Go, not proved from fmt's source: count such statements apart). THE CARD IS WHAT COUNTS. Prove the row's statement (the work); the ties are given (YtiboiagimcgjkaaDoorTie.lean); close each card by the builder's one call (the guide's Derived/Test/ToyasCard.lean, 'card_holds'). Laid BY PROGRAM, IN A SANDBOX (cutbox-door.mjs). By AI agents, Wed Nov 11 2026. No macro, syntax, notation, axiom, sorry.
-/
import Derived.Test.YtiboiagimcgjkaaDoorRows
import GoSem.ClaimSeven
namespace Go.Proofs.YtiboiagimcgjkaaDoor
namespace Rows

/-- THE TIED CARD OF 'laws.FnLogMultiJoins'. -/
def fnLogMultiJoinsCard : Claim7 := { stood := { row := fnLogMultiJoinsRow, standIns := [], harness := (true, "fec0b9a6de9d0904bacc051c475537724f4eb3e42fe10d5074570ea5df5e5bba"), looks := true }, kinds := [], alts := [], laidByText := true, laidKinds := [.data, .data, .data, .sentinel, .sentinel], laidTests := true, laidLooks := .later }
def FnLogMultiJoinsCardSaid : Prop := Claim7.holds Tryd.pinned (.plain (OpenSpec.ofChange fnLogMultiJoinsSpec)) fnLogMultiJoinsCard

/-- THE TIED CARD OF 'laws.FnLogTriggerJoins'. -/
def fnLogTriggerJoinsCard : Claim7 := { stood := { row := fnLogTriggerJoinsRow, standIns := [], harness := (true, "fec0b9a6de9d0904bacc051c475537724f4eb3e42fe10d5074570ea5df5e5bba"), looks := true }, kinds := [], alts := [], laidByText := true, laidKinds := [.data, .data, .data, .sentinel, .sentinel, .sentinel], laidTests := true, laidLooks := .later }
def FnLogTriggerJoinsCardSaid : Prop := Claim7.holds Tryd.pinned (.plain (OpenSpec.ofChange fnLogTriggerJoinsSpec)) fnLogTriggerJoinsCard

/-- THE TIED CARD OF 'laws.FnLogTriggerWhole'. -/
def fnLogTriggerWholeCard : Claim7 := { stood := { row := fnLogTriggerWholeRow, standIns := [], harness := (true, "fec0b9a6de9d0904bacc051c475537724f4eb3e42fe10d5074570ea5df5e5bba"), looks := true }, kinds := [], alts := [], laidByText := true, laidKinds := [.data, .data, .data, .sentinel, .sentinel, .sentinel], laidTests := true, laidLooks := .later }
def FnLogTriggerWholeCardSaid : Prop := Claim7.holds Tryd.pinned (.plain (OpenSpec.ofChange fnLogTriggerWholeSpec)) fnLogTriggerWholeCard

/-- THE SECOND FORM's CARD OF 'laws.FnLogMultiJoins'. -/
def fnLogMultiJoinsUptoCard : Claim7 := { stood := { row := fnLogMultiJoinsUptoRow, standIns := [], harness := (true, "fec0b9a6de9d0904bacc051c475537724f4eb3e42fe10d5074570ea5df5e5bba"), looks := true }, kinds := [], alts := [], laidByText := true, laidKinds := [.data, .data, .data, .sentinel, .sentinel], laidTests := true, laidLooks := .later }
def FnLogMultiJoinsUptoCardSaid : Prop := Claim7.holds Tryd.pinned (.plain (OpenSpec.upto fnLogMultiJoinsSpec)) fnLogMultiJoinsUptoCard

/-- THE SECOND FORM's CARD OF 'laws.FnLogTriggerJoins'. -/
def fnLogTriggerJoinsUptoCard : Claim7 := { stood := { row := fnLogTriggerJoinsUptoRow, standIns := [], harness := (true, "fec0b9a6de9d0904bacc051c475537724f4eb3e42fe10d5074570ea5df5e5bba"), looks := true }, kinds := [], alts := [], laidByText := true, laidKinds := [.data, .data, .data, .sentinel, .sentinel, .sentinel], laidTests := true, laidLooks := .later }
def FnLogTriggerJoinsUptoCardSaid : Prop := Claim7.holds Tryd.pinned (.plain (OpenSpec.upto fnLogTriggerJoinsSpec)) fnLogTriggerJoinsUptoCard

/-- THE SECOND FORM's CARD OF 'laws.FnLogTriggerWhole'. -/
def fnLogTriggerWholeUptoCard : Claim7 := { stood := { row := fnLogTriggerWholeUptoRow, standIns := [], harness := (true, "fec0b9a6de9d0904bacc051c475537724f4eb3e42fe10d5074570ea5df5e5bba"), looks := true }, kinds := [], alts := [], laidByText := true, laidKinds := [.data, .data, .data, .sentinel, .sentinel, .sentinel], laidTests := true, laidLooks := .later }
def FnLogTriggerWholeUptoCardSaid : Prop := Claim7.holds Tryd.pinned (.plain (OpenSpec.upto fnLogTriggerWholeSpec)) fnLogTriggerWholeUptoCard
end Rows
end Go.Proofs.YtiboiagimcgjkaaDoor
