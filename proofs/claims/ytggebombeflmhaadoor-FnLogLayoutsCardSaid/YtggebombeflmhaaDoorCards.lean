/-
  DERIVED. GIVEN WITH THE SEED: THE CARDS: each row of YtggebombeflmhaaDoorRows.lean that lists a variable, with what it lists TIED to the program's text (the seventh form; the later family's looks); each row that meets fmt, with fmt's text TOLD by the authors' own Lean function (tested against real Go, not proved from fmt's source: count such statements apart). THE CARD IS WHAT COUNTS. Prove the row's statement (the work); the ties are given (YtggebombeflmhaaDoorTie.lean); close each card by the builder's one call (the guide's Derived/Test/ToyasCard.lean, 'card_holds'). Laid BY PROGRAM, IN A SANDBOX (cutbox-door.mjs). By AI agents, Wed Nov 11 2026. No macro, syntax, notation, axiom, sorry.
-/
import Derived.Test.YtggebombeflmhaaDoorRows
import GoSem.ClaimSeven
namespace Go.Proofs.YtggebombeflmhaaDoor
namespace Rows

/-- THE TIED CARD OF 'laws.FnLogLayouts'. -/
def fnLogLayoutsCard : Claim7 := { stood := { row := fnLogLayoutsRow, standIns := [], harness := (true, "c3d60f872aefdb2b3a4eb9626f83deab0b38ebbda9b00a4453c21ddb61a34369"), looks := true }, kinds := [], alts := [], laidByText := true, laidKinds := [.data, .data, .data, .data, .data, .data, .sentinel, .sentinel], laidTests := true, laidLooks := .later }
def FnLogLayoutsCardSaid : Prop := Claim7.holds Tryd.pinned (.plain (OpenSpec.ofChange fnLogLayoutsSpec)) fnLogLayoutsCard

/-- THE SECOND FORM's CARD OF 'laws.FnLogLayouts'. -/
def fnLogLayoutsUptoCard : Claim7 := { stood := { row := fnLogLayoutsUptoRow, standIns := [], harness := (true, "c3d60f872aefdb2b3a4eb9626f83deab0b38ebbda9b00a4453c21ddb61a34369"), looks := true }, kinds := [], alts := [], laidByText := true, laidKinds := [.data, .data, .data, .data, .data, .data, .sentinel, .sentinel], laidTests := true, laidLooks := .later }
def FnLogLayoutsUptoCardSaid : Prop := Claim7.holds Tryd.pinned (.plain (OpenSpec.upto fnLogLayoutsSpec)) fnLogLayoutsUptoCard
end Rows
end Go.Proofs.YtggebombeflmhaaDoor
