/-
  DERIVED. GIVEN WITH THE SEED: THE CARDS: each row of YtckdcceglmlinaaDoorRows.lean that lists a variable, with what it lists TIED to the program's text (the seventh form; the later family's looks); each row that meets fmt, with fmt's text TOLD by the authors' own Lean function (tested against real Go, not proved from fmt's source: count such statements apart). THE CARD IS WHAT COUNTS. Prove the row's statement (the work); the ties are given (YtckdcceglmlinaaDoorTie.lean); close each card by the builder's one call (the guide's Derived/Test/ToyasCard.lean, 'card_holds'). Laid BY PROGRAM, IN A SANDBOX (cutbox-door.mjs). By AI agents, Wed Nov 11 2026. No macro, syntax, notation, axiom, sorry.
-/
import Derived.Test.YtckdcceglmlinaaDoorRows
import GoSem.ClaimSeven
namespace Go.Proofs.YtckdcceglmlinaaDoor
namespace Rows

/-- THE TIED CARD OF 'laws.FnBits'. -/
def fnBitsCard : Claim7 := { stood := { row := fnBitsRow, standIns := [], harness := (true, "d580715365c67f9867efd4b1fb54c6004103e697290a985c8e7659d87c79f7f5"), looks := true }, kinds := [], alts := [], laidByText := true, laidKinds := [.data, .data, .data], laidTests := true, laidLooks := .later }
def FnBitsCardSaid : Prop := Claim7.holds Tryd.pinned (.plain (OpenSpec.ofChange fnBitsSpec)) fnBitsCard

/-- THE TIED CARD OF 'laws.FnOrBits'. -/
def fnOrBitsCard : Claim7 := { stood := { row := fnOrBitsRow, standIns := [], harness := (true, "d580715365c67f9867efd4b1fb54c6004103e697290a985c8e7659d87c79f7f5"), looks := true }, kinds := [], alts := [], laidByText := true, laidKinds := [.data, .data, .data], laidTests := true, laidLooks := .later }
def FnOrBitsCardSaid : Prop := Claim7.holds Tryd.pinned (.plain (OpenSpec.ofChange fnOrBitsSpec)) fnOrBitsCard

/-- THE SECOND FORM's CARD OF 'laws.FnBits'. -/
def fnBitsUptoCard : Claim7 := { stood := { row := fnBitsUptoRow, standIns := [], harness := (true, "d580715365c67f9867efd4b1fb54c6004103e697290a985c8e7659d87c79f7f5"), looks := true }, kinds := [], alts := [], laidByText := true, laidKinds := [.data, .data, .data], laidTests := true, laidLooks := .later }
def FnBitsUptoCardSaid : Prop := Claim7.holds Tryd.pinned (.plain (OpenSpec.upto fnBitsSpec)) fnBitsUptoCard

/-- THE SECOND FORM's CARD OF 'laws.FnOrBits'. -/
def fnOrBitsUptoCard : Claim7 := { stood := { row := fnOrBitsUptoRow, standIns := [], harness := (true, "d580715365c67f9867efd4b1fb54c6004103e697290a985c8e7659d87c79f7f5"), looks := true }, kinds := [], alts := [], laidByText := true, laidKinds := [.data, .data, .data], laidTests := true, laidLooks := .later }
def FnOrBitsUptoCardSaid : Prop := Claim7.holds Tryd.pinned (.plain (OpenSpec.upto fnOrBitsSpec)) fnOrBitsUptoCard
end Rows
end Go.Proofs.YtckdcceglmlinaaDoor
