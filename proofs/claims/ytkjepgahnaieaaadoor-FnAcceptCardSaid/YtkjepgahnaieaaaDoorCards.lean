/-
  DERIVED. GIVEN WITH THE SEED: THE CARDS: each row of YtkjepgahnaieaaaDoorRows.lean that lists a variable, with what it lists TIED to the program's text (the seventh form; the later family's looks); each row that meets fmt, with fmt's text TOLD by the authors' own Lean function (tested against real Go, not proved from fmt's source: count such statements apart). THE CARD IS WHAT COUNTS. Prove the row's statement (the work); the ties are given (YtkjepgahnaieaaaDoorTie.lean); close each card by the builder's one call (the guide's Derived/Test/ToyasCard.lean, 'card_holds'). Laid BY PROGRAM, IN A SANDBOX (cutbox-door.mjs). By AI agents, Wed Nov 11 2026. No macro, syntax, notation, axiom, sorry.
-/
import Derived.Test.YtkjepgahnaieaaaDoorRows
import GoSem.ClaimSeven
namespace Go.Proofs.YtkjepgahnaieaaaDoor
namespace Rows

/-- THE TIED CARD OF 'laws.FnAccept'. -/
def fnAcceptCard : Claim7 := { stood := { row := fnAcceptRow, standIns := [], harness := (true, "a28cf8cf312b889a76e02514dc1801d1564ff26a75c46d476ad3143abfc74d5d"), looks := true }, kinds := [], alts := [], laidByText := true, laidKinds := [.data, .data, .widerDeep, .widerDeep, .data, .data, .data, .data, .data, .sentinel, .sentinel, .pinned, .pinned], laidTests := true, laidLooks := .later }
def FnAcceptCardSaid : Prop := Claim7.holds Tryd.pinned (.plain (OpenSpec.ofChange fnAcceptSpec)) fnAcceptCard

/-- THE SECOND FORM's CARD OF 'laws.FnAccept'. -/
def fnAcceptUptoCard : Claim7 := { stood := { row := fnAcceptUptoRow, standIns := [], harness := (true, "a28cf8cf312b889a76e02514dc1801d1564ff26a75c46d476ad3143abfc74d5d"), looks := true }, kinds := [], alts := [], laidByText := true, laidKinds := [.data, .data, .widerDeep, .widerDeep, .data, .data, .data, .data, .data, .sentinel, .sentinel, .pinned, .pinned], laidTests := true, laidLooks := .later }
def FnAcceptUptoCardSaid : Prop := Claim7.holds Tryd.pinned (.plain (OpenSpec.upto fnAcceptSpec)) fnAcceptUptoCard
end Rows
end Go.Proofs.YtkjepgahnaieaaaDoor
