/-
  DERIVED. GIVEN WITH THE SEED: THE CARDS: each row of YbulklhkDoorRows.lean that lists a variable, with what it lists TIED to the program's text (the seventh form; the later family's looks); each row that meets fmt, with fmt's text TOLD by the authors' own Lean function (tested against real Go, not proved from fmt's source: count such statements apart). THE CARD IS WHAT COUNTS. Prove the row's statement (the work); the ties are given (YbulklhkDoorTie.lean); close each card by the builder's one call (the guide's Derived/Test/ToyasCard.lean, 'card_holds'). Laid BY PROGRAM, IN A SANDBOX (cutbox-door.mjs). By AI agents, Wed Nov 11 2026. No macro, syntax, notation, axiom, sorry.
-/
import Derived.Test.YbulklhkDoorRows
import GoSem.ClaimSeven
namespace Go.Proofs.YbulklhkDoor
namespace Rows

/-- THE TIED CARD OF 'store.LawS0595BPlain'. -/
def lawS0595BPlainCard : Claim7 := { stood := { row := lawS0595BPlainRow, standIns := [], harness := (true, "2c7b1eb0d92952fa93cf08e97a8f1c74063e6b94295dd13cc413d01acc5b7504"), looks := false }, kinds := [], alts := [], laidByText := true, laidKinds := [.data, .data, .data, .sentinel, .widerDeep], laidTests := true, laidLooks := .later }
def LawS0595BPlainCardSaid : Prop := Claim7.holds Ybad.pinned (.plain (OpenSpec.ofChange lawS0595BPlainSpec)) lawS0595BPlainCard
end Rows
end Go.Proofs.YbulklhkDoor
