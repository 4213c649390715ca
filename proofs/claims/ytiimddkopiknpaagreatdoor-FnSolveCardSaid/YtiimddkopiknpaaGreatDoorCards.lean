/-
  DERIVED. GIVEN WITH THE SEED: THE CARDS: each row of YtiimddkopiknpaaGreatDoorRows.lean that lists a variable, with what it lists TIED to the program's text (the seventh form; the later family's looks); each row that meets fmt, with fmt's text TOLD by the authors' own Lean function (tested against real Go, not proved from fmt's source: count such statements apart). THE CARD IS WHAT COUNTS. Prove the row's statement (the work); the ties are given (YtiimddkopiknpaaGreatDoorTie.lean); close each card by the builder's one call (the guide's Derived/Test/ToyasCard.lean, 'card_holds'). Laid BY PROGRAM, IN A SANDBOX (cutbox-door.mjs). By AI agents, Wed Nov 11 2026. No macro, syntax, notation, axiom, sorry.
-/
import Derived.Test.YtiimddkopiknpaaGreatDoorRows
import GoSem.ClaimSeven
namespace Go.Proofs.YtiimddkopiknpaaGreatDoor
namespace Rows

/-- THE TIED CARD OF 'laws.FnSolve'. -/
def fnSolveCard : Claim7 := { stood := { row := fnSolveRow, standIns := [], harness := (true, "ddf7df6226233b89414af1d608a2df43c0991f5130029d146f0d939ecf89878e"), looks := false }, kinds := [], alts := [], laidByText := true, laidKinds := [.data, .data, .data], laidTests := true, laidLooks := .later }
def FnSolveCardSaid : Prop := Claim7.holds Tryz.pinned (.plain (OpenSpec.ofChange fnSolveSpec)) fnSolveCard

/-- THE SECOND FORM's CARD OF 'laws.FnSolve'. -/
def fnSolveUptoCard : Claim7 := { stood := { row := fnSolveUptoRow, standIns := [], harness := (true, "ddf7df6226233b89414af1d608a2df43c0991f5130029d146f0d939ecf89878e"), looks := false }, kinds := [], alts := [], laidByText := true, laidKinds := [.data, .data, .data], laidTests := true, laidLooks := .later }
def FnSolveUptoCardSaid : Prop := Claim7.holds Tryz.pinned (.plain (OpenSpec.upto fnSolveSpec)) fnSolveUptoCard
end Rows
end Go.Proofs.YtiimddkopiknpaaGreatDoor
