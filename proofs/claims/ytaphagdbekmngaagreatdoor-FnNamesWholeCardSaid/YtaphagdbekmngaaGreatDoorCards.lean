/-
  DERIVED. GIVEN WITH THE SEED: THE CARDS: each row of YtaphagdbekmngaaGreatDoorRows.lean that lists a variable, with what it lists TIED to the program's text (the seventh form; the later family's looks); each row that meets fmt, with fmt's text TOLD by the authors' own Lean function (tested against real Go, not proved from fmt's source: count such statements apart). THE CARD IS WHAT COUNTS. Prove the row's statement (the work); the ties are given (YtaphagdbekmngaaGreatDoorTie.lean); close each card by the builder's one call (the guide's Derived/Test/ToyasCard.lean, 'card_holds'). Laid BY PROGRAM, IN A SANDBOX (cutbox-door.mjs). By AI agents, Wed Nov 11 2026. No macro, syntax, notation, axiom, sorry.
-/
import Derived.Test.YtaphagdbekmngaaGreatDoorRows
import GoSem.ClaimSeven
namespace Go.Proofs.YtaphagdbekmngaaGreatDoor
namespace Rows

/-- THE TIED CARD OF 'laws.FnNamesWhole'. -/
def fnNamesWholeCard : Claim7 := { stood := { row := fnNamesWholeRow, standIns := [], harness := (true, "337fdd3ebee1b75c657a60d14c75f695889790c8a7d61ca1c9438eeadafd8128"), looks := true }, kinds := [], alts := [], laidByText := true, laidKinds := [.data, .data, .data], laidTests := true, laidLooks := .later }
def FnNamesWholeCardSaid : Prop := Claim7.holds Tryz.pinned (.plain (OpenSpec.ofChange fnNamesWholeSpec)) fnNamesWholeCard

/-- THE SECOND FORM's CARD OF 'laws.FnNamesWhole'. -/
def fnNamesWholeUptoCard : Claim7 := { stood := { row := fnNamesWholeUptoRow, standIns := [], harness := (true, "337fdd3ebee1b75c657a60d14c75f695889790c8a7d61ca1c9438eeadafd8128"), looks := true }, kinds := [], alts := [], laidByText := true, laidKinds := [.data, .data, .data], laidTests := true, laidLooks := .later }
def FnNamesWholeUptoCardSaid : Prop := Claim7.holds Tryz.pinned (.plain (OpenSpec.upto fnNamesWholeSpec)) fnNamesWholeUptoCard
end Rows
end Go.Proofs.YtaphagdbekmngaaGreatDoor
