/-
  DERIVED. GIVEN WITH THE SEED: THE CARDS: each row of YtebadfmnmhmfeaaGreatDoorRows.lean that lists a variable, with what it lists TIED to the program's text (the seventh form; the later family's looks); each row that meets fmt, with fmt's text TOLD by the authors' own Lean function (tested against real Go, not proved from fmt's source: count such statements apart). THE CARD IS WHAT COUNTS. Prove the row's statement (the work); the ties are given (YtebadfmnmhmfeaaGreatDoorTie.lean); close each card by the builder's one call (the guide's Derived/Test/ToyasCard.lean, 'card_holds'). Laid BY PROGRAM, IN A SANDBOX (cutbox-door.mjs). By AI agents, Wed Nov 11 2026. No macro, syntax, notation, axiom, sorry.
-/
import Derived.Test.YtebadfmnmhmfeaaGreatDoorRows
import GoSem.ClaimSeven
namespace Go.Proofs.YtebadfmnmhmfeaaGreatDoor
namespace Rows

/-- THE TIED CARD OF 'laws.FnPackParsePlain'. -/
def fnPackParsePlainCard : Claim7 := { stood := { row := fnPackParsePlainRow, standIns := [], harness := (true, "25a2a69c321c839a8afb19270fd4655bac9ab937fdfb678e2fc88740af3fe313"), looks := true }, kinds := [], alts := [], laidByText := true, laidKinds := [.data, .data, .data, .sentinel, .sentinel, .sentinel, .sentinel, .sentinel, .sentinel, .sentinel, .sentinel, .sentinel, .sentinel, .sentinel, .data, .sentinel, .sentinel, .sentinel, .sentinel, .sentinel, .sentinel, .sentinel, .sentinel, .sentinel, .data, .data, .sentinel, .sentinel, .sentinel, .sentinel, .sentinel, .sentinel], laidTests := true, laidLooks := .later }
def FnPackParsePlainCardSaid : Prop := Claim7.holds Tryz.pinned (.plain (OpenSpec.ofChange fnPackParsePlainSpec)) fnPackParsePlainCard

/-- THE SECOND FORM's CARD OF 'laws.FnPackParsePlain'. -/
def fnPackParsePlainUptoCard : Claim7 := { stood := { row := fnPackParsePlainUptoRow, standIns := [], harness := (true, "25a2a69c321c839a8afb19270fd4655bac9ab937fdfb678e2fc88740af3fe313"), looks := true }, kinds := [], alts := [], laidByText := true, laidKinds := [.data, .data, .data, .sentinel, .sentinel, .sentinel, .sentinel, .sentinel, .sentinel, .sentinel, .sentinel, .sentinel, .sentinel, .sentinel, .data, .sentinel, .sentinel, .sentinel, .sentinel, .sentinel, .sentinel, .sentinel, .sentinel, .sentinel, .data, .data, .sentinel, .sentinel, .sentinel, .sentinel, .sentinel, .sentinel], laidTests := true, laidLooks := .later }
def FnPackParsePlainUptoCardSaid : Prop := Claim7.holds Tryz.pinned (.plain (OpenSpec.upto fnPackParsePlainSpec)) fnPackParsePlainUptoCard
end Rows
end Go.Proofs.YtebadfmnmhmfeaaGreatDoor
