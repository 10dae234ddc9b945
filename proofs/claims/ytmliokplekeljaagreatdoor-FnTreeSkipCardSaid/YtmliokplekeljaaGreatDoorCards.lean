/-
  DERIVED. GIVEN WITH THE SEED: THE CARDS: each row of YtmliokplekeljaaGreatDoorRows.lean that lists a variable, with what it lists TIED to the program's text (the seventh form; the later family's looks); each row that meets fmt, with fmt's text TOLD by the authors' own Lean function (tested against real Go, not proved from fmt's source: count such statements apart). THE CARD IS WHAT COUNTS. Prove the row's statement (the work); the ties are given (YtmliokplekeljaaGreatDoorTie.lean); close each card by the builder's one call (the guide's Derived/Test/ToyasCard.lean, 'card_holds'). Laid BY PROGRAM, IN A SANDBOX (cutbox-door.mjs). By AI agents, Wed Nov 11 2026. No macro, syntax, notation, axiom, sorry.
-/
import Derived.Test.YtmliokplekeljaaGreatDoorRows
import GoSem.ClaimSeven
namespace Go.Proofs.YtmliokplekeljaaGreatDoor
namespace Rows

/-- THE TIED CARD OF 'laws.FnTreeAgain'. -/
def fnTreeAgainCard : Claim7 := { stood := { row := fnTreeAgainRow, standIns := [], harness := (true, "25c1361555717adcb13bc9d0442d7c36fca6e4546545d2d892c54c0e88877768"), looks := true }, kinds := [], alts := [], laidByText := true, laidKinds := [.wider, .wider], laidTests := true, laidLooks := .later }
def FnTreeAgainCardSaid : Prop := Claim7.holds Tryz.pinned (.plain (OpenSpec.ofChange fnTreeAgainSpec)) fnTreeAgainCard

/-- THE TIED CARD OF 'laws.FnTreeAny'. -/
def fnTreeAnyCard : Claim7 := { stood := { row := fnTreeAnyRow, standIns := [], harness := (true, "25c1361555717adcb13bc9d0442d7c36fca6e4546545d2d892c54c0e88877768"), looks := true }, kinds := [], alts := [], laidByText := true, laidKinds := [.wider, .wider], laidTests := true, laidLooks := .later }
def FnTreeAnyCardSaid : Prop := Claim7.holds Tryz.pinned (.plain (OpenSpec.ofChange fnTreeAnySpec)) fnTreeAnyCard

/-- THE TIED CARD OF 'laws.FnTreeSkip'. -/
def fnTreeSkipCard : Claim7 := { stood := { row := fnTreeSkipRow, standIns := [], harness := (true, "25c1361555717adcb13bc9d0442d7c36fca6e4546545d2d892c54c0e88877768"), looks := true }, kinds := [], alts := [], laidByText := true, laidKinds := [.wider, .wider, .wider], laidTests := true, laidLooks := .later }
def FnTreeSkipCardSaid : Prop := Claim7.holds Tryz.pinned (.plain (OpenSpec.ofChange fnTreeSkipSpec)) fnTreeSkipCard

/-- THE SECOND FORM's CARD OF 'laws.FnTreeAgain'. -/
def fnTreeAgainUptoCard : Claim7 := { stood := { row := fnTreeAgainUptoRow, standIns := [], harness := (true, "25c1361555717adcb13bc9d0442d7c36fca6e4546545d2d892c54c0e88877768"), looks := true }, kinds := [], alts := [], laidByText := true, laidKinds := [.wider, .wider], laidTests := true, laidLooks := .later }
def FnTreeAgainUptoCardSaid : Prop := Claim7.holds Tryz.pinned (.plain (OpenSpec.upto fnTreeAgainSpec)) fnTreeAgainUptoCard

/-- THE SECOND FORM's CARD OF 'laws.FnTreeAny'. -/
def fnTreeAnyUptoCard : Claim7 := { stood := { row := fnTreeAnyUptoRow, standIns := [], harness := (true, "25c1361555717adcb13bc9d0442d7c36fca6e4546545d2d892c54c0e88877768"), looks := true }, kinds := [], alts := [], laidByText := true, laidKinds := [.wider, .wider], laidTests := true, laidLooks := .later }
def FnTreeAnyUptoCardSaid : Prop := Claim7.holds Tryz.pinned (.plain (OpenSpec.upto fnTreeAnySpec)) fnTreeAnyUptoCard

/-- THE SECOND FORM's CARD OF 'laws.FnTreeSkip'. -/
def fnTreeSkipUptoCard : Claim7 := { stood := { row := fnTreeSkipUptoRow, standIns := [], harness := (true, "25c1361555717adcb13bc9d0442d7c36fca6e4546545d2d892c54c0e88877768"), looks := true }, kinds := [], alts := [], laidByText := true, laidKinds := [.wider, .wider, .wider], laidTests := true, laidLooks := .later }
def FnTreeSkipUptoCardSaid : Prop := Claim7.holds Tryz.pinned (.plain (OpenSpec.upto fnTreeSkipSpec)) fnTreeSkipUptoCard
end Rows
end Go.Proofs.YtmliokplekeljaaGreatDoor
