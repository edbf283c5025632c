/-
  DERIVED. GIVEN WITH THE SEED: THE CARDS: each row of Qxb6603498aDoorRows.lean that lists a variable, with what it lists TIED to the program's text (the seventh form; the later family's looks); each row that meets fmt, with fmt's text TOLD by the authors' own Lean function (tested against real Go, not proved from fmt's source: count such statements apart). THE CARD IS WHAT COUNTS. Prove the row's statement (the work); the ties are given (Qxb6603498aDoorTie.lean); close each card by the builder's one call (the guide's Derived/Test/ToyasCard.lean, 'card_holds'). Laid BY PROGRAM, IN A SANDBOX (cutbox-door.mjs). By AI agents, Wed Nov 11 2026. No macro, syntax, notation, axiom, sorry.
-/
import Derived.Test.Qxb6603498aDoorRows
import GoSem.ClaimSeven
namespace Go.Proofs.Qxb6603498aDoor
namespace Rows

/-- THE TIED CARD OF 'zzlaws_root_b1.FnSetHardStateTouchesOnlyTheHardState'. -/
def fnSetHardStateTouchesOnlyTheHardStateCard : Claim7 := { stood := { row := fnSetHardStateTouchesOnlyTheHardStateRow, standIns := [], harness := (true, "378f20bbbbde7982099726933dd8f9617feb25735ec12e4cdae6e35e5c0acac0"), looks := false }, kinds := [], alts := [], laidByText := true, laidKinds := [.sentinel, .sentinel], laidTests := true, laidLooks := .later }
def FnSetHardStateTouchesOnlyTheHardStateCardSaid : Prop := Claim7.holds Tryd.pinned (.plain (OpenSpec.ofChange fnSetHardStateTouchesOnlyTheHardStateSpec)) fnSetHardStateTouchesOnlyTheHardStateCard

/-- THE TIED CARD OF 'zzlaws_root_b1.FnFirstIndexAgreesWithTerm'. -/
def fnFirstIndexAgreesWithTermCard : Claim7 := { stood := { row := fnFirstIndexAgreesWithTermRow, standIns := [], harness := (true, "378f20bbbbde7982099726933dd8f9617feb25735ec12e4cdae6e35e5c0acac0"), looks := false }, kinds := [], alts := [], laidByText := true, laidKinds := [.sentinel, .sentinel], laidTests := true, laidLooks := .later }
def FnFirstIndexAgreesWithTermCardSaid : Prop := Claim7.holds Tryd.pinned (.plain (OpenSpec.ofChange fnFirstIndexAgreesWithTermSpec)) fnFirstIndexAgreesWithTermCard
end Rows
end Go.Proofs.Qxb6603498aDoor
