/-
  DERIVED. GIVEN WITH THE SEED: THE CARDS: each row of YbulkcivsDoorRows.lean that lists a variable, with what it lists TIED to the program's text (the seventh form; the later family's looks); each row that meets fmt, with fmt's text TOLD by the authors' own Lean function (tested against real Go, not proved from fmt's source: count such statements apart). THE CARD IS WHAT COUNTS. Prove the row's statement (the work); the ties are given (YbulkcivsDoorTie.lean); close each card by the builder's one call (the guide's Derived/Test/ToyasCard.lean, 'card_holds'). Laid BY PROGRAM, IN A SANDBOX (cutbox-door.mjs). By AI agents, Wed Nov 11 2026. No macro, syntax, notation, axiom, sorry.
-/
import Derived.Test.YbulkcivsDoorRows
import GoSem.ClaimSeven
namespace Go.Proofs.YbulkcivsDoor
namespace Rows

/-- THE TIED CARD OF 'sim.LawS4243CMean'. -/
def lawS4243CMeanCard : Claim7 := { stood := { row := lawS4243CMeanRow, standIns := [], harness := (true, "c2e0f0d2a47e3278a51e9ad1378b55df936e784595b8e95fa75e090f7e34cc8b"), looks := false }, kinds := [], alts := [], laidByText := true, laidKinds := [.data, .data, .data, .data], laidTests := true, laidLooks := .later }
def LawS4243CMeanCardSaid : Prop := Claim7.holds Ybad.pinned (.plain (OpenSpec.ofChange lawS4243CMeanSpec)) lawS4243CMeanCard

/-- THE TIED CARD OF 'sim.LawS4243CTable'. -/
def lawS4243CTableCard : Claim7 := { stood := { row := lawS4243CTableRow, standIns := [], harness := (true, "c2e0f0d2a47e3278a51e9ad1378b55df936e784595b8e95fa75e090f7e34cc8b"), looks := false }, kinds := [], alts := [], laidByText := true, laidKinds := [.data, .data, .data, .data], laidTests := true, laidLooks := .later }
def LawS4243CTableCardSaid : Prop := Claim7.holds Ybad.pinned (.plain (OpenSpec.ofChange lawS4243CTableSpec)) lawS4243CTableCard
end Rows
end Go.Proofs.YbulkcivsDoor
