/-
  DERIVED. GIVEN WITH THE SEED: THE CARDS: each row of YbulkcyssDoorRows.lean that lists a variable, with what it lists TIED to the program's text (the seventh form; the later family's looks); each row that meets fmt, with fmt's text TOLD by the authors' own Lean function (tested against real Go, not proved from fmt's source: count such statements apart). THE CARD IS WHAT COUNTS. Prove the row's statement (the work); the ties are given (YbulkcyssDoorTie.lean); close each card by the builder's one call (the guide's Derived/Test/ToyasCard.lean, 'card_holds'). Laid BY PROGRAM, IN A SANDBOX (cutbox-door.mjs). By AI agents, Wed Nov 11 2026. No macro, syntax, notation, axiom, sorry.
-/
import Derived.Test.YbulkcyssDoorRows
import GoSem.ClaimSeven
namespace Go.Proofs.YbulkcyssDoor
namespace Rows

/-- THE TIED CARD OF 'sigv4.LawS5010AChain'. -/
def lawS5010AChainCard : Claim7 := { stood := { row := lawS5010AChainRow, standIns := [], harness := (true, "0878d9eb9ded8c9c840788e92dc716ff8d3d108673aee8eb100a46954a4bf866"), looks := true }, kinds := [], alts := [], laidByText := true, laidKinds := [.sentinel, .sentinel, .sentinel, .sentinel, .sentinel, .sentinel, .sentinel], laidTests := true, laidLooks := .later }
def LawS5010AChainCardSaid : Prop := Claim7.holds Ybad.pinned (.plain (OpenSpec.ofChange lawS5010AChainSpec)) lawS5010AChainCard

/-- THE TIED CARD OF 'sigv4.LawS5010AJoined'. -/
def lawS5010AJoinedCard : Claim7 := { stood := { row := lawS5010AJoinedRow, standIns := [], harness := (true, "0878d9eb9ded8c9c840788e92dc716ff8d3d108673aee8eb100a46954a4bf866"), looks := true }, kinds := [], alts := [], laidByText := true, laidKinds := [.sentinel, .sentinel, .sentinel, .sentinel, .sentinel, .sentinel, .sentinel], laidTests := true, laidLooks := .later }
def LawS5010AJoinedCardSaid : Prop := Claim7.holds Ybad.pinned (.plain (OpenSpec.ofChange lawS5010AJoinedSpec)) lawS5010AJoinedCard
end Rows
end Go.Proofs.YbulkcyssDoor
