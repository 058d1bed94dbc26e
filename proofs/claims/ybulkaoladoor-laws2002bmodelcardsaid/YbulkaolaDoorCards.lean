/-
  DERIVED. GIVEN WITH THE SEED: THE CARDS: each row of YbulkaolaDoorRows.lean that lists a variable, with what it lists TIED to the program's text (the seventh form; the later family's looks); each row that meets fmt, with fmt's text TOLD by the authors' own Lean function (tested against real Go, not proved from fmt's source: count such statements apart). THE CARD IS WHAT COUNTS. Prove the row's statement (the work); the ties are given (YbulkaolaDoorTie.lean); close each card by the builder's one call (the guide's Derived/Test/ToyasCard.lean, 'card_holds'). Laid BY PROGRAM, IN A SANDBOX (cutbox-door.mjs). By AI agents, Wed Nov 11 2026. No macro, syntax, notation, axiom, sorry.
-/
import Derived.Test.YbulkaolaDoorRows
import GoSem.ClaimSeven
namespace Go.Proofs.YbulkaolaDoor
namespace Rows

/-- THE TIED CARD OF 'envoy-accord.LawS2002BModel'. -/
def lawS2002BModelCard : Claim7 := { stood := { row := lawS2002BModelRow, standIns := [], harness := (true, "f76baa4abd3b9d2f67cbd670dd86e5dd99666fdab50f3185ea0a031c91ce9cda"), looks := false }, kinds := [], alts := [], laidByText := true, laidKinds := [.data], laidTests := true, laidLooks := .later }
def LawS2002BModelCardSaid : Prop := Claim7.holds Ybad.pinned (.plain (OpenSpec.ofChange lawS2002BModelSpec)) lawS2002BModelCard

/-- THE TIED CARD OF 'envoy-accord.LawS2002BKeeps'. -/
def lawS2002BKeepsCard : Claim7 := { stood := { row := lawS2002BKeepsRow, standIns := [], harness := (true, "f76baa4abd3b9d2f67cbd670dd86e5dd99666fdab50f3185ea0a031c91ce9cda"), looks := false }, kinds := [], alts := [], laidByText := true, laidKinds := [.data], laidTests := true, laidLooks := .later }
def LawS2002BKeepsCardSaid : Prop := Claim7.holds Ybad.pinned (.plain (OpenSpec.ofChange lawS2002BKeepsSpec)) lawS2002BKeepsCard
end Rows
end Go.Proofs.YbulkaolaDoor
