/-
  DERIVED. GIVEN WITH THE SEED: THE CARDS: each row of YbulkcxvaDoorRows.lean that lists a variable, with what it lists TIED to the program's text (the seventh form; the later family's looks); each row that meets fmt, with fmt's text TOLD by the authors' own Lean function (tested against real Go, not proved from fmt's source: count such statements apart). THE CARD IS WHAT COUNTS. Prove the row's statement (the work); the ties are given (YbulkcxvaDoorTie.lean); close each card by the builder's one call (the guide's Derived/Test/ToyasCard.lean, 'card_holds'). Laid BY PROGRAM, IN A SANDBOX (cutbox-door.mjs). By AI agents, Wed Nov 11 2026. No macro, syntax, notation, axiom, sorry.
-/
import Derived.Test.YbulkcxvaDoorRows
import GoSem.ClaimSeven
namespace Go.Proofs.YbulkcxvaDoor
namespace Rows

/-- THE TIED CARD OF 'httpapi.LawS4966BExact'. -/
def lawS4966BExactCard : Claim7 := { stood := { row := lawS4966BExactRow, standIns := [], harness := (true, "8f3879a02782a75fae14d1681a9e47c8a9ad1c1f23b1b2568b4b53a396918b60"), looks := true }, kinds := [], alts := [], laidByText := true, laidKinds := [.sentinel], laidTests := true, laidLooks := .later }
def LawS4966BExactCardSaid : Prop := Claim7.holds Ybad.pinned (.plain (OpenSpec.ofChange lawS4966BExactSpec)) lawS4966BExactCard

/-- THE TIED CARD OF 'httpapi.LawS4966BSums'. -/
def lawS4966BSumsCard : Claim7 := { stood := { row := lawS4966BSumsRow, standIns := [], harness := (true, "8f3879a02782a75fae14d1681a9e47c8a9ad1c1f23b1b2568b4b53a396918b60"), looks := true }, kinds := [], alts := [], laidByText := true, laidKinds := [.sentinel], laidTests := true, laidLooks := .later }
def LawS4966BSumsCardSaid : Prop := Claim7.holds Ybad.pinned (.plain (OpenSpec.ofChange lawS4966BSumsSpec)) lawS4966BSumsCard
end Rows
end Go.Proofs.YbulkcxvaDoor
