/-
  DERIVED. GIVEN WITH THE SEED: THE CARDS: each row of YbulkcxtyFmtRows.lean that lists a variable, with what it lists TIED to the program's text (the seventh form; the later family's looks); each row that meets fmt, with fmt's text TOLD by the authors' own Lean function (tested against real Go, not proved from fmt's source: count such statements apart). THE CARD IS WHAT COUNTS. Prove the row's statement (the work); the ties are given (YbulkcxtyFmtTie.lean); close each card by the builder's one call (the guide's Derived/Test/ToyasCard.lean, 'card_holds'). Laid BY PROGRAM, IN A SANDBOX (cutbox-door.mjs). By AI agents, Wed Nov 11 2026. No macro, syntax, notation, axiom, sorry.
-/
import Derived.Test.YbulkcxtyFmtRows
import GoSem.ClaimSeven
namespace Go.Proofs.YbulkcxtyFmt
namespace Rows

/-- THE TOLD AND TIED CARD OF 'ensolv.LawS4964CName'. -/
def lawS4964CNameCard : Claim7 := { stood := { row := lawS4964CNameRow, standIns := [], harness := (true, "b129b2db0131d1156923bca2f5129bc703672f1b00c45058a8b53344c166c0a1"), looks := true }, told := true, laidByText := true, laidKinds := [.sentinel, .widerDeep], laidTests := true, laidLooks := .later, goes := false }
def LawS4964CNameToldSaid : Prop := Claim7.holds Ybaf.pinned (.plain (OpenSpec.ofChange lawS4964CNameSpec)) lawS4964CNameCard
/-- ITS FALSE NEIGHBOUR. Refute it at one input. -/
def LawS4964CNameToldWrongFalsely : Prop := Claim7.holds Ybaf.pinned (.plain (OpenSpec.ofChange lawS4964CNameWrong)) lawS4964CNameCard

/-- THE TOLD AND TIED CARD OF 'ensolv.LawS4964CRound'. -/
def lawS4964CRoundCard : Claim7 := { stood := { row := lawS4964CRoundRow, standIns := [], harness := (true, "b129b2db0131d1156923bca2f5129bc703672f1b00c45058a8b53344c166c0a1"), looks := true }, told := true, laidByText := true, laidKinds := [.sentinel, .widerDeep], laidTests := true, laidLooks := .later, goes := false }
def LawS4964CRoundToldSaid : Prop := Claim7.holds Ybaf.pinned (.plain (OpenSpec.ofChange lawS4964CRoundSpec)) lawS4964CRoundCard
/-- ITS FALSE NEIGHBOUR. Refute it at one input. -/
def LawS4964CRoundToldWrongFalsely : Prop := Claim7.holds Ybaf.pinned (.plain (OpenSpec.ofChange lawS4964CRoundWrong)) lawS4964CRoundCard
end Rows
end Go.Proofs.YbulkcxtyFmt
