/-
  DERIVED. GIVEN WITH THE SEED: THE PROGRAM's TIES (one call each: nine closed facts by the kernel) AND EACH ROW's TIE, after the 31st guide's Derived/Test/Toyas{Tie, Card}.lean. No idea stands in it: it is a product of the set-up. Laid BY PROGRAM, IN A SANDBOX (cutbox-door.mjs). By AI agents, Wed Nov 11 2026. No macro, syntax, notation, axiom, sorry.
-/
import Derived.Test.YbulkcxtyFmtRows
import Derived.LaidByTextLater
import Derived.SevenTiedAt
import Derived.LaidSub
import Derived.LaidOnce
namespace Go.Proofs.YbulkcxtyFmt
open Go
set_option maxRecDepth 100000
theorem seatTie1 : Ybaf.prog.laidByTextLater [("example.com/ensolv/ensolv.ErrUnknownDialect", Rows.laid_example_com_ensolv_ensolv_ErrUnknownDialect), ("example.com/ensolv/ensolv.dialectNames", Rows.laid_example_com_ensolv_ensolv_dialectNames)] [.sentinel, .widerDeep] true :=
  Program.laidByTextLater_by_one 33 8 5 (by kernel_rfl) (by kernel_rfl) (by kernel_rfl) (by kernel_rfl) (by kernel_rfl) (by kernel_rfl) (fun _ _ => by kernel_rfl)
theorem noOwnUnsafe : Ybaf.pinned.checked.prog.headLifts.contains "ownunsafe" = false := by kernel_rfl
theorem tie : Ybaf.prog.laidByTextLater [("example.com/ensolv/ensolv.ErrUnknownDialect", Rows.laid_example_com_ensolv_ensolv_ErrUnknownDialect), ("example.com/ensolv/ensolv.dialectNames", Rows.laid_example_com_ensolv_ensolv_dialectNames)] [.sentinel, .widerDeep] true :=
  Program.laidByTextLater.sub seatTie1 ["example.com/ensolv/ensolv.ErrUnknownDialect", "example.com/ensolv/ensolv.dialectNames"] (by kernel_rfl) (by kernel_rfl)
theorem lawS4964CName_row_tie : Rows.lawS4964CNameRow.laidByTextAt .later Ybaf.pinned [.sentinel, .widerDeep] true :=
  OpenClaim.laidByTextAt_later rfl rfl tie noOwnUnsafe
theorem lawS4964CRound_row_tie : Rows.lawS4964CRoundRow.laidByTextAt .later Ybaf.pinned [.sentinel, .widerDeep] true :=
  OpenClaim.laidByTextAt_later rfl rfl tie noOwnUnsafe
end Go.Proofs.YbulkcxtyFmt
