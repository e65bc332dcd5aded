/-
  NARROWER THAN 'FOR EVERY INPUT', by the rows' own cells (each row's printed sentence says how): LawS4964CName: ifaces, laid · LawS4964CRound: ifaces, laid.
  DERIVED. THE GIVEN ROWS OF THIS SEAT. 2 by the template 'for every input the law returns true; each argument reads behind the call as it read before'; 0 by the template 'total and deterministic' (their statements: YbulkcxtyFmtTotals.lean).
  GIVEN WITH THE SEED: the statements are not yours to turn. If you find one false, say at which input.
  Laid BY PROGRAM, IN A SANDBOX (cutbox-rows.mjs): the forced cells as the released guide's own fill.sh prints them over the translation efa26e00fae9f727… (all of the seat's roots in one cut). By AI agents, Wed Nov 11 2026. No macro, syntax, notation, axiom, sorry.
-/
import Derived.Test.YbulkcxtyFmtChecked
import GoSem.Claim
import GoSem.ClaimJoined
import GoSem.ClaimMapViews
import Derived.JoinedTies
import Derived.KernelRfl
namespace Go.Proofs.YbulkcxtyFmt
/- THE CELL 'sum', in the pinned program and in every row, IS THE sha256 OF THE DUMP (.gsa) THAT YbulkcxtyFmtProg.lean LOADS. Nothing in Lean hashes anything: it is a label: what it is worth is what the hold of that sum in a sandbox is worth. -/
noncomputable def Ybaf.pinned : Pinned := { name := "ybulkcxtyfmt", sum := "efa26e00fae9f727e010085b9ab2086f52a323f3d00480bb069d4696d896903c", checked := Ybaf.checked }
namespace Rows
def none {H : Type} : Left H := { results := [], args := [] }

/- WHAT THE LISTED PACKAGE-LEVEL VARIABLES READ AS WHEN THE CALL BEGINS. Each datum BY PROGRAM (the guide's laid-datum.mjs) off the statement by which the dump's own 'gosem.cut.vars' lays the variable. In a bare row this is a premise. The card (YbulkcxtyFmtCards.lean) ties it to the program's text. -/
def laid_example_com_ensolv_ensolv_ErrUnknownDialect {H : Type} : DataW H := .iface "*errors.errorString" (.ptr (.agg [.lit (.string [117, 110, 107, 110, 111, 119, 110, 32, 100, 105, 97, 108, 101, 99, 116])]))
def laid_example_com_ensolv_ensolv_dialectNames {H : Type} : DataW H := .agg [.lit (.string []), .lit (.string [103, 111]), .lit (.string [110, 112, 109]), .lit (.string [99, 97, 114, 103, 111])]

/-- 'ensolv.LawS4964CName': WHATEVER THE INPUT: true; the input reads as it did. -/
def lawS4964CNameSpec : ChangeSpec := { name := "lawS4964CName", vars := ["example.com/ensolv/ensolv.ErrUnknownDialect", "example.com/ensolv/ensolv.dialectNames"], fn := fun _ => fun
  | [d, g1, g2] => { results := [.lit (.bool true)], args := [d], vars := [g1, g2] }
  | _ => none }
def lawS4964CNameRow : OpenClaim := { program := "ybulkcxtyfmt", sum := "efa26e00fae9f727e010085b9ab2086f52a323f3d00480bb069d4696d896903c", func := "example.com/ensolv/ensolv.LawS4964CName", spec := "lawS4964CName", stops := ["fmt.errorf, its operands' methods called", "fmt.Sprintf"], inPlace := ["fmt.errorf", "internal/reflectlite.TypeOf"], unfollowed := true, recurses := true, named := ["example.com/ensolv/ensolv.ErrUnknownDialect", "example.com/ensolv/ensolv.dialectNames"], ifaces := true, apart := false, laid := [("example.com/ensolv/ensolv.ErrUnknownDialect", laid_example_com_ensolv_ensolv_ErrUnknownDialect), ("example.com/ensolv/ensolv.dialectNames", laid_example_com_ensolv_ensolv_dialectNames)] }
/-- NO THEOREM (fmt's text is open here; it may be false): for the released tool's asking of the row's closed facts alone. THE STATEMENT IS 'LawS4964CNameToldSaid' (YbulkcxtyFmtCards.lean). -/
def LawS4964CNameFormAsk : Prop := lawS4964CNameRow.holds Ybaf.pinned (OpenSpec.ofChange lawS4964CNameSpec)

/-- ITS FALSE NEIGHBOUR: 'it returns false'. Refute it at one input. -/
def lawS4964CNameWrong : ChangeSpec := { name := "lawS4964CName", vars := ["example.com/ensolv/ensolv.ErrUnknownDialect", "example.com/ensolv/ensolv.dialectNames"], fn := fun _ => fun
  | [d, g1, g2] => { results := [.lit (.bool false)], args := [d], vars := [g1, g2] }
  | _ => none }
def LawS4964CNameWrongFormAsk : Prop := lawS4964CNameRow.holds Ybaf.pinned (OpenSpec.ofChange lawS4964CNameWrong)

/-- 'ensolv.LawS4964CRound': WHATEVER THE INPUT: true; the input reads as it did. -/
def lawS4964CRoundSpec : ChangeSpec := { name := "lawS4964CRound", vars := ["example.com/ensolv/ensolv.ErrUnknownDialect", "example.com/ensolv/ensolv.dialectNames"], fn := fun _ => fun
  | [d, g1, g2] => { results := [.lit (.bool true)], args := [d], vars := [g1, g2] }
  | _ => none }
def lawS4964CRoundRow : OpenClaim := { program := "ybulkcxtyfmt", sum := "efa26e00fae9f727e010085b9ab2086f52a323f3d00480bb069d4696d896903c", func := "example.com/ensolv/ensolv.LawS4964CRound", spec := "lawS4964CRound", stops := ["fmt.errorf, its operands' methods called", "fmt.Sprintf"], inPlace := ["fmt.errorf", "internal/abi.NoEscape", "internal/bytealg.MakeNoZero"], unfollowed := true, recurses := true, named := ["example.com/ensolv/ensolv.ErrUnknownDialect", "example.com/ensolv/ensolv.dialectNames"], ifaces := true, apart := false, laid := [("example.com/ensolv/ensolv.ErrUnknownDialect", laid_example_com_ensolv_ensolv_ErrUnknownDialect), ("example.com/ensolv/ensolv.dialectNames", laid_example_com_ensolv_ensolv_dialectNames)] }
/-- NO THEOREM (fmt's text is open here; it may be false): for the released tool's asking of the row's closed facts alone. THE STATEMENT IS 'LawS4964CRoundToldSaid' (YbulkcxtyFmtCards.lean). -/
def LawS4964CRoundFormAsk : Prop := lawS4964CRoundRow.holds Ybaf.pinned (OpenSpec.ofChange lawS4964CRoundSpec)

/-- ITS FALSE NEIGHBOUR: 'it returns false'. Refute it at one input. -/
def lawS4964CRoundWrong : ChangeSpec := { name := "lawS4964CRound", vars := ["example.com/ensolv/ensolv.ErrUnknownDialect", "example.com/ensolv/ensolv.dialectNames"], fn := fun _ => fun
  | [d, g1, g2] => { results := [.lit (.bool false)], args := [d], vars := [g1, g2] }
  | _ => none }
def LawS4964CRoundWrongFormAsk : Prop := lawS4964CRoundRow.holds Ybaf.pinned (OpenSpec.ofChange lawS4964CRoundWrong)

end Rows
end Go.Proofs.YbulkcxtyFmt
