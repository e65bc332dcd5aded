/-
  NARROWER THAN 'FOR EVERY INPUT', by the rows' own cells (each row's printed sentence says how): LawS4966BExact: laid · LawS4966BSums: laid.
  DERIVED. THE GIVEN ROWS OF THIS SEAT. 2 by the template 'for every input the law returns true; each argument reads behind the call as it read before'; 0 by the template 'total and deterministic' (their statements: YbulkcxvaDoorTotals.lean).
  GIVEN WITH THE SEED: the statements are not yours to turn. If you find one false, say at which input.
  Laid BY PROGRAM, IN A SANDBOX (cutbox-rows.mjs): the forced cells as the released guide's own fill.sh prints them over the translation d9692fca813f11c3… (all of the seat's roots in one cut). By AI agents, Wed Nov 11 2026. No macro, syntax, notation, axiom, sorry.
-/
import Derived.Test.YbulkcxvaDoorChecked
import GoSem.Claim
import GoSem.ClaimJoined
import GoSem.ClaimMapViews
import Derived.JoinedTies
import Derived.KernelRfl
namespace Go.Proofs.YbulkcxvaDoor
/- THE CELL 'sum', in the pinned program and in every row, IS THE sha256 OF THE DUMP (.gsa) THAT YbulkcxvaDoorProg.lean LOADS. Nothing in Lean hashes anything: it is a label: what it is worth is what the hold of that sum in a sandbox is worth. -/
noncomputable def Ybad.pinned : Pinned := { name := "ybulkcxvadoor", sum := "d9692fca813f11c3e94004a61d709ccc2ba708482b6120311ba8719b9b44db4a", checked := Ybad.checked }
namespace Rows
def none {H : Type} : Left H := { results := [], args := [] }

/- WHAT THE LISTED PACKAGE-LEVEL VARIABLES READ AS WHEN THE CALL BEGINS. Each datum BY PROGRAM (the guide's laid-datum.mjs) off the statement by which the dump's own 'gosem.cut.vars' lays the variable. In a bare row this is a premise. The card (YbulkcxvaDoorCards.lean) ties it to the program's text. -/
def laid_io_ErrShortWrite {H : Type} : DataW H := .iface "*errors.errorString" (.ptr (.agg [.lit (.string [115, 104, 111, 114, 116, 32, 119, 114, 105, 116, 101])]))

/-- 'httpapi.LawS4966BExact': WHATEVER THE INPUT: true; the input reads as it did. -/
def lawS4966BExactSpec : ChangeSpec := { name := "lawS4966BExact", fn := fun _ => fun
  | [d1, d2, d3, d4, d5] => { results := [.lit (.bool true)], args := [d1, d2, d3, d4, d5] }
  | _ => none }
def lawS4966BExactRow : OpenClaim := { program := "ybulkcxvadoor", sum := "d9692fca813f11c3e94004a61d709ccc2ba708482b6120311ba8719b9b44db4a", func := "example.com/ringhop/ringhop/pkg/httpapi.LawS4966BExact", spec := "lawS4966BExact", unfollowed := true, recurses := true, named := ["io.ErrShortWrite"], apart := false, laid := [("io.ErrShortWrite", laid_io_ErrShortWrite)] }
def LawS4966BExactSaid : Prop := lawS4966BExactRow.holds Ybad.pinned (OpenSpec.ofChange lawS4966BExactSpec)

/-- ITS FALSE NEIGHBOUR: 'it returns false'. Refute it at one input. -/
def lawS4966BExactWrong : ChangeSpec := { name := "lawS4966BExact", fn := fun _ => fun
  | [d1, d2, d3, d4, d5] => { results := [.lit (.bool false)], args := [d1, d2, d3, d4, d5] }
  | _ => none }
def LawS4966BExactWrongFalsely : Prop := lawS4966BExactRow.holds Ybad.pinned (OpenSpec.ofChange lawS4966BExactWrong)

/-- 'httpapi.LawS4966BSums': WHATEVER THE INPUT: true; the input reads as it did. -/
def lawS4966BSumsSpec : ChangeSpec := { name := "lawS4966BSums", fn := fun _ => fun
  | [d] => { results := [.lit (.bool true)], args := [d] }
  | _ => none }
def lawS4966BSumsRow : OpenClaim := { program := "ybulkcxvadoor", sum := "d9692fca813f11c3e94004a61d709ccc2ba708482b6120311ba8719b9b44db4a", func := "example.com/ringhop/ringhop/pkg/httpapi.LawS4966BSums", spec := "lawS4966BSums", unfollowed := true, recurses := true, named := ["io.ErrShortWrite"], apart := false, laid := [("io.ErrShortWrite", laid_io_ErrShortWrite)] }
def LawS4966BSumsSaid : Prop := lawS4966BSumsRow.holds Ybad.pinned (OpenSpec.ofChange lawS4966BSumsSpec)

/-- ITS FALSE NEIGHBOUR: 'it returns false'. Refute it at one input. -/
def lawS4966BSumsWrong : ChangeSpec := { name := "lawS4966BSums", fn := fun _ => fun
  | [d] => { results := [.lit (.bool false)], args := [d] }
  | _ => none }
def LawS4966BSumsWrongFalsely : Prop := lawS4966BSumsRow.holds Ybad.pinned (OpenSpec.ofChange lawS4966BSumsWrong)

end Rows
end Go.Proofs.YbulkcxvaDoor
