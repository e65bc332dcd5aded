/-
  No cell of these rows narrows 'for every input' (looked for: loops, veiled, ifaces, maps, wideKeys, modest, calm, conditions, laid).
  DERIVED. THE GIVEN ROWS OF THIS SEAT. 1 by the template 'for every input the law returns true; each argument reads behind the call as it read before'; 0 by the template 'total and deterministic' (their statements: YbulkcxxsTotals.lean).
  GIVEN WITH THE SEED: the statements are not yours to turn. If you find one false, say at which input.
  Laid BY PROGRAM, IN A SANDBOX (cutbox-rows.mjs): the forced cells as the released guide's own fill.sh prints them over the translation 5b60f852a0ae8542… (all of the seat's roots in one cut). By AI agents, Wed Nov 11 2026. No macro, syntax, notation, axiom, sorry.
-/
import Derived.Test.YbulkcxxsChecked
import GoSem.Claim
import GoSem.ClaimJoined
import GoSem.ClaimMapViews
import Derived.JoinedTies
import Derived.KernelRfl
namespace Go.Proofs.Ybulkcxxs
/- THE CELL 'sum', in the pinned program and in every row, IS THE sha256 OF THE DUMP (.gsa) THAT YbulkcxxsProg.lean LOADS. Nothing in Lean hashes anything: it is a label: what it is worth is what the hold of that sum in a sandbox is worth. -/
noncomputable def Yba.pinned : Pinned := { name := "ybulkcxxs", sum := "5b60f852a0ae854243767326e1cb8029e7a1018982dd0afce7aeb5fc1216d042", checked := Yba.checked }
namespace Rows
def none {H : Type} : Left H := { results := [], args := [] }

/-- 'causeline.LawS4971CCount': WHATEVER THE INPUT: true; the input reads as it did. -/
def lawS4971CCountSpec : ChangeSpec := { name := "lawS4971CCount", fn := fun _ => fun
  | [d1, d2] => { results := [.lit (.bool true)], args := [d1, d2] }
  | _ => none }
def lawS4971CCountRow : OpenClaim := { program := "ybulkcxxs", sum := "5b60f852a0ae854243767326e1cb8029e7a1018982dd0afce7aeb5fc1216d042", func := "example.com/causeline/causeline.LawS4971CCount", spec := "lawS4971CCount", apart := false }
def LawS4971CCountSaid : Prop := lawS4971CCountRow.holds Yba.pinned (OpenSpec.ofChange lawS4971CCountSpec)

/-- ITS FALSE NEIGHBOUR: 'it returns false'. Refute it at one input. -/
def lawS4971CCountWrong : ChangeSpec := { name := "lawS4971CCount", fn := fun _ => fun
  | [d1, d2] => { results := [.lit (.bool false)], args := [d1, d2] }
  | _ => none }
def LawS4971CCountWrongFalsely : Prop := lawS4971CCountRow.holds Yba.pinned (OpenSpec.ofChange lawS4971CCountWrong)

end Rows
end Go.Proofs.Ybulkcxxs
