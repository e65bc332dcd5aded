/-
  No cell of these rows narrows 'for every input' (looked for: loops, veiled, ifaces, maps, wideKeys, modest, calm, conditions, laid).
  DERIVED. THE GIVEN ROWS OF THIS SEAT. 3 by the template 'for every input the law returns true; each argument reads behind the call as it read before'; 0 by the template 'total and deterministic' (their statements: YbulkcxvoTotals.lean).
  GIVEN WITH THE SEED: the statements are not yours to turn. If you find one false, say at which input.
  Laid BY PROGRAM, IN A SANDBOX (cutbox-rows.mjs): the forced cells as the released guide's own fill.sh prints them over the translation d561b3e70a8ad641… (all of the seat's roots in one cut). By AI agents, Wed Nov 11 2026. No macro, syntax, notation, axiom, sorry.
-/
import Derived.Test.YbulkcxvoChecked
import GoSem.Claim
import GoSem.ClaimJoined
import GoSem.ClaimMapViews
import Derived.JoinedTies
import Derived.KernelRfl
namespace Go.Proofs.Ybulkcxvo
/- THE CELL 'sum', in the pinned program and in every row, IS THE sha256 OF THE DUMP (.gsa) THAT YbulkcxvoProg.lean LOADS. Nothing in Lean hashes anything: it is a label: what it is worth is what the hold of that sum in a sandbox is worth. -/
noncomputable def Yba.pinned : Pinned := { name := "ybulkcxvo", sum := "d561b3e70a8ad641295d45fdb0440a80245d6538e3ddfd5c67c2f185f1c28ceb", checked := Yba.checked }
namespace Rows
def none {H : Type} : Left H := { results := [], args := [] }

/-- 'history.LawS4967ANames': WHATEVER THE INPUT: true; the input reads as it did. -/
def lawS4967ANamesSpec : ChangeSpec := { name := "lawS4967ANames", fn := fun _ => fun
  | [d1, d2, d3, d4, d5] => { results := [.lit (.bool true)], args := [d1, d2, d3, d4, d5] }
  | _ => none }
def lawS4967ANamesRow : OpenClaim := { program := "ybulkcxvo", sum := "d561b3e70a8ad641295d45fdb0440a80245d6538e3ddfd5c67c2f185f1c28ceb", func := "example.com/lockwright/lockwright/history.LawS4967ANames", spec := "lawS4967ANames", unfollowed := true, recurses := true, apart := false }
def LawS4967ANamesSaid : Prop := lawS4967ANamesRow.holds Yba.pinned (OpenSpec.ofChange lawS4967ANamesSpec)

/-- ITS FALSE NEIGHBOUR: 'it returns false'. Refute it at one input. -/
def lawS4967ANamesWrong : ChangeSpec := { name := "lawS4967ANames", fn := fun _ => fun
  | [d1, d2, d3, d4, d5] => { results := [.lit (.bool false)], args := [d1, d2, d3, d4, d5] }
  | _ => none }
def LawS4967ANamesWrongFalsely : Prop := lawS4967ANamesRow.holds Yba.pinned (OpenSpec.ofChange lawS4967ANamesWrong)

/-- 'history.LawS4967AReduced': WHATEVER THE INPUT: true; the input reads as it did. -/
def lawS4967AReducedSpec : ChangeSpec := { name := "lawS4967AReduced", fn := fun _ => fun
  | [d1, d2, d3, d4, d5] => { results := [.lit (.bool true)], args := [d1, d2, d3, d4, d5] }
  | _ => none }
def lawS4967AReducedRow : OpenClaim := { program := "ybulkcxvo", sum := "d561b3e70a8ad641295d45fdb0440a80245d6538e3ddfd5c67c2f185f1c28ceb", func := "example.com/lockwright/lockwright/history.LawS4967AReduced", spec := "lawS4967AReduced", unfollowed := true, recurses := true, apart := false }
def LawS4967AReducedSaid : Prop := lawS4967AReducedRow.holds Yba.pinned (OpenSpec.ofChange lawS4967AReducedSpec)

/-- ITS FALSE NEIGHBOUR: 'it returns false'. Refute it at one input. -/
def lawS4967AReducedWrong : ChangeSpec := { name := "lawS4967AReduced", fn := fun _ => fun
  | [d1, d2, d3, d4, d5] => { results := [.lit (.bool false)], args := [d1, d2, d3, d4, d5] }
  | _ => none }
def LawS4967AReducedWrongFalsely : Prop := lawS4967AReducedRow.holds Yba.pinned (OpenSpec.ofChange lawS4967AReducedWrong)

/-- 'history.LawS4967BComponents': WHATEVER THE INPUT: true; the input reads as it did. -/
def lawS4967BComponentsSpec : ChangeSpec := { name := "lawS4967BComponents", fn := fun _ => fun
  | [d1, d2] => { results := [.lit (.bool true)], args := [d1, d2] }
  | _ => none }
def lawS4967BComponentsRow : OpenClaim := { program := "ybulkcxvo", sum := "d561b3e70a8ad641295d45fdb0440a80245d6538e3ddfd5c67c2f185f1c28ceb", func := "example.com/lockwright/lockwright/history.LawS4967BComponents", spec := "lawS4967BComponents", unfollowed := true, recurses := true, apart := false }
def LawS4967BComponentsSaid : Prop := lawS4967BComponentsRow.holds Yba.pinned (OpenSpec.ofChange lawS4967BComponentsSpec)

/-- ITS FALSE NEIGHBOUR: 'it returns false'. Refute it at one input. -/
def lawS4967BComponentsWrong : ChangeSpec := { name := "lawS4967BComponents", fn := fun _ => fun
  | [d1, d2] => { results := [.lit (.bool false)], args := [d1, d2] }
  | _ => none }
def LawS4967BComponentsWrongFalsely : Prop := lawS4967BComponentsRow.holds Yba.pinned (OpenSpec.ofChange lawS4967BComponentsWrong)

end Rows
end Go.Proofs.Ybulkcxvo
