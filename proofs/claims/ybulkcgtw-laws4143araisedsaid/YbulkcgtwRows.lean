/-
  No cell of these rows narrows 'for every input' (looked for: loops, veiled, ifaces, maps, wideKeys, modest, calm, conditions, laid).
  DERIVED. THE GIVEN ROWS OF THIS SEAT. 2 by the template 'for every input the law returns true; each argument reads behind the call as it read before'; 0 by the template 'total and deterministic' (their statements: YbulkcgtwTotals.lean).
  GIVEN WITH THE SEED: the statements are not yours to turn. If you find one false, say at which input.
  Laid BY PROGRAM, IN A SANDBOX (cutbox-rows.mjs): the forced cells as the released guide's own fill.sh prints them over the translation 70af83e16bd0dce0… (all of the seat's roots in one cut). By AI agents, Wed Nov 11 2026. No macro, syntax, notation, axiom, sorry.
-/
import Derived.Test.YbulkcgtwChecked
import GoSem.Claim
import GoSem.ClaimJoined
import GoSem.ClaimMapViews
import Derived.JoinedTies
import Derived.KernelRfl
namespace Go.Proofs.Ybulkcgtw
/- THE CELL 'sum', in the pinned program and in every row, IS THE sha256 OF THE DUMP (.gsa) THAT YbulkcgtwProg.lean LOADS. Nothing in Lean hashes anything: it is a label: what it is worth is what the hold of that sum in a sandbox is worth. -/
noncomputable def Yba.pinned : Pinned := { name := "ybulkcgtw", sum := "70af83e16bd0dce02725dc92d809705d4b554a1f433a551dcc22ed3b2ff7b65a", checked := Yba.checked }
namespace Rows
def none {H : Type} : Left H := { results := [], args := [] }

/-- 'forerunner.LawS4143AIndex': WHATEVER THE INPUT: true; the input reads as it did. -/
def lawS4143AIndexSpec : ChangeSpec := { name := "lawS4143AIndex", fn := fun _ => fun
  | [d1, d2, d3] => { results := [.lit (.bool true)], args := [d1, d2, d3] }
  | _ => none }
def lawS4143AIndexRow : OpenClaim := { program := "ybulkcgtw", sum := "70af83e16bd0dce02725dc92d809705d4b554a1f433a551dcc22ed3b2ff7b65a", func := "example.com/forerunner/forerunner.LawS4143AIndex", spec := "lawS4143AIndex", apart := false }
def LawS4143AIndexSaid : Prop := lawS4143AIndexRow.holds Yba.pinned (OpenSpec.ofChange lawS4143AIndexSpec)

/-- ITS FALSE NEIGHBOUR: 'it returns false'. Refute it at one input. -/
def lawS4143AIndexWrong : ChangeSpec := { name := "lawS4143AIndex", fn := fun _ => fun
  | [d1, d2, d3] => { results := [.lit (.bool false)], args := [d1, d2, d3] }
  | _ => none }
def LawS4143AIndexWrongFalsely : Prop := lawS4143AIndexRow.holds Yba.pinned (OpenSpec.ofChange lawS4143AIndexWrong)

/-- 'forerunner.LawS4143ARaised': WHATEVER THE INPUT: true; the input reads as it did. -/
def lawS4143ARaisedSpec : ChangeSpec := { name := "lawS4143ARaised", fn := fun _ => fun
  | [d1, d2, d3, d4] => { results := [.lit (.bool true)], args := [d1, d2, d3, d4] }
  | _ => none }
def lawS4143ARaisedRow : OpenClaim := { program := "ybulkcgtw", sum := "70af83e16bd0dce02725dc92d809705d4b554a1f433a551dcc22ed3b2ff7b65a", func := "example.com/forerunner/forerunner.LawS4143ARaised", spec := "lawS4143ARaised", apart := false }
def LawS4143ARaisedSaid : Prop := lawS4143ARaisedRow.holds Yba.pinned (OpenSpec.ofChange lawS4143ARaisedSpec)

/-- ITS FALSE NEIGHBOUR: 'it returns false'. Refute it at one input. -/
def lawS4143ARaisedWrong : ChangeSpec := { name := "lawS4143ARaised", fn := fun _ => fun
  | [d1, d2, d3, d4] => { results := [.lit (.bool false)], args := [d1, d2, d3, d4] }
  | _ => none }
def LawS4143ARaisedWrongFalsely : Prop := lawS4143ARaisedRow.holds Yba.pinned (OpenSpec.ofChange lawS4143ARaisedWrong)

end Rows
end Go.Proofs.Ybulkcgtw
