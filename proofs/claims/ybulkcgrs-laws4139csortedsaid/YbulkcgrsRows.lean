/-
  No cell of these rows narrows 'for every input' (looked for: loops, veiled, ifaces, maps, wideKeys, modest, calm, conditions, laid).
  DERIVED. THE GIVEN ROWS OF THIS SEAT. 5 by the template 'for every input the law returns true; each argument reads behind the call as it read before'; 0 by the template 'total and deterministic' (their statements: YbulkcgrsTotals.lean).
  GIVEN WITH THE SEED: the statements are not yours to turn. If you find one false, say at which input.
  Laid BY PROGRAM, IN A SANDBOX (cutbox-rows.mjs): the forced cells as the released guide's own fill.sh prints them over the translation 56c5c52251a02457… (all of the seat's roots in one cut). By AI agents, Wed Nov 11 2026. No macro, syntax, notation, axiom, sorry.
-/
import Derived.Test.YbulkcgrsChecked
import GoSem.Claim
import GoSem.ClaimJoined
import GoSem.ClaimMapViews
import Derived.JoinedTies
import Derived.KernelRfl
namespace Go.Proofs.Ybulkcgrs
/- THE CELL 'sum', in the pinned program and in every row, IS THE sha256 OF THE DUMP (.gsa) THAT YbulkcgrsProg.lean LOADS. Nothing in Lean hashes anything: it is a label: what it is worth is what the hold of that sum in a sandbox is worth. -/
noncomputable def Yba.pinned : Pinned := { name := "ybulkcgrs", sum := "56c5c52251a024573aee597b59c64dfc80002fdba9b948d175c6eee86a58d937", checked := Yba.checked }
namespace Rows
def none {H : Type} : Left H := { results := [], args := [] }

/-- 'afcng.LawS4139AFields': WHATEVER THE INPUT: true; the input reads as it did. -/
def lawS4139AFieldsSpec : ChangeSpec := { name := "lawS4139AFields", fn := fun _ => fun
  | [d1, d2, d3] => { results := [.lit (.bool true)], args := [d1, d2, d3] }
  | _ => none }
def lawS4139AFieldsRow : OpenClaim := { program := "ybulkcgrs", sum := "56c5c52251a024573aee597b59c64dfc80002fdba9b948d175c6eee86a58d937", func := "example.com/parley/parley/pkg/afcng.LawS4139AFields", spec := "lawS4139AFields", apart := false }
def LawS4139AFieldsSaid : Prop := lawS4139AFieldsRow.holds Yba.pinned (OpenSpec.ofChange lawS4139AFieldsSpec)

/-- ITS FALSE NEIGHBOUR: 'it returns false'. Refute it at one input. -/
def lawS4139AFieldsWrong : ChangeSpec := { name := "lawS4139AFields", fn := fun _ => fun
  | [d1, d2, d3] => { results := [.lit (.bool false)], args := [d1, d2, d3] }
  | _ => none }
def LawS4139AFieldsWrongFalsely : Prop := lawS4139AFieldsRow.holds Yba.pinned (OpenSpec.ofChange lawS4139AFieldsWrong)

/-- 'abtcore.LawS4139BExact': WHATEVER THE INPUT: true; the input reads as it did. -/
def lawS4139BExactSpec : ChangeSpec := { name := "lawS4139BExact", fn := fun _ => fun
  | [d1, d2, d3] => { results := [.lit (.bool true)], args := [d1, d2, d3] }
  | _ => none }
def lawS4139BExactRow : OpenClaim := { program := "ybulkcgrs", sum := "56c5c52251a024573aee597b59c64dfc80002fdba9b948d175c6eee86a58d937", func := "example.com/parley/parley/internal/abtcore.LawS4139BExact", spec := "lawS4139BExact", apart := false }
def LawS4139BExactSaid : Prop := lawS4139BExactRow.holds Yba.pinned (OpenSpec.ofChange lawS4139BExactSpec)

/-- ITS FALSE NEIGHBOUR: 'it returns false'. Refute it at one input. -/
def lawS4139BExactWrong : ChangeSpec := { name := "lawS4139BExact", fn := fun _ => fun
  | [d1, d2, d3] => { results := [.lit (.bool false)], args := [d1, d2, d3] }
  | _ => none }
def LawS4139BExactWrongFalsely : Prop := lawS4139BExactRow.holds Yba.pinned (OpenSpec.ofChange lawS4139BExactWrong)

/-- 'abtcore.LawS4139BFresh': WHATEVER THE INPUT: true; the input reads as it did. -/
def lawS4139BFreshSpec : ChangeSpec := { name := "lawS4139BFresh", fn := fun _ => fun
  | [d] => { results := [.lit (.bool true)], args := [d] }
  | _ => none }
def lawS4139BFreshRow : OpenClaim := { program := "ybulkcgrs", sum := "56c5c52251a024573aee597b59c64dfc80002fdba9b948d175c6eee86a58d937", func := "example.com/parley/parley/internal/abtcore.LawS4139BFresh", spec := "lawS4139BFresh", unfollowed := true, recurses := true, apart := false }
def LawS4139BFreshSaid : Prop := lawS4139BFreshRow.holds Yba.pinned (OpenSpec.ofChange lawS4139BFreshSpec)

/-- ITS FALSE NEIGHBOUR: 'it returns false'. Refute it at one input. -/
def lawS4139BFreshWrong : ChangeSpec := { name := "lawS4139BFresh", fn := fun _ => fun
  | [d] => { results := [.lit (.bool false)], args := [d] }
  | _ => none }
def LawS4139BFreshWrongFalsely : Prop := lawS4139BFreshRow.holds Yba.pinned (OpenSpec.ofChange lawS4139BFreshWrong)

/-- 'xcsp3.LawS4139CEnds': WHATEVER THE INPUT: true; the input reads as it did. -/
def lawS4139CEndsSpec : ChangeSpec := { name := "lawS4139CEnds", fn := fun _ => fun
  | [d1, d2, d3] => { results := [.lit (.bool true)], args := [d1, d2, d3] }
  | _ => none }
def lawS4139CEndsRow : OpenClaim := { program := "ybulkcgrs", sum := "56c5c52251a024573aee597b59c64dfc80002fdba9b948d175c6eee86a58d937", func := "example.com/parley/parley/pkg/xcsp3.LawS4139CEnds", spec := "lawS4139CEnds", apart := false }
def LawS4139CEndsSaid : Prop := lawS4139CEndsRow.holds Yba.pinned (OpenSpec.ofChange lawS4139CEndsSpec)

/-- ITS FALSE NEIGHBOUR: 'it returns false'. Refute it at one input. -/
def lawS4139CEndsWrong : ChangeSpec := { name := "lawS4139CEnds", fn := fun _ => fun
  | [d1, d2, d3] => { results := [.lit (.bool false)], args := [d1, d2, d3] }
  | _ => none }
def LawS4139CEndsWrongFalsely : Prop := lawS4139CEndsRow.holds Yba.pinned (OpenSpec.ofChange lawS4139CEndsWrong)

/-- 'xcsp3.LawS4139CSorted': WHATEVER THE INPUT: true; the input reads as it did. -/
def lawS4139CSortedSpec : ChangeSpec := { name := "lawS4139CSorted", fn := fun _ => fun
  | [d1, d2] => { results := [.lit (.bool true)], args := [d1, d2] }
  | _ => none }
def lawS4139CSortedRow : OpenClaim := { program := "ybulkcgrs", sum := "56c5c52251a024573aee597b59c64dfc80002fdba9b948d175c6eee86a58d937", func := "example.com/parley/parley/pkg/xcsp3.LawS4139CSorted", spec := "lawS4139CSorted", recurses := true, apart := false }
def LawS4139CSortedSaid : Prop := lawS4139CSortedRow.holds Yba.pinned (OpenSpec.ofChange lawS4139CSortedSpec)

/-- ITS FALSE NEIGHBOUR: 'it returns false'. Refute it at one input. -/
def lawS4139CSortedWrong : ChangeSpec := { name := "lawS4139CSorted", fn := fun _ => fun
  | [d1, d2] => { results := [.lit (.bool false)], args := [d1, d2] }
  | _ => none }
def LawS4139CSortedWrongFalsely : Prop := lawS4139CSortedRow.holds Yba.pinned (OpenSpec.ofChange lawS4139CSortedWrong)

end Rows
end Go.Proofs.Ybulkcgrs
