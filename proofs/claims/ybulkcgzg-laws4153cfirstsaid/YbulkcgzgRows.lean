/-
  No cell of these rows narrows 'for every input' (looked for: loops, veiled, ifaces, maps, wideKeys, modest, calm, conditions, laid).
  DERIVED. THE GIVEN ROWS OF THIS SEAT. 1 by the template 'for every input the law returns true; each argument reads behind the call as it read before'; 0 by the template 'total and deterministic' (their statements: YbulkcgzgTotals.lean).
  GIVEN WITH THE SEED: the statements are not yours to turn. If you find one false, say at which input.
  Laid BY PROGRAM, IN A SANDBOX (cutbox-rows.mjs): the forced cells as the released guide's own fill.sh prints them over the translation ae5b8d05e48c4c38… (all of the seat's roots in one cut). By AI agents, Wed Nov 11 2026. No macro, syntax, notation, axiom, sorry.
-/
import Derived.Test.YbulkcgzgChecked
import GoSem.Claim
import GoSem.ClaimJoined
import GoSem.ClaimMapViews
import Derived.JoinedTies
import Derived.KernelRfl
namespace Go.Proofs.Ybulkcgzg
/- THE CELL 'sum', in the pinned program and in every row, IS THE sha256 OF THE DUMP (.gsa) THAT YbulkcgzgProg.lean LOADS. Nothing in Lean hashes anything: it is a label: what it is worth is what the hold of that sum in a sandbox is worth. -/
noncomputable def Yba.pinned : Pinned := { name := "ybulkcgzg", sum := "ae5b8d05e48c4c3885c1222c3743211b14b6842accf2358b18e5558008468b6e", checked := Yba.checked }
namespace Rows
def none {H : Type} : Left H := { results := [], args := [] }

/-- 'rule.LawS4153CFirst': WHATEVER THE INPUT: true; the input reads as it did. -/
def lawS4153CFirstSpec : ChangeSpec := { name := "lawS4153CFirst", fn := fun _ => fun
  | [d1, d2] => { results := [.lit (.bool true)], args := [d1, d2] }
  | _ => none }
def lawS4153CFirstRow : OpenClaim := { program := "ybulkcgzg", sum := "ae5b8d05e48c4c3885c1222c3743211b14b6842accf2358b18e5558008468b6e", func := "example.com/harrier/harrier/pkg/rule.LawS4153CFirst", spec := "lawS4153CFirst", unfollowed := true, recurses := true, apart := false }
def LawS4153CFirstSaid : Prop := lawS4153CFirstRow.holds Yba.pinned (OpenSpec.ofChange lawS4153CFirstSpec)

/-- ITS FALSE NEIGHBOUR: 'it returns false'. Refute it at one input. -/
def lawS4153CFirstWrong : ChangeSpec := { name := "lawS4153CFirst", fn := fun _ => fun
  | [d1, d2] => { results := [.lit (.bool false)], args := [d1, d2] }
  | _ => none }
def LawS4153CFirstWrongFalsely : Prop := lawS4153CFirstRow.holds Yba.pinned (OpenSpec.ofChange lawS4153CFirstWrong)

end Rows
end Go.Proofs.Ybulkcgzg
