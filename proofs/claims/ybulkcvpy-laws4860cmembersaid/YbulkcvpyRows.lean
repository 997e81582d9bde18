/-
  No cell of these rows narrows 'for every input' (looked for: loops, veiled, ifaces, maps, wideKeys, modest, calm, conditions, laid).
  DERIVED. THE GIVEN ROWS OF THIS SEAT. 2 by the template 'for every input the law returns true; each argument reads behind the call as it read before'; 0 by the template 'total and deterministic' (their statements: YbulkcvpyTotals.lean).
  GIVEN WITH THE SEED: the statements are not yours to turn. If you find one false, say at which input.
  Laid BY PROGRAM, IN A SANDBOX (cutbox-rows.mjs): the forced cells as the released guide's own fill.sh prints them over the translation c3ec06000cde0858… (all of the seat's roots in one cut). By AI agents, Wed Nov 11 2026. No macro, syntax, notation, axiom, sorry.
-/
import Derived.Test.YbulkcvpyChecked
import GoSem.Claim
import GoSem.ClaimJoined
import GoSem.ClaimMapViews
import Derived.JoinedTies
import Derived.KernelRfl
namespace Go.Proofs.Ybulkcvpy
/- THE CELL 'sum', in the pinned program and in every row, IS THE sha256 OF THE DUMP (.gsa) THAT YbulkcvpyProg.lean LOADS. Nothing in Lean hashes anything: it is a label: what it is worth is what the hold of that sum in a sandbox is worth. -/
noncomputable def Yba.pinned : Pinned := { name := "ybulkcvpy", sum := "c3ec06000cde085870b08b8e46b4ddf60b52bcef0c95dbfa56e0f37f91d08f51", checked := Yba.checked }
namespace Rows
def none {H : Type} : Left H := { results := [], args := [] }

/-- 'baseline.LawS4860CFirst': WHATEVER THE INPUT: true; the input reads as it did. -/
def lawS4860CFirstSpec : ChangeSpec := { name := "lawS4860CFirst", fn := fun _ => fun
  | [d1, d2] => { results := [.lit (.bool true)], args := [d1, d2] }
  | _ => none }
def lawS4860CFirstRow : OpenClaim := { program := "ybulkcvpy", sum := "c3ec06000cde085870b08b8e46b4ddf60b52bcef0c95dbfa56e0f37f91d08f51", func := "example.com/vouchstone/vouchstone/baseline.LawS4860CFirst", spec := "lawS4860CFirst", apart := false }
def LawS4860CFirstSaid : Prop := lawS4860CFirstRow.holds Yba.pinned (OpenSpec.ofChange lawS4860CFirstSpec)

/-- ITS FALSE NEIGHBOUR: 'it returns false'. Refute it at one input. -/
def lawS4860CFirstWrong : ChangeSpec := { name := "lawS4860CFirst", fn := fun _ => fun
  | [d1, d2] => { results := [.lit (.bool false)], args := [d1, d2] }
  | _ => none }
def LawS4860CFirstWrongFalsely : Prop := lawS4860CFirstRow.holds Yba.pinned (OpenSpec.ofChange lawS4860CFirstWrong)

/-- 'baseline.LawS4860CMember': WHATEVER THE INPUT: true; the input reads as it did. -/
def lawS4860CMemberSpec : ChangeSpec := { name := "lawS4860CMember", fn := fun _ => fun
  | [d1, d2] => { results := [.lit (.bool true)], args := [d1, d2] }
  | _ => none }
def lawS4860CMemberRow : OpenClaim := { program := "ybulkcvpy", sum := "c3ec06000cde085870b08b8e46b4ddf60b52bcef0c95dbfa56e0f37f91d08f51", func := "example.com/vouchstone/vouchstone/baseline.LawS4860CMember", spec := "lawS4860CMember", apart := false }
def LawS4860CMemberSaid : Prop := lawS4860CMemberRow.holds Yba.pinned (OpenSpec.ofChange lawS4860CMemberSpec)

/-- ITS FALSE NEIGHBOUR: 'it returns false'. Refute it at one input. -/
def lawS4860CMemberWrong : ChangeSpec := { name := "lawS4860CMember", fn := fun _ => fun
  | [d1, d2] => { results := [.lit (.bool false)], args := [d1, d2] }
  | _ => none }
def LawS4860CMemberWrongFalsely : Prop := lawS4860CMemberRow.holds Yba.pinned (OpenSpec.ofChange lawS4860CMemberWrong)

end Rows
end Go.Proofs.Ybulkcvpy
