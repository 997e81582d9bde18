/-
  No cell of these rows narrows 'for every input' (looked for: loops, veiled, ifaces, maps, wideKeys, modest, calm, conditions, laid).
  DERIVED. THE GIVEN ROWS OF THIS SEAT. 2 by the template 'for every input the law returns true; each argument reads behind the call as it read before'; 0 by the template 'total and deterministic' (their statements: YbulkcvlcTotals.lean).
  GIVEN WITH THE SEED: the statements are not yours to turn. If you find one false, say at which input.
  Laid BY PROGRAM, IN A SANDBOX (cutbox-rows.mjs): the forced cells as the released guide's own fill.sh prints them over the translation 406cc95062a9fff9… (all of the seat's roots in one cut). By AI agents, Wed Nov 11 2026. No macro, syntax, notation, axiom, sorry.
-/
import Derived.Test.YbulkcvlcChecked
import GoSem.Claim
import GoSem.ClaimJoined
import GoSem.ClaimMapViews
import Derived.JoinedTies
import Derived.KernelRfl
namespace Go.Proofs.Ybulkcvlc
/- THE CELL 'sum', in the pinned program and in every row, IS THE sha256 OF THE DUMP (.gsa) THAT YbulkcvlcProg.lean LOADS. Nothing in Lean hashes anything: it is a label: what it is worth is what the hold of that sum in a sandbox is worth. -/
noncomputable def Yba.pinned : Pinned := { name := "ybulkcvlc", sum := "406cc95062a9fff9cfbfc98378469f26564825b4e3cad1d3ed7c0a11f1d525c6", checked := Yba.checked }
namespace Rows
def none {H : Type} : Left H := { results := [], args := [] }

/-- 'registry.LawS4851CTable': WHATEVER THE INPUT: true; the input reads as it did. -/
def lawS4851CTableSpec : ChangeSpec := { name := "lawS4851CTable", fn := fun _ => fun
  | [d] => { results := [.lit (.bool true)], args := [d] }
  | _ => none }
def lawS4851CTableRow : OpenClaim := { program := "ybulkcvlc", sum := "406cc95062a9fff9cfbfc98378469f26564825b4e3cad1d3ed7c0a11f1d525c6", func := "example.com/cartulary/cartulary/internal/registry.LawS4851CTable", spec := "lawS4851CTable", apart := false }
def LawS4851CTableSaid : Prop := lawS4851CTableRow.holds Yba.pinned (OpenSpec.ofChange lawS4851CTableSpec)

/-- ITS FALSE NEIGHBOUR: 'it returns false'. Refute it at one input. -/
def lawS4851CTableWrong : ChangeSpec := { name := "lawS4851CTable", fn := fun _ => fun
  | [d] => { results := [.lit (.bool false)], args := [d] }
  | _ => none }
def LawS4851CTableWrongFalsely : Prop := lawS4851CTableRow.holds Yba.pinned (OpenSpec.ofChange lawS4851CTableWrong)

/-- 'registry.LawS4851CFold': WHATEVER THE INPUT: true; the input reads as it did. -/
def lawS4851CFoldSpec : ChangeSpec := { name := "lawS4851CFold", fn := fun _ => fun
  | [d] => { results := [.lit (.bool true)], args := [d] }
  | _ => none }
def lawS4851CFoldRow : OpenClaim := { program := "ybulkcvlc", sum := "406cc95062a9fff9cfbfc98378469f26564825b4e3cad1d3ed7c0a11f1d525c6", func := "example.com/cartulary/cartulary/internal/registry.LawS4851CFold", spec := "lawS4851CFold", apart := false }
def LawS4851CFoldSaid : Prop := lawS4851CFoldRow.holds Yba.pinned (OpenSpec.ofChange lawS4851CFoldSpec)

/-- ITS FALSE NEIGHBOUR: 'it returns false'. Refute it at one input. -/
def lawS4851CFoldWrong : ChangeSpec := { name := "lawS4851CFold", fn := fun _ => fun
  | [d] => { results := [.lit (.bool false)], args := [d] }
  | _ => none }
def LawS4851CFoldWrongFalsely : Prop := lawS4851CFoldRow.holds Yba.pinned (OpenSpec.ofChange lawS4851CFoldWrong)

end Rows
end Go.Proofs.Ybulkcvlc
