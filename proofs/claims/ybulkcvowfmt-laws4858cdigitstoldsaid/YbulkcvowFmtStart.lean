/- The start that is shown to be there: a world in which the five listed variables hold what the row lists. -/
import Derived.Test.YbulkcvowFmtRows
import Derived.Deep.DeepWitnessRowRef
import Derived.Deep.DeepWitnessRef
import Derived.Lib.LaidIn
import Derived.ProofKit
namespace Go.Proofs.YbulkcvowFmt

/-- the cells of a table of numbers -/
def litCells (d : DataW Unit) : Array Value :=
  match d with
  | .agg ds => (ds.map fun x => match x with
    | .lit (.int k n) => Value.int k n
    | _ => undef).toArray
  | _ => #[]
/-- the text of a sentinel -/
def litText (d : DataW Unit) : ByteArray :=
  match d with
  | .iface _ (.ptr (.agg [.lit (.string bs)])) => ⟨bs.toArray⟩
  | _ => ByteArray.empty
def putVar (h : Array Obj) (g : Nat) (cs : Array Value) : Array Obj := h.modify g fun
  | .cells _ t frozen => .cells cs t frozen
  | o => o

def laidWorld (P : Program) (os : Os) : World :=
  let N := (World.settled P os).heap.size
  let w0 := World.holding P os ⟨#[.cells #[.string (litText Rows.laid_strconv_ErrRange)] 46, .cells #[.string (litText Rows.laid_strconv_ErrSyntax)] 46], #[], []⟩
  let h0 := putVar (putVar w0.heap 0 #[.iface 44 (.pointer (some ⟨N + 1, 0, none⟩))]) 1 #[.iface 44 (.pointer (some ⟨N, 0, none⟩))]
  let h1 := putVar (putVar (putVar h0 2 (litCells Rows.laid_internal_strconv_uint64pow10)) 3 (litCells Rows.laid_math_bits_deBruijn32tab)) 4 (litCells Rows.laid_math_bits_deBruijn64tab)
  { w0 with heap := h1 }

set_option maxRecDepth 1000000 in
theorem laid_met (os : Os) (args : Array Value) : laidMet Ybaf.prog Rows.lawS4858CModelRow.laid ((laidWorld Ybaf.prog os).forCall (fun _ _ => 0) ⟨#[], args, []⟩).memory :=
  (LaidIn.of_run [0, 1, 2, 3, 4, (World.settled Ybaf.prog default).heap.size, (World.settled Ybaf.prog default).heap.size + 1] 10 (by kernel_rfl) (by kernel_rfl) (by kernel_rfl) (by kernel_rfl) :
    LaidIn Ybaf.prog ((laidWorld Ybaf.prog os).forCall (fun _ _ => 0) ⟨#[], args, []⟩).memory Rows.lawS4858CModelRow.laid _).met

theorem model_start (os : Os) {H : Type} (enc : TypeId × Value → H) :
    (OpenSpec.ofChange Rows.lawS4858CModelSpec).preRow enc Ybaf.prog Ybaf.f3 Rows.lawS4858CModelRow.domain false Rows.lawS4858CModelRow.laid ((laidWorld Ybaf.prog os).forCall (fun _ _ => 0) ⟨#[], #[.string ⟨#[]⟩], []⟩).memory #[.string ⟨#[]⟩] := by
  have hw : (DataW.whole enc Ybaf.prog ((laidWorld Ybaf.prog os).forCall (fun _ _ => 0) ⟨#[], #[.string ⟨#[]⟩], []⟩).memory Ybaf.f3.params.toList (OpenSpec.ofChange Rows.lawS4858CModelSpec).vars false #[Value.string ⟨#[]⟩].toList 8).map (fun x => (x.1, x.2.1)) =
      some ([.lit (.string [])], []) := by kernel_rfl
  obtain ⟨⟨x1, x2, x3⟩, hx, hx1⟩ := Option.map_eq_some_iff.1 hw
  simp only [Prod.mk.injEq] at hx1
  obtain ⟨rfl, rfl⟩ := hx1
  exact OpenSpec.preRow_of_cond 8 hx (by kernel_rfl) (fun k hk => by cases hk) (by kernel_rfl) (laid_met os _)

end Go.Proofs.YbulkcvowFmt
