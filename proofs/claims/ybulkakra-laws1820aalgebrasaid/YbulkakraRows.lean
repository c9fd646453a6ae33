/-
  No cell of these rows narrows 'for every input' (looked for: loops, veiled, ifaces, maps, wideKeys, modest, calm, conditions, laid).
  DERIVED. THE GIVEN ROWS OF THIS SEAT. 2 by the template 'for every input the law returns true; each argument reads behind the call as it read before'; 0 by the template 'total and deterministic' (their statements: YbulkakraTotals.lean).
  GIVEN WITH THE SEED: the statements are not yours to turn. If you find one false, say at which input.
  Laid BY PROGRAM, IN A SANDBOX (cutbox-rows.mjs): the forced cells as the released guide's own fill.sh prints them over the translation 9f0da39b434f3f25… (all of the seat's roots in one cut). By AI agents, Wed Nov 11 2026. No macro, syntax, notation, axiom, sorry.
-/
import Derived.Test.YbulkakraChecked
import GoSem.Claim
import GoSem.ClaimJoined
import GoSem.ClaimMapViews
import Derived.JoinedTies
import Derived.KernelRfl
namespace Go.Proofs.Ybulkakra
/- THE CELL 'sum', in the pinned program and in every row, IS THE sha256 OF THE DUMP (.gsa) THAT YbulkakraProg.lean LOADS. Nothing in Lean hashes anything: it is a label: what it is worth is what the hold of that sum in a sandbox is worth. -/
noncomputable def Yba.pinned : Pinned := { name := "ybulkakra", sum := "9f0da39b434f3f25436419f6854ef5b994bed9e30044c61669ba39f3aa40db50", checked := Yba.checked }
namespace Rows
def none {H : Type} : Left H := { results := [], args := [] }

/-- 'diagram.LawS1820AExact': WHATEVER THE INPUT: true; the input reads as it did. -/
def lawS1820AExactSpec : ChangeSpec := { name := "lawS1820AExact", fn := fun _ => fun
  | [d1, d2] => { results := [.lit (.bool true)], args := [d1, d2] }
  | _ => none }
def lawS1820AExactRow : OpenClaim := { program := "ybulkakra", sum := "9f0da39b434f3f25436419f6854ef5b994bed9e30044c61669ba39f3aa40db50", func := "example.com/quorumscope/quorumscope/diagram.LawS1820AExact", spec := "lawS1820AExact", unfollowed := true, recurses := true, apart := false }
def LawS1820AExactSaid : Prop := lawS1820AExactRow.holds Yba.pinned (OpenSpec.ofChange lawS1820AExactSpec)

/-- ITS FALSE NEIGHBOUR: 'it returns false'. Refute it at one input. -/
def lawS1820AExactWrong : ChangeSpec := { name := "lawS1820AExact", fn := fun _ => fun
  | [d1, d2] => { results := [.lit (.bool false)], args := [d1, d2] }
  | _ => none }
def LawS1820AExactWrongFalsely : Prop := lawS1820AExactRow.holds Yba.pinned (OpenSpec.ofChange lawS1820AExactWrong)

/-- 'diagram.LawS1820AAlgebra': WHATEVER THE INPUT: true; the input reads as it did. -/
def lawS1820AAlgebraSpec : ChangeSpec := { name := "lawS1820AAlgebra", fn := fun _ => fun
  | [d1, d2, d3] => { results := [.lit (.bool true)], args := [d1, d2, d3] }
  | _ => none }
def lawS1820AAlgebraRow : OpenClaim := { program := "ybulkakra", sum := "9f0da39b434f3f25436419f6854ef5b994bed9e30044c61669ba39f3aa40db50", func := "example.com/quorumscope/quorumscope/diagram.LawS1820AAlgebra", spec := "lawS1820AAlgebra", unfollowed := true, recurses := true, apart := false }
def LawS1820AAlgebraSaid : Prop := lawS1820AAlgebraRow.holds Yba.pinned (OpenSpec.ofChange lawS1820AAlgebraSpec)

/-- ITS FALSE NEIGHBOUR: 'it returns false'. Refute it at one input. -/
def lawS1820AAlgebraWrong : ChangeSpec := { name := "lawS1820AAlgebra", fn := fun _ => fun
  | [d1, d2, d3] => { results := [.lit (.bool false)], args := [d1, d2, d3] }
  | _ => none }
def LawS1820AAlgebraWrongFalsely : Prop := lawS1820AAlgebraRow.holds Yba.pinned (OpenSpec.ofChange lawS1820AAlgebraWrong)

end Rows
end Go.Proofs.Ybulkakra
