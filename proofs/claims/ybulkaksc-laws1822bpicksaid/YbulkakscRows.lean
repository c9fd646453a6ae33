/-
  No cell of these rows narrows 'for every input' (looked for: loops, veiled, ifaces, maps, wideKeys, modest, calm, conditions, laid).
  DERIVED. THE GIVEN ROWS OF THIS SEAT. 2 by the template 'for every input the law returns true; each argument reads behind the call as it read before'; 0 by the template 'total and deterministic' (their statements: YbulkakscTotals.lean).
  GIVEN WITH THE SEED: the statements are not yours to turn. If you find one false, say at which input.
  Laid BY PROGRAM, IN A SANDBOX (cutbox-rows.mjs): the forced cells as the released guide's own fill.sh prints them over the translation 9c3258f8b2ca648a… (all of the seat's roots in one cut). By AI agents, Wed Nov 11 2026. No macro, syntax, notation, axiom, sorry.
-/
import Derived.Test.YbulkakscChecked
import GoSem.Claim
import GoSem.ClaimJoined
import GoSem.ClaimMapViews
import Derived.JoinedTies
import Derived.KernelRfl
namespace Go.Proofs.Ybulkaksc
/- THE CELL 'sum', in the pinned program and in every row, IS THE sha256 OF THE DUMP (.gsa) THAT YbulkakscProg.lean LOADS. Nothing in Lean hashes anything: it is a label: what it is worth is what the hold of that sum in a sandbox is worth. -/
noncomputable def Yba.pinned : Pinned := { name := "ybulkaksc", sum := "9c3258f8b2ca648a2930e8f20a89fc721e12cd49f6855ee819d49b56a0f39164", checked := Yba.checked }
namespace Rows
def none {H : Type} : Left H := { results := [], args := [] }

/-- 'engine.LawS1822BPick': WHATEVER THE INPUT: true; the input reads as it did. -/
def lawS1822BPickSpec : ChangeSpec := { name := "lawS1822BPick", fn := fun _ => fun
  | [d1, d2] => { results := [.lit (.bool true)], args := [d1, d2] }
  | _ => none }
def lawS1822BPickRow : OpenClaim := { program := "ybulkaksc", sum := "9c3258f8b2ca648a2930e8f20a89fc721e12cd49f6855ee819d49b56a0f39164", func := "example.com/why2/why2/internal/engine.LawS1822BPick", spec := "lawS1822BPick", apart := false }
def LawS1822BPickSaid : Prop := lawS1822BPickRow.holds Yba.pinned (OpenSpec.ofChange lawS1822BPickSpec)

/-- ITS FALSE NEIGHBOUR: 'it returns false'. Refute it at one input. -/
def lawS1822BPickWrong : ChangeSpec := { name := "lawS1822BPick", fn := fun _ => fun
  | [d1, d2] => { results := [.lit (.bool false)], args := [d1, d2] }
  | _ => none }
def LawS1822BPickWrongFalsely : Prop := lawS1822BPickRow.holds Yba.pinned (OpenSpec.ofChange lawS1822BPickWrong)

/-- 'engine.LawS1822BShared': WHATEVER THE INPUT: true; the input reads as it did. -/
def lawS1822BSharedSpec : ChangeSpec := { name := "lawS1822BShared", fn := fun _ => fun
  | [d1, d2] => { results := [.lit (.bool true)], args := [d1, d2] }
  | _ => none }
def lawS1822BSharedRow : OpenClaim := { program := "ybulkaksc", sum := "9c3258f8b2ca648a2930e8f20a89fc721e12cd49f6855ee819d49b56a0f39164", func := "example.com/why2/why2/internal/engine.LawS1822BShared", spec := "lawS1822BShared", apart := false }
def LawS1822BSharedSaid : Prop := lawS1822BSharedRow.holds Yba.pinned (OpenSpec.ofChange lawS1822BSharedSpec)

/-- ITS FALSE NEIGHBOUR: 'it returns false'. Refute it at one input. -/
def lawS1822BSharedWrong : ChangeSpec := { name := "lawS1822BShared", fn := fun _ => fun
  | [d1, d2] => { results := [.lit (.bool false)], args := [d1, d2] }
  | _ => none }
def LawS1822BSharedWrongFalsely : Prop := lawS1822BSharedRow.holds Yba.pinned (OpenSpec.ofChange lawS1822BSharedWrong)

end Rows
end Go.Proofs.Ybulkaksc
