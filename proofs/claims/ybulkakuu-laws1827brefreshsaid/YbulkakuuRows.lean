/-
  No cell of these rows narrows 'for every input' (looked for: loops, veiled, ifaces, maps, wideKeys, modest, calm, conditions, laid).
  DERIVED. THE GIVEN ROWS OF THIS SEAT. 3 by the template 'for every input the law returns true; each argument reads behind the call as it read before'; 0 by the template 'total and deterministic' (their statements: YbulkakuuTotals.lean).
  GIVEN WITH THE SEED: the statements are not yours to turn. If you find one false, say at which input.
  Laid BY PROGRAM, IN A SANDBOX (cutbox-rows.mjs): the forced cells as the released guide's own fill.sh prints them over the translation 29b92842bd592c25… (all of the seat's roots in one cut). By AI agents, Wed Nov 11 2026. No macro, syntax, notation, axiom, sorry.
-/
import Derived.Test.YbulkakuuChecked
import GoSem.Claim
import GoSem.ClaimJoined
import GoSem.ClaimMapViews
import Derived.JoinedTies
import Derived.KernelRfl
namespace Go.Proofs.Ybulkakuu
/- THE CELL 'sum', in the pinned program and in every row, IS THE sha256 OF THE DUMP (.gsa) THAT YbulkakuuProg.lean LOADS. Nothing in Lean hashes anything: it is a label: what it is worth is what the hold of that sum in a sandbox is worth. -/
noncomputable def Yba.pinned : Pinned := { name := "ybulkakuu", sum := "29b92842bd592c25afbffb50e8cdcfb879b82bda54a8cddd29ace4dc67a7bdff", checked := Yba.checked }
namespace Rows
def none {H : Type} : Left H := { results := [], args := [] }

/-- 'isolario.LawS1827BRefresh': WHATEVER THE INPUT: true; the input reads as it did. -/
def lawS1827BRefreshSpec : ChangeSpec := { name := "lawS1827BRefresh", fn := fun _ => fun
  | [d1, d2] => { results := [.lit (.bool true)], args := [d1, d2] }
  | _ => none }
def lawS1827BRefreshRow : OpenClaim := { program := "ybulkakuu", sum := "29b92842bd592c25afbffb50e8cdcfb879b82bda54a8cddd29ace4dc67a7bdff", func := "example.com/isolario/isolario.LawS1827BRefresh", spec := "lawS1827BRefresh", apart := false }
def LawS1827BRefreshSaid : Prop := lawS1827BRefreshRow.holds Yba.pinned (OpenSpec.ofChange lawS1827BRefreshSpec)

/-- ITS FALSE NEIGHBOUR: 'it returns false'. Refute it at one input. -/
def lawS1827BRefreshWrong : ChangeSpec := { name := "lawS1827BRefresh", fn := fun _ => fun
  | [d1, d2] => { results := [.lit (.bool false)], args := [d1, d2] }
  | _ => none }
def LawS1827BRefreshWrongFalsely : Prop := lawS1827BRefreshRow.holds Yba.pinned (OpenSpec.ofChange lawS1827BRefreshWrong)

/-- 'isolario.LawS1827CJoin': WHATEVER THE INPUT: true; the input reads as it did. -/
def lawS1827CJoinSpec : ChangeSpec := { name := "lawS1827CJoin", fn := fun _ => fun
  | [d1, d2] => { results := [.lit (.bool true)], args := [d1, d2] }
  | _ => none }
def lawS1827CJoinRow : OpenClaim := { program := "ybulkakuu", sum := "29b92842bd592c25afbffb50e8cdcfb879b82bda54a8cddd29ace4dc67a7bdff", func := "example.com/isolario/isolario.LawS1827CJoin", spec := "lawS1827CJoin", apart := false }
def LawS1827CJoinSaid : Prop := lawS1827CJoinRow.holds Yba.pinned (OpenSpec.ofChange lawS1827CJoinSpec)

/-- ITS FALSE NEIGHBOUR: 'it returns false'. Refute it at one input. -/
def lawS1827CJoinWrong : ChangeSpec := { name := "lawS1827CJoin", fn := fun _ => fun
  | [d1, d2] => { results := [.lit (.bool false)], args := [d1, d2] }
  | _ => none }
def LawS1827CJoinWrongFalsely : Prop := lawS1827CJoinRow.holds Yba.pinned (OpenSpec.ofChange lawS1827CJoinWrong)

/-- 'isolario.LawS1827CForest': WHATEVER THE INPUT: true; the input reads as it did. -/
def lawS1827CForestSpec : ChangeSpec := { name := "lawS1827CForest", fn := fun _ => fun
  | [d1, d2] => { results := [.lit (.bool true)], args := [d1, d2] }
  | _ => none }
def lawS1827CForestRow : OpenClaim := { program := "ybulkakuu", sum := "29b92842bd592c25afbffb50e8cdcfb879b82bda54a8cddd29ace4dc67a7bdff", func := "example.com/isolario/isolario.LawS1827CForest", spec := "lawS1827CForest", apart := false }
def LawS1827CForestSaid : Prop := lawS1827CForestRow.holds Yba.pinned (OpenSpec.ofChange lawS1827CForestSpec)

/-- ITS FALSE NEIGHBOUR: 'it returns false'. Refute it at one input. -/
def lawS1827CForestWrong : ChangeSpec := { name := "lawS1827CForest", fn := fun _ => fun
  | [d1, d2] => { results := [.lit (.bool false)], args := [d1, d2] }
  | _ => none }
def LawS1827CForestWrongFalsely : Prop := lawS1827CForestRow.holds Yba.pinned (OpenSpec.ofChange lawS1827CForestWrong)

end Rows
end Go.Proofs.Ybulkakuu
