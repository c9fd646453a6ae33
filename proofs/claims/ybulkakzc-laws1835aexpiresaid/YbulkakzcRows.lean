/-
  No cell of these rows narrows 'for every input' (looked for: loops, veiled, ifaces, maps, wideKeys, modest, calm, conditions, laid).
  DERIVED. THE GIVEN ROWS OF THIS SEAT. 2 by the template 'for every input the law returns true; each argument reads behind the call as it read before'; 0 by the template 'total and deterministic' (their statements: YbulkakzcTotals.lean).
  GIVEN WITH THE SEED: the statements are not yours to turn. If you find one false, say at which input.
  Laid BY PROGRAM, IN A SANDBOX (cutbox-rows.mjs): the forced cells as the released guide's own fill.sh prints them over the translation fcacec2d844c0cfd… (all of the seat's roots in one cut). By AI agents, Wed Nov 11 2026. No macro, syntax, notation, axiom, sorry.
-/
import Derived.Test.YbulkakzcChecked
import GoSem.Claim
import GoSem.ClaimJoined
import GoSem.ClaimMapViews
import Derived.JoinedTies
import Derived.KernelRfl
namespace Go.Proofs.Ybulkakzc
/- THE CELL 'sum', in the pinned program and in every row, IS THE sha256 OF THE DUMP (.gsa) THAT YbulkakzcProg.lean LOADS. Nothing in Lean hashes anything: it is a label: what it is worth is what the hold of that sum in a sandbox is worth. -/
noncomputable def Yba.pinned : Pinned := { name := "ybulkakzc", sum := "fcacec2d844c0cfdf59f382e1e424f307d9ae6274fa532b6fdd69728ab5a1e73", checked := Yba.checked }
namespace Rows
def none {H : Type} : Left H := { results := [], args := [] }

/-- 'tailgram.LawS1835AExpire': WHATEVER THE INPUT: true; the input reads as it did. -/
def lawS1835AExpireSpec : ChangeSpec := { name := "lawS1835AExpire", fn := fun _ => fun
  | [d1, d2, d3, d4, d5, d6] => { results := [.lit (.bool true)], args := [d1, d2, d3, d4, d5, d6] }
  | _ => none }
def lawS1835AExpireRow : OpenClaim := { program := "ybulkakzc", sum := "fcacec2d844c0cfdf59f382e1e424f307d9ae6274fa532b6fdd69728ab5a1e73", func := "example.com/tailgram/tailgram.LawS1835AExpire", spec := "lawS1835AExpire", plainKeys := false, apart := false }
def LawS1835AExpireSaid : Prop := lawS1835AExpireRow.holds Yba.pinned (OpenSpec.ofChange lawS1835AExpireSpec)

/-- ITS FALSE NEIGHBOUR: 'it returns false'. Refute it at one input. -/
def lawS1835AExpireWrong : ChangeSpec := { name := "lawS1835AExpire", fn := fun _ => fun
  | [d1, d2, d3, d4, d5, d6] => { results := [.lit (.bool false)], args := [d1, d2, d3, d4, d5, d6] }
  | _ => none }
def LawS1835AExpireWrongFalsely : Prop := lawS1835AExpireRow.holds Yba.pinned (OpenSpec.ofChange lawS1835AExpireWrong)

/-- 'tailgram.LawS1835CAbandon': WHATEVER THE INPUT: true; the input reads as it did. -/
def lawS1835CAbandonSpec : ChangeSpec := { name := "lawS1835CAbandon", fn := fun _ => fun
  | [d1, d2, d3] => { results := [.lit (.bool true)], args := [d1, d2, d3] }
  | _ => none }
def lawS1835CAbandonRow : OpenClaim := { program := "ybulkakzc", sum := "fcacec2d844c0cfdf59f382e1e424f307d9ae6274fa532b6fdd69728ab5a1e73", func := "example.com/tailgram/tailgram.LawS1835CAbandon", spec := "lawS1835CAbandon", plainKeys := false, apart := false }
def LawS1835CAbandonSaid : Prop := lawS1835CAbandonRow.holds Yba.pinned (OpenSpec.ofChange lawS1835CAbandonSpec)

/-- ITS FALSE NEIGHBOUR: 'it returns false'. Refute it at one input. -/
def lawS1835CAbandonWrong : ChangeSpec := { name := "lawS1835CAbandon", fn := fun _ => fun
  | [d1, d2, d3] => { results := [.lit (.bool false)], args := [d1, d2, d3] }
  | _ => none }
def LawS1835CAbandonWrongFalsely : Prop := lawS1835CAbandonRow.holds Yba.pinned (OpenSpec.ofChange lawS1835CAbandonWrong)

end Rows
end Go.Proofs.Ybulkakzc
