/-
  No cell of these rows narrows 'for every input' (looked for: loops, veiled, ifaces, maps, wideKeys, modest, calm, conditions, laid).
  DERIVED. THE GIVEN ROWS OF THIS SEAT. 2 by the template 'for every input the law returns true; each argument reads behind the call as it read before'; 0 by the template 'total and deterministic' (their statements: YbulkjmoTotals.lean).
  GIVEN WITH THE SEED: the statements are not yours to turn. If you find one false, say at which input.
  Laid BY PROGRAM, IN A SANDBOX (cutbox-rows.mjs): the forced cells as the released guide's own fill.sh prints them over the translation b9bab229c5535fbe… (all of the seat's roots in one cut). By AI agents, Wed Nov 11 2026. No macro, syntax, notation, axiom, sorry.
-/
import Derived.Test.YbulkjmoChecked
import GoSem.Claim
import GoSem.ClaimJoined
import GoSem.ClaimMapViews
import Derived.JoinedTies
import Derived.KernelRfl
namespace Go.Proofs.Ybulkjmo
/- THE CELL 'sum', in the pinned program and in every row, IS THE sha256 OF THE DUMP (.gsa) THAT YbulkjmoProg.lean LOADS. Nothing in Lean hashes anything: it is a label: what it is worth is what the hold of that sum in a sandbox is worth. -/
noncomputable def Yba.pinned : Pinned := { name := "ybulkjmo", sum := "b9bab229c5535fbe5cd0c125ae5167f8c2f59e9a06c976f48df0d30eba69112f", checked := Yba.checked }
namespace Rows
def none {H : Type} : Left H := { results := [], args := [] }

/-- 'model.LawS0508BPairs': WHATEVER THE INPUT: true; the input reads as it did. -/
def lawS0508BPairsSpec : ChangeSpec := { name := "lawS0508BPairs", fn := fun _ => fun
  | [d1, d2] => { results := [.lit (.bool true)], args := [d1, d2] }
  | _ => none }
def lawS0508BPairsRow : OpenClaim := { program := "ybulkjmo", sum := "b9bab229c5535fbe5cd0c125ae5167f8c2f59e9a06c976f48df0d30eba69112f", func := "example.com/reeve/reeve/model.LawS0508BPairs", spec := "lawS0508BPairs", apart := false }
def LawS0508BPairsSaid : Prop := lawS0508BPairsRow.holds Yba.pinned (OpenSpec.ofChange lawS0508BPairsSpec)

/-- ITS FALSE NEIGHBOUR: 'it returns false'. Refute it at one input. -/
def lawS0508BPairsWrong : ChangeSpec := { name := "lawS0508BPairs", fn := fun _ => fun
  | [d1, d2] => { results := [.lit (.bool false)], args := [d1, d2] }
  | _ => none }
def LawS0508BPairsWrongFalsely : Prop := lawS0508BPairsRow.holds Yba.pinned (OpenSpec.ofChange lawS0508BPairsWrong)

/-- 'model.LawS0508BFresh': WHATEVER THE INPUT: true; the input reads as it did. -/
def lawS0508BFreshSpec : ChangeSpec := { name := "lawS0508BFresh", fn := fun _ => fun
  | [d1, d2] => { results := [.lit (.bool true)], args := [d1, d2] }
  | _ => none }
def lawS0508BFreshRow : OpenClaim := { program := "ybulkjmo", sum := "b9bab229c5535fbe5cd0c125ae5167f8c2f59e9a06c976f48df0d30eba69112f", func := "example.com/reeve/reeve/model.LawS0508BFresh", spec := "lawS0508BFresh", apart := false }
def LawS0508BFreshSaid : Prop := lawS0508BFreshRow.holds Yba.pinned (OpenSpec.ofChange lawS0508BFreshSpec)

/-- ITS FALSE NEIGHBOUR: 'it returns false'. Refute it at one input. -/
def lawS0508BFreshWrong : ChangeSpec := { name := "lawS0508BFresh", fn := fun _ => fun
  | [d1, d2] => { results := [.lit (.bool false)], args := [d1, d2] }
  | _ => none }
def LawS0508BFreshWrongFalsely : Prop := lawS0508BFreshRow.holds Yba.pinned (OpenSpec.ofChange lawS0508BFreshWrong)

end Rows
end Go.Proofs.Ybulkjmo
