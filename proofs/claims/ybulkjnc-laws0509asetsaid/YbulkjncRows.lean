/-
  No cell of these rows narrows 'for every input' (looked for: loops, veiled, ifaces, maps, wideKeys, modest, calm, conditions, laid).
  DERIVED. THE GIVEN ROWS OF THIS SEAT. 1 by the template 'for every input the law returns true; each argument reads behind the call as it read before'; 0 by the template 'total and deterministic' (their statements: YbulkjncTotals.lean).
  GIVEN WITH THE SEED: the statements are not yours to turn. If you find one false, say at which input.
  Laid BY PROGRAM, IN A SANDBOX (cutbox-rows.mjs): the forced cells as the released guide's own fill.sh prints them over the translation 151f821ea1c23313… (all of the seat's roots in one cut). By AI agents, Wed Nov 11 2026. No macro, syntax, notation, axiom, sorry.
-/
import Derived.Test.YbulkjncChecked
import GoSem.Claim
import GoSem.ClaimJoined
import GoSem.ClaimMapViews
import Derived.JoinedTies
import Derived.KernelRfl
namespace Go.Proofs.Ybulkjnc
/- THE CELL 'sum', in the pinned program and in every row, IS THE sha256 OF THE DUMP (.gsa) THAT YbulkjncProg.lean LOADS. Nothing in Lean hashes anything: it is a label: what it is worth is what the hold of that sum in a sandbox is worth. -/
noncomputable def Yba.pinned : Pinned := { name := "ybulkjnc", sum := "151f821ea1c233139507db0d5740f73bf452a1edaf092b81c5889e9980b450ee", checked := Yba.checked }
namespace Rows
def none {H : Type} : Left H := { results := [], args := [] }

/-- 'store.LawS0509ASet': WHATEVER THE INPUT: true; the input reads as it did. -/
def lawS0509ASetSpec : ChangeSpec := { name := "lawS0509ASet", fn := fun _ => fun
  | [d1, d2] => { results := [.lit (.bool true)], args := [d1, d2] }
  | _ => none }
def lawS0509ASetRow : OpenClaim := { program := "ybulkjnc", sum := "151f821ea1c233139507db0d5740f73bf452a1edaf092b81c5889e9980b450ee", func := "example.com/delaunet/delaunet/pkg/store.LawS0509ASet", spec := "lawS0509ASet", unfollowed := true, recurses := true, apart := false }
def LawS0509ASetSaid : Prop := lawS0509ASetRow.holds Yba.pinned (OpenSpec.ofChange lawS0509ASetSpec)

/-- ITS FALSE NEIGHBOUR: 'it returns false'. Refute it at one input. -/
def lawS0509ASetWrong : ChangeSpec := { name := "lawS0509ASet", fn := fun _ => fun
  | [d1, d2] => { results := [.lit (.bool false)], args := [d1, d2] }
  | _ => none }
def LawS0509ASetWrongFalsely : Prop := lawS0509ASetRow.holds Yba.pinned (OpenSpec.ofChange lawS0509ASetWrong)

end Rows
end Go.Proofs.Ybulkjnc
