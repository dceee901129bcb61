/-
  No cell of these rows narrows 'for every input' (looked for: loops, veiled, ifaces, maps, wideKeys, modest, calm, conditions, laid).
  DERIVED. THE GIVEN ROWS OF THIS SEAT. 3 by the template 'for every input the law returns true; each argument reads behind the call as it read before'; 0 by the template 'total and deterministic' (their statements: YbulkjnqTotals.lean).
  GIVEN WITH THE SEED: the statements are not yours to turn. If you find one false, say at which input.
  Laid BY PROGRAM, IN A SANDBOX (cutbox-rows.mjs): the forced cells as the released guide's own fill.sh prints them over the translation fa054b916422d65f… (all of the seat's roots in one cut). By AI agents, Wed Nov 11 2026. No macro, syntax, notation, axiom, sorry.
-/
import Derived.Test.YbulkjnqChecked
import GoSem.Claim
import GoSem.ClaimJoined
import GoSem.ClaimMapViews
import Derived.JoinedTies
import Derived.KernelRfl
namespace Go.Proofs.Ybulkjnq
/- THE CELL 'sum', in the pinned program and in every row, IS THE sha256 OF THE DUMP (.gsa) THAT YbulkjnqProg.lean LOADS. Nothing in Lean hashes anything: it is a label: what it is worth is what the hold of that sum in a sandbox is worth. -/
noncomputable def Yba.pinned : Pinned := { name := "ybulkjnq", sum := "fa054b916422d65fc84456e5da0f82fa7ba6441923952266594f3ce76334839d", checked := Yba.checked }
namespace Rows
def none {H : Type} : Left H := { results := [], args := [] }

/-- 'tideline.LawS0510AFields': WHATEVER THE INPUT: true; the input reads as it did. -/
def lawS0510AFieldsSpec : ChangeSpec := { name := "lawS0510AFields", fn := fun _ => fun
  | [d1, d2, d3, d4, d5, d6] => { results := [.lit (.bool true)], args := [d1, d2, d3, d4, d5, d6] }
  | _ => none }
def lawS0510AFieldsRow : OpenClaim := { program := "ybulkjnq", sum := "fa054b916422d65fc84456e5da0f82fa7ba6441923952266594f3ce76334839d", func := "example.com/tideline/tideline.LawS0510AFields", spec := "lawS0510AFields", apart := false }
def LawS0510AFieldsSaid : Prop := lawS0510AFieldsRow.holds Yba.pinned (OpenSpec.ofChange lawS0510AFieldsSpec)

/-- ITS FALSE NEIGHBOUR: 'it returns false'. Refute it at one input. -/
def lawS0510AFieldsWrong : ChangeSpec := { name := "lawS0510AFields", fn := fun _ => fun
  | [d1, d2, d3, d4, d5, d6] => { results := [.lit (.bool false)], args := [d1, d2, d3, d4, d5, d6] }
  | _ => none }
def LawS0510AFieldsWrongFalsely : Prop := lawS0510AFieldsRow.holds Yba.pinned (OpenSpec.ofChange lawS0510AFieldsWrong)

/-- 'tideline.LawS0510ALastSeen': WHATEVER THE INPUT: true; the input reads as it did. -/
def lawS0510ALastSeenSpec : ChangeSpec := { name := "lawS0510ALastSeen", fn := fun _ => fun
  | [d1, d2, d3, d4, d5] => { results := [.lit (.bool true)], args := [d1, d2, d3, d4, d5] }
  | _ => none }
def lawS0510ALastSeenRow : OpenClaim := { program := "ybulkjnq", sum := "fa054b916422d65fc84456e5da0f82fa7ba6441923952266594f3ce76334839d", func := "example.com/tideline/tideline.LawS0510ALastSeen", spec := "lawS0510ALastSeen", apart := false }
def LawS0510ALastSeenSaid : Prop := lawS0510ALastSeenRow.holds Yba.pinned (OpenSpec.ofChange lawS0510ALastSeenSpec)

/-- ITS FALSE NEIGHBOUR: 'it returns false'. Refute it at one input. -/
def lawS0510ALastSeenWrong : ChangeSpec := { name := "lawS0510ALastSeen", fn := fun _ => fun
  | [d1, d2, d3, d4, d5] => { results := [.lit (.bool false)], args := [d1, d2, d3, d4, d5] }
  | _ => none }
def LawS0510ALastSeenWrongFalsely : Prop := lawS0510ALastSeenRow.holds Yba.pinned (OpenSpec.ofChange lawS0510ALastSeenWrong)

/-- 'peerwire.LawS0510BLookup': WHATEVER THE INPUT: true; the input reads as it did. -/
def lawS0510BLookupSpec : ChangeSpec := { name := "lawS0510BLookup", fn := fun _ => fun
  | [d1, d2, d3, d4, d5] => { results := [.lit (.bool true)], args := [d1, d2, d3, d4, d5] }
  | _ => none }
def lawS0510BLookupRow : OpenClaim := { program := "ybulkjnq", sum := "fa054b916422d65fc84456e5da0f82fa7ba6441923952266594f3ce76334839d", func := "example.com/tideline/tideline/internal/peerwire.LawS0510BLookup", spec := "lawS0510BLookup", apart := false }
def LawS0510BLookupSaid : Prop := lawS0510BLookupRow.holds Yba.pinned (OpenSpec.ofChange lawS0510BLookupSpec)

/-- ITS FALSE NEIGHBOUR: 'it returns false'. Refute it at one input. -/
def lawS0510BLookupWrong : ChangeSpec := { name := "lawS0510BLookup", fn := fun _ => fun
  | [d1, d2, d3, d4, d5] => { results := [.lit (.bool false)], args := [d1, d2, d3, d4, d5] }
  | _ => none }
def LawS0510BLookupWrongFalsely : Prop := lawS0510BLookupRow.holds Yba.pinned (OpenSpec.ofChange lawS0510BLookupWrong)

end Rows
end Go.Proofs.Ybulkjnq
