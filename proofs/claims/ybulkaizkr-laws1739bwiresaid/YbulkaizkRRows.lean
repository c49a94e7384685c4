/-
  No cell of these rows narrows 'for every input' (looked for: loops, veiled, ifaces, maps, wideKeys, modest, calm, conditions, laid).
  DERIVED. THE GIVEN ROWS OF THIS SEAT. 1 by the template 'for every input the law returns true; each argument reads behind the call as it read before'; 0 by the template 'total and deterministic' (their statements: YbulkaizkRTotals.lean).
  GIVEN WITH THE SEED: the statements are not yours to turn. If you find one false, say at which input.
  Laid BY PROGRAM, IN A SANDBOX (cutbox-rows.mjs): the forced cells as the released guide's own fill.sh prints them over the translation 43a68ecb7d079feb… (all of the seat's roots in one cut). By AI agents, Wed Nov 11 2026. No macro, syntax, notation, axiom, sorry.
-/
import Derived.Test.YbulkaizkRChecked
import GoSem.Claim
import GoSem.ClaimJoined
import GoSem.ClaimMapViews
import Derived.JoinedTies
import Derived.KernelRfl
namespace Go.Proofs.YbulkaizkR
/- THE CELL 'sum', in the pinned program and in every row, IS THE sha256 OF THE DUMP (.gsa) THAT YbulkaizkRProg.lean LOADS. Nothing in Lean hashes anything: it is a label: what it is worth is what the hold of that sum in a sandbox is worth. -/
noncomputable def Yba.pinned : Pinned := { name := "ybulkaizkr", sum := "43a68ecb7d079febcfa118222a6cb5840eb4bcb9400f54e81c6b0e03fbe63dba", checked := Yba.checked }
namespace Rows
def none {H : Type} : Left H := { results := [], args := [] }

/-- 'ike.LawS1739BWire': WHATEVER THE INPUT: true; the input reads as it did. -/
def lawS1739BWireSpec : ChangeSpec := { name := "lawS1739BWire", fn := fun _ => fun
  | [d1, d2, d3, d4, d5, d6] => { results := [.lit (.bool true)], args := [d1, d2, d3, d4, d5, d6] }
  | _ => none }
def lawS1739BWireRow : OpenClaim := { program := "ybulkaizkr", sum := "43a68ecb7d079febcfa118222a6cb5840eb4bcb9400f54e81c6b0e03fbe63dba", func := "example.com/latchkey/latchkey/ike.LawS1739BWire", spec := "lawS1739BWire", named := ["encoding/binary.BigEndian"], apart := false }
def LawS1739BWireSaid : Prop := lawS1739BWireRow.holds Yba.pinned (OpenSpec.ofChange lawS1739BWireSpec)

/-- ITS FALSE NEIGHBOUR: 'it returns false'. Refute it at one input. -/
def lawS1739BWireWrong : ChangeSpec := { name := "lawS1739BWire", fn := fun _ => fun
  | [d1, d2, d3, d4, d5, d6] => { results := [.lit (.bool false)], args := [d1, d2, d3, d4, d5, d6] }
  | _ => none }
def LawS1739BWireWrongFalsely : Prop := lawS1739BWireRow.holds Yba.pinned (OpenSpec.ofChange lawS1739BWireWrong)

end Rows
end Go.Proofs.YbulkaizkR
