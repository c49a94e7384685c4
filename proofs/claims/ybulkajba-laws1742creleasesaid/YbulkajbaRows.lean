/-
  No cell of these rows narrows 'for every input' (looked for: loops, veiled, ifaces, maps, wideKeys, modest, calm, conditions, laid).
  DERIVED. THE GIVEN ROWS OF THIS SEAT. 3 by the template 'for every input the law returns true; each argument reads behind the call as it read before'; 0 by the template 'total and deterministic' (their statements: YbulkajbaTotals.lean).
  GIVEN WITH THE SEED: the statements are not yours to turn. If you find one false, say at which input.
  Laid BY PROGRAM, IN A SANDBOX (cutbox-rows.mjs): the forced cells as the released guide's own fill.sh prints them over the translation 10ed0b2fd64e62a3… (all of the seat's roots in one cut). By AI agents, Wed Nov 11 2026. No macro, syntax, notation, axiom, sorry.
-/
import Derived.Test.YbulkajbaChecked
import GoSem.Claim
import GoSem.ClaimJoined
import GoSem.ClaimMapViews
import Derived.JoinedTies
import Derived.KernelRfl
namespace Go.Proofs.Ybulkajba
/- THE CELL 'sum', in the pinned program and in every row, IS THE sha256 OF THE DUMP (.gsa) THAT YbulkajbaProg.lean LOADS. Nothing in Lean hashes anything: it is a label: what it is worth is what the hold of that sum in a sandbox is worth. -/
noncomputable def Yba.pinned : Pinned := { name := "ybulkajba", sum := "10ed0b2fd64e62a358786537956be2403116eeeb0acf36edcb9384a7e153d9a1", checked := Yba.checked }
namespace Rows
def none {H : Type} : Left H := { results := [], args := [] }

/-- 'precedence.LawS1742ADrop': WHATEVER THE INPUT: true; the input reads as it did. -/
def lawS1742ADropSpec : ChangeSpec := { name := "lawS1742ADrop", fn := fun _ => fun
  | [d1, d2] => { results := [.lit (.bool true)], args := [d1, d2] }
  | _ => none }
def lawS1742ADropRow : OpenClaim := { program := "ybulkajba", sum := "10ed0b2fd64e62a358786537956be2403116eeeb0acf36edcb9384a7e153d9a1", func := "example.com/precedence/precedence.LawS1742ADrop", spec := "lawS1742ADrop", apart := false }
def LawS1742ADropSaid : Prop := lawS1742ADropRow.holds Yba.pinned (OpenSpec.ofChange lawS1742ADropSpec)

/-- ITS FALSE NEIGHBOUR: 'it returns false'. Refute it at one input. -/
def lawS1742ADropWrong : ChangeSpec := { name := "lawS1742ADrop", fn := fun _ => fun
  | [d1, d2] => { results := [.lit (.bool false)], args := [d1, d2] }
  | _ => none }
def LawS1742ADropWrongFalsely : Prop := lawS1742ADropRow.holds Yba.pinned (OpenSpec.ofChange lawS1742ADropWrong)

/-- 'precedence.LawS1742BInside': WHATEVER THE INPUT: true; the input reads as it did. -/
def lawS1742BInsideSpec : ChangeSpec := { name := "lawS1742BInside", fn := fun _ => fun
  | [d1, d2, d3, d4] => { results := [.lit (.bool true)], args := [d1, d2, d3, d4] }
  | _ => none }
def lawS1742BInsideRow : OpenClaim := { program := "ybulkajba", sum := "10ed0b2fd64e62a358786537956be2403116eeeb0acf36edcb9384a7e153d9a1", func := "example.com/precedence/precedence.LawS1742BInside", spec := "lawS1742BInside", apart := false }
def LawS1742BInsideSaid : Prop := lawS1742BInsideRow.holds Yba.pinned (OpenSpec.ofChange lawS1742BInsideSpec)

/-- ITS FALSE NEIGHBOUR: 'it returns false'. Refute it at one input. -/
def lawS1742BInsideWrong : ChangeSpec := { name := "lawS1742BInside", fn := fun _ => fun
  | [d1, d2, d3, d4] => { results := [.lit (.bool false)], args := [d1, d2, d3, d4] }
  | _ => none }
def LawS1742BInsideWrongFalsely : Prop := lawS1742BInsideRow.holds Yba.pinned (OpenSpec.ofChange lawS1742BInsideWrong)

/-- 'precedence.LawS1742CRelease': WHATEVER THE INPUT: true; the input reads as it did. -/
def lawS1742CReleaseSpec : ChangeSpec := { name := "lawS1742CRelease", fn := fun _ => fun
  | [d1, d2, d3, d4, d5, d6] => { results := [.lit (.bool true)], args := [d1, d2, d3, d4, d5, d6] }
  | _ => none }
def lawS1742CReleaseRow : OpenClaim := { program := "ybulkajba", sum := "10ed0b2fd64e62a358786537956be2403116eeeb0acf36edcb9384a7e153d9a1", func := "example.com/precedence/precedence.LawS1742CRelease", spec := "lawS1742CRelease", recurses := true, apart := false }
def LawS1742CReleaseSaid : Prop := lawS1742CReleaseRow.holds Yba.pinned (OpenSpec.ofChange lawS1742CReleaseSpec)

/-- ITS FALSE NEIGHBOUR: 'it returns false'. Refute it at one input. -/
def lawS1742CReleaseWrong : ChangeSpec := { name := "lawS1742CRelease", fn := fun _ => fun
  | [d1, d2, d3, d4, d5, d6] => { results := [.lit (.bool false)], args := [d1, d2, d3, d4, d5, d6] }
  | _ => none }
def LawS1742CReleaseWrongFalsely : Prop := lawS1742CReleaseRow.holds Yba.pinned (OpenSpec.ofChange lawS1742CReleaseWrong)

end Rows
end Go.Proofs.Ybulkajba
