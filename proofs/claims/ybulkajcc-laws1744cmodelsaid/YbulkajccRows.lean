/-
  No cell of these rows narrows 'for every input' (looked for: loops, veiled, ifaces, maps, wideKeys, modest, calm, conditions, laid).
  DERIVED. THE GIVEN ROWS OF THIS SEAT. 2 by the template 'for every input the law returns true; each argument reads behind the call as it read before'; 0 by the template 'total and deterministic' (their statements: YbulkajccTotals.lean).
  GIVEN WITH THE SEED: the statements are not yours to turn. If you find one false, say at which input.
  Laid BY PROGRAM, IN A SANDBOX (cutbox-rows.mjs): the forced cells as the released guide's own fill.sh prints them over the translation ef99bcd71844a759… (all of the seat's roots in one cut). By AI agents, Wed Nov 11 2026. No macro, syntax, notation, axiom, sorry.
-/
import Derived.Test.YbulkajccChecked
import GoSem.Claim
import GoSem.ClaimJoined
import GoSem.ClaimMapViews
import Derived.JoinedTies
import Derived.KernelRfl
namespace Go.Proofs.Ybulkajcc
/- THE CELL 'sum', in the pinned program and in every row, IS THE sha256 OF THE DUMP (.gsa) THAT YbulkajccProg.lean LOADS. Nothing in Lean hashes anything: it is a label: what it is worth is what the hold of that sum in a sandbox is worth. -/
noncomputable def Yba.pinned : Pinned := { name := "ybulkajcc", sum := "ef99bcd71844a759d8d20f1eeb0b1e9e6128d6a18b5c28d9d76108e42f7c36ef", checked := Yba.checked }
namespace Rows
def none {H : Type} : Left H := { results := [], args := [] }

/-- 'wirecall.LawS1744CModel': WHATEVER THE INPUT: true; the input reads as it did. -/
def lawS1744CModelSpec : ChangeSpec := { name := "lawS1744CModel", fn := fun _ => fun
  | [d] => { results := [.lit (.bool true)], args := [d] }
  | _ => none }
def lawS1744CModelRow : OpenClaim := { program := "ybulkajcc", sum := "ef99bcd71844a759d8d20f1eeb0b1e9e6128d6a18b5c28d9d76108e42f7c36ef", func := "example.com/wirecall/wirecall.LawS1744CModel", spec := "lawS1744CModel", inPlace := ["internal/bytealg.MakeNoZero"], unfollowed := true, recurses := true, apart := false }
def LawS1744CModelSaid : Prop := lawS1744CModelRow.holds Yba.pinned (OpenSpec.ofChange lawS1744CModelSpec)

/-- ITS FALSE NEIGHBOUR: 'it returns false'. Refute it at one input. -/
def lawS1744CModelWrong : ChangeSpec := { name := "lawS1744CModel", fn := fun _ => fun
  | [d] => { results := [.lit (.bool false)], args := [d] }
  | _ => none }
def LawS1744CModelWrongFalsely : Prop := lawS1744CModelRow.holds Yba.pinned (OpenSpec.ofChange lawS1744CModelWrong)

/-- 'wirecall.LawS1744CSingle': WHATEVER THE INPUT: true; the input reads as it did. -/
def lawS1744CSingleSpec : ChangeSpec := { name := "lawS1744CSingle", fn := fun _ => fun
  | [d1, d2, d3] => { results := [.lit (.bool true)], args := [d1, d2, d3] }
  | _ => none }
def lawS1744CSingleRow : OpenClaim := { program := "ybulkajcc", sum := "ef99bcd71844a759d8d20f1eeb0b1e9e6128d6a18b5c28d9d76108e42f7c36ef", func := "example.com/wirecall/wirecall.LawS1744CSingle", spec := "lawS1744CSingle", inPlace := ["internal/bytealg.MakeNoZero"], unfollowed := true, recurses := true, apart := false }
def LawS1744CSingleSaid : Prop := lawS1744CSingleRow.holds Yba.pinned (OpenSpec.ofChange lawS1744CSingleSpec)

/-- ITS FALSE NEIGHBOUR: 'it returns false'. Refute it at one input. -/
def lawS1744CSingleWrong : ChangeSpec := { name := "lawS1744CSingle", fn := fun _ => fun
  | [d1, d2, d3] => { results := [.lit (.bool false)], args := [d1, d2, d3] }
  | _ => none }
def LawS1744CSingleWrongFalsely : Prop := lawS1744CSingleRow.holds Yba.pinned (OpenSpec.ofChange lawS1744CSingleWrong)

end Rows
end Go.Proofs.Ybulkajcc
