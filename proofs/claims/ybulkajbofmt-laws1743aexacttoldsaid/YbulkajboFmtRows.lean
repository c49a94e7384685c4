/-
  No cell of these rows narrows 'for every input' (looked for: loops, veiled, ifaces, maps, wideKeys, modest, calm, conditions, laid).
  DERIVED. THE GIVEN ROWS OF THIS SEAT. 2 by the template 'for every input the law returns true; each argument reads behind the call as it read before'; 0 by the template 'total and deterministic' (their statements: YbulkajboFmtTotals.lean).
  GIVEN WITH THE SEED: the statements are not yours to turn. If you find one false, say at which input.
  Laid BY PROGRAM, IN A SANDBOX (cutbox-rows.mjs): the forced cells as the released guide's own fill.sh prints them over the translation 3834aebad5eba529… (all of the seat's roots in one cut). By AI agents, Wed Nov 11 2026. No macro, syntax, notation, axiom, sorry.
-/
import Derived.Test.YbulkajboFmtChecked
import GoSem.Claim
import GoSem.ClaimJoined
import GoSem.ClaimMapViews
import Derived.JoinedTies
import Derived.KernelRfl
namespace Go.Proofs.YbulkajboFmt
/- THE CELL 'sum', in the pinned program and in every row, IS THE sha256 OF THE DUMP (.gsa) THAT YbulkajboFmtProg.lean LOADS. Nothing in Lean hashes anything: it is a label: what it is worth is what the hold of that sum in a sandbox is worth. -/
noncomputable def Ybaf.pinned : Pinned := { name := "ybulkajbofmt", sum := "3834aebad5eba529d967ceee965e4832eb3aa85b27076940e56edaca036b00db", checked := Ybaf.checked }
namespace Rows
def none {H : Type} : Left H := { results := [], args := [] }

/-- 'sim.LawS1743AExact': WHATEVER THE INPUT: true; the input reads as it did. -/
def lawS1743AExactSpec : ChangeSpec := { name := "lawS1743AExact", fn := fun _ => fun
  | [d1, d2, d3, d4] => { results := [.lit (.bool true)], args := [d1, d2, d3, d4] }
  | _ => none }
def lawS1743AExactRow : OpenClaim := { program := "ybulkajbofmt", sum := "3834aebad5eba529d967ceee965e4832eb3aa85b27076940e56edaca036b00db", func := "example.com/nameless-quorum/nameless-quorum/sim.LawS1743AExact", spec := "lawS1743AExact", stops := ["fmt.errorf", "fmt.Sprint"], inPlace := ["fmt.errorf", "internal/reflectlite.ValueOf", "internal/reflectlite.Swapper", "(internal/reflectlite.Value).Len", "fmt.Sprint", "internal/abi.NoEscape", "internal/bytealg.MakeNoZero"], unfollowed := true, recurses := true, plainKeys := false, apart := false }
/-- NO THEOREM (fmt's text is open here; it may be false): for the released tool's asking of the row's closed facts alone. THE STATEMENT IS 'LawS1743AExactToldSaid' (YbulkajboFmtCards.lean). -/
def LawS1743AExactFormAsk : Prop := lawS1743AExactRow.holds Ybaf.pinned (OpenSpec.ofChange lawS1743AExactSpec)

/-- ITS FALSE NEIGHBOUR: 'it returns false'. Refute it at one input. -/
def lawS1743AExactWrong : ChangeSpec := { name := "lawS1743AExact", fn := fun _ => fun
  | [d1, d2, d3, d4] => { results := [.lit (.bool false)], args := [d1, d2, d3, d4] }
  | _ => none }
def LawS1743AExactWrongFormAsk : Prop := lawS1743AExactRow.holds Ybaf.pinned (OpenSpec.ofChange lawS1743AExactWrong)

/-- 'sim.LawS1743AOrder': WHATEVER THE INPUT: true; the input reads as it did. -/
def lawS1743AOrderSpec : ChangeSpec := { name := "lawS1743AOrder", fn := fun _ => fun
  | [d1, d2, d3, d4] => { results := [.lit (.bool true)], args := [d1, d2, d3, d4] }
  | _ => none }
def lawS1743AOrderRow : OpenClaim := { program := "ybulkajbofmt", sum := "3834aebad5eba529d967ceee965e4832eb3aa85b27076940e56edaca036b00db", func := "example.com/nameless-quorum/nameless-quorum/sim.LawS1743AOrder", spec := "lawS1743AOrder", stops := ["fmt.errorf", "fmt.Sprint"], inPlace := ["fmt.errorf", "internal/reflectlite.ValueOf", "internal/reflectlite.Swapper", "(internal/reflectlite.Value).Len", "fmt.Sprint", "internal/abi.NoEscape", "internal/bytealg.MakeNoZero"], unfollowed := true, recurses := true, plainKeys := false, apart := false }
/-- NO THEOREM (fmt's text is open here; it may be false): for the released tool's asking of the row's closed facts alone. THE STATEMENT IS 'LawS1743AOrderToldSaid' (YbulkajboFmtCards.lean). -/
def LawS1743AOrderFormAsk : Prop := lawS1743AOrderRow.holds Ybaf.pinned (OpenSpec.ofChange lawS1743AOrderSpec)

/-- ITS FALSE NEIGHBOUR: 'it returns false'. Refute it at one input. -/
def lawS1743AOrderWrong : ChangeSpec := { name := "lawS1743AOrder", fn := fun _ => fun
  | [d1, d2, d3, d4] => { results := [.lit (.bool false)], args := [d1, d2, d3, d4] }
  | _ => none }
def LawS1743AOrderWrongFormAsk : Prop := lawS1743AOrderRow.holds Ybaf.pinned (OpenSpec.ofChange lawS1743AOrderWrong)

end Rows
end Go.Proofs.YbulkajboFmt
