/-
  No cell of these rows narrows 'for every input' (looked for: loops, veiled, ifaces, maps, wideKeys, modest, calm, conditions, laid).
  DERIVED. THE GIVEN ROWS OF THIS SEAT. 1 by the template 'for every input the law returns true; each argument reads behind the call as it read before'; 0 by the template 'total and deterministic' (their statements: YbulkaaqkTotals.lean).
  GIVEN WITH THE SEED: the statements are not yours to turn. If you find one false, say at which input.
  Laid BY PROGRAM, IN A SANDBOX (cutbox-rows.mjs): the forced cells as the released guide's own fill.sh prints them over the translation 711662f2e1840e1e… (all of the seat's roots in one cut). By AI agents, Wed Nov 11 2026. No macro, syntax, notation, axiom, sorry.
-/
import Derived.Test.YbulkaaqkChecked
import GoSem.Claim
import GoSem.ClaimJoined
import GoSem.ClaimMapViews
import Derived.JoinedTies
import Derived.KernelRfl
namespace Go.Proofs.Ybulkaaqk
/- THE CELL 'sum', in the pinned program and in every row, IS THE sha256 OF THE DUMP (.gsa) THAT YbulkaaqkProg.lean LOADS. Nothing in Lean hashes anything: it is a label: what it is worth is what the hold of that sum in a sandbox is worth. -/
noncomputable def Yba.pinned : Pinned := { name := "ybulkaaqk", sum := "711662f2e1840e1efde74204c936ad20deb782a23bfe9f1e39490cad673f4a49", checked := Yba.checked }
namespace Rows
def none {H : Type} : Left H := { results := [], args := [] }

/-- 'query.LawS1336BRun': WHATEVER THE INPUT: true; the input reads as it did. -/
def lawS1336BRunSpec : ChangeSpec := { name := "lawS1336BRun", fn := fun _ => fun
  | [d1, d2, d3, d4] => { results := [.lit (.bool true)], args := [d1, d2, d3, d4] }
  | _ => none }
def lawS1336BRunRow : OpenClaim := { program := "ybulkaaqk", sum := "711662f2e1840e1efde74204c936ad20deb782a23bfe9f1e39490cad673f4a49", func := "example.com/podstead/podstead/query.LawS1336BRun", spec := "lawS1336BRun", unfollowed := true, recurses := true, apart := false }
def LawS1336BRunSaid : Prop := lawS1336BRunRow.holds Yba.pinned (OpenSpec.ofChange lawS1336BRunSpec)

/-- ITS FALSE NEIGHBOUR: 'it returns false'. Refute it at one input. -/
def lawS1336BRunWrong : ChangeSpec := { name := "lawS1336BRun", fn := fun _ => fun
  | [d1, d2, d3, d4] => { results := [.lit (.bool false)], args := [d1, d2, d3, d4] }
  | _ => none }
def LawS1336BRunWrongFalsely : Prop := lawS1336BRunRow.holds Yba.pinned (OpenSpec.ofChange lawS1336BRunWrong)

end Rows
end Go.Proofs.Ybulkaaqk
