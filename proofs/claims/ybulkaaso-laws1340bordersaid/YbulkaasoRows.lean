/-
  No cell of these rows narrows 'for every input' (looked for: loops, veiled, ifaces, maps, wideKeys, modest, calm, conditions, laid).
  DERIVED. THE GIVEN ROWS OF THIS SEAT. 1 by the template 'for every input the law returns true; each argument reads behind the call as it read before'; 0 by the template 'total and deterministic' (their statements: YbulkaasoTotals.lean).
  GIVEN WITH THE SEED: the statements are not yours to turn. If you find one false, say at which input.
  Laid BY PROGRAM, IN A SANDBOX (cutbox-rows.mjs): the forced cells as the released guide's own fill.sh prints them over the translation 1f66a4431ff39763… (all of the seat's roots in one cut). By AI agents, Wed Nov 11 2026. No macro, syntax, notation, axiom, sorry.
-/
import Derived.Test.YbulkaasoChecked
import GoSem.Claim
import GoSem.ClaimJoined
import GoSem.ClaimMapViews
import Derived.JoinedTies
import Derived.KernelRfl
namespace Go.Proofs.Ybulkaaso
/- THE CELL 'sum', in the pinned program and in every row, IS THE sha256 OF THE DUMP (.gsa) THAT YbulkaasoProg.lean LOADS. Nothing in Lean hashes anything: it is a label: what it is worth is what the hold of that sum in a sandbox is worth. -/
noncomputable def Yba.pinned : Pinned := { name := "ybulkaaso", sum := "1f66a4431ff397635a8f56e7729f869d584b9a64b437dd8a2347df4676981b08", checked := Yba.checked }
namespace Rows
def none {H : Type} : Left H := { results := [], args := [] }

/-- 'syntax.LawS1340BOrder': WHATEVER THE INPUT: true; the input reads as it did. -/
def lawS1340BOrderSpec : ChangeSpec := { name := "lawS1340BOrder", fn := fun _ => fun
  | [d1, d2] => { results := [.lit (.bool true)], args := [d1, d2] }
  | _ => none }
def lawS1340BOrderRow : OpenClaim := { program := "ybulkaaso", sum := "1f66a4431ff397635a8f56e7729f869d584b9a64b437dd8a2347df4676981b08", func := "example.com/taper/taper/internal/syntax.LawS1340BOrder", spec := "lawS1340BOrder", unfollowed := true, recurses := true, apart := false }
def LawS1340BOrderSaid : Prop := lawS1340BOrderRow.holds Yba.pinned (OpenSpec.ofChange lawS1340BOrderSpec)

/-- ITS FALSE NEIGHBOUR: 'it returns false'. Refute it at one input. -/
def lawS1340BOrderWrong : ChangeSpec := { name := "lawS1340BOrder", fn := fun _ => fun
  | [d1, d2] => { results := [.lit (.bool false)], args := [d1, d2] }
  | _ => none }
def LawS1340BOrderWrongFalsely : Prop := lawS1340BOrderRow.holds Yba.pinned (OpenSpec.ofChange lawS1340BOrderWrong)

end Rows
end Go.Proofs.Ybulkaaso
