/-
  No cell of these rows narrows 'for every input' (looked for: loops, veiled, ifaces, maps, wideKeys, modest, calm, conditions, laid).
  DERIVED. THE GIVEN ROWS OF THIS SEAT. 2 by the template 'for every input the law returns true; each argument reads behind the call as it read before'; 0 by the template 'total and deterministic' (their statements: YbulkaaouTotals.lean).
  GIVEN WITH THE SEED: the statements are not yours to turn. If you find one false, say at which input.
  Laid BY PROGRAM, IN A SANDBOX (cutbox-rows.mjs): the forced cells as the released guide's own fill.sh prints them over the translation ba26b9b80d93dd91… (all of the seat's roots in one cut). By AI agents, Wed Nov 11 2026. No macro, syntax, notation, axiom, sorry.
-/
import Derived.Test.YbulkaaouChecked
import GoSem.Claim
import GoSem.ClaimJoined
import GoSem.ClaimMapViews
import Derived.JoinedTies
import Derived.KernelRfl
namespace Go.Proofs.Ybulkaaou
/- THE CELL 'sum', in the pinned program and in every row, IS THE sha256 OF THE DUMP (.gsa) THAT YbulkaaouProg.lean LOADS. Nothing in Lean hashes anything: it is a label: what it is worth is what the hold of that sum in a sandbox is worth. -/
noncomputable def Yba.pinned : Pinned := { name := "ybulkaaou", sum := "ba26b9b80d93dd91978b8cb88fc0f471f2da361c19d2343d460074c64a6f0779", checked := Yba.checked }
namespace Rows
def none {H : Type} : Left H := { results := [], args := [] }

/-- 'ledger.LawS1333BByAdd': WHATEVER THE INPUT: true; the input reads as it did. -/
def lawS1333BByAddSpec : ChangeSpec := { name := "lawS1333BByAdd", fn := fun _ => fun
  | [d] => { results := [.lit (.bool true)], args := [d] }
  | _ => none }
def lawS1333BByAddRow : OpenClaim := { program := "ybulkaaou", sum := "ba26b9b80d93dd91978b8cb88fc0f471f2da361c19d2343d460074c64a6f0779", func := "example.com/hopledger/hopledger/ledger.LawS1333BByAdd", spec := "lawS1333BByAdd", inPlace := ["slices.overlaps[example.com/hopledger/hopledger/ledger.delayCount]"], unfollowed := true, recurses := true, apart := false }
def LawS1333BByAddSaid : Prop := lawS1333BByAddRow.holds Yba.pinned (OpenSpec.ofChange lawS1333BByAddSpec)

/-- ITS FALSE NEIGHBOUR: 'it returns false'. Refute it at one input. -/
def lawS1333BByAddWrong : ChangeSpec := { name := "lawS1333BByAdd", fn := fun _ => fun
  | [d] => { results := [.lit (.bool false)], args := [d] }
  | _ => none }
def LawS1333BByAddWrongFalsely : Prop := lawS1333BByAddRow.holds Yba.pinned (OpenSpec.ofChange lawS1333BByAddWrong)

/-- 'ledger.LawS1333BMany': WHATEVER THE INPUT: true; the input reads as it did. -/
def lawS1333BManySpec : ChangeSpec := { name := "lawS1333BMany", fn := fun _ => fun
  | [d1, d2] => { results := [.lit (.bool true)], args := [d1, d2] }
  | _ => none }
def lawS1333BManyRow : OpenClaim := { program := "ybulkaaou", sum := "ba26b9b80d93dd91978b8cb88fc0f471f2da361c19d2343d460074c64a6f0779", func := "example.com/hopledger/hopledger/ledger.LawS1333BMany", spec := "lawS1333BMany", unfollowed := true, recurses := true, apart := false }
def LawS1333BManySaid : Prop := lawS1333BManyRow.holds Yba.pinned (OpenSpec.ofChange lawS1333BManySpec)

/-- ITS FALSE NEIGHBOUR: 'it returns false'. Refute it at one input. -/
def lawS1333BManyWrong : ChangeSpec := { name := "lawS1333BMany", fn := fun _ => fun
  | [d1, d2] => { results := [.lit (.bool false)], args := [d1, d2] }
  | _ => none }
def LawS1333BManyWrongFalsely : Prop := lawS1333BManyRow.holds Yba.pinned (OpenSpec.ofChange lawS1333BManyWrong)

end Rows
end Go.Proofs.Ybulkaaou
