/-
  No cell of these rows narrows 'for every input' (looked for: loops, veiled, ifaces, maps, wideKeys, modest, calm, conditions, laid).
  DERIVED. THE GIVEN ROWS OF THIS SEAT. 3 by the template 'for every input the law returns true; each argument reads behind the call as it read before'; 0 by the template 'total and deterministic' (their statements: YbulkaatqTotals.lean).
  GIVEN WITH THE SEED: the statements are not yours to turn. If you find one false, say at which input.
  Laid BY PROGRAM, IN A SANDBOX (cutbox-rows.mjs): the forced cells as the released guide's own fill.sh prints them over the translation ca440dd75753bfdd… (all of the seat's roots in one cut). By AI agents, Wed Nov 11 2026. No macro, syntax, notation, axiom, sorry.
-/
import Derived.Test.YbulkaatqChecked
import GoSem.Claim
import GoSem.ClaimJoined
import GoSem.ClaimMapViews
import Derived.JoinedTies
import Derived.KernelRfl
namespace Go.Proofs.Ybulkaatq
/- THE CELL 'sum', in the pinned program and in every row, IS THE sha256 OF THE DUMP (.gsa) THAT YbulkaatqProg.lean LOADS. Nothing in Lean hashes anything: it is a label: what it is worth is what the hold of that sum in a sandbox is worth. -/
noncomputable def Yba.pinned : Pinned := { name := "ybulkaatq", sum := "ca440dd75753bfddff4bc1c88e91014e0358f6b458560b2001ea97d9863688d8", checked := Yba.checked }
namespace Rows
def none {H : Type} : Left H := { results := [], args := [] }

/-- 'overlace.LawS1342AFilter': WHATEVER THE INPUT: true; the input reads as it did. -/
def lawS1342AFilterSpec : ChangeSpec := { name := "lawS1342AFilter", fn := fun _ => fun
  | [d1, d2, d3, d4] => { results := [.lit (.bool true)], args := [d1, d2, d3, d4] }
  | _ => none }
def lawS1342AFilterRow : OpenClaim := { program := "ybulkaatq", sum := "ca440dd75753bfddff4bc1c88e91014e0358f6b458560b2001ea97d9863688d8", func := "example.com/overlace/overlace.LawS1342AFilter", spec := "lawS1342AFilter", unfollowed := true, recurses := true, plainKeys := false, apart := false }
def LawS1342AFilterSaid : Prop := lawS1342AFilterRow.holds Yba.pinned (OpenSpec.ofChange lawS1342AFilterSpec)

/-- ITS FALSE NEIGHBOUR: 'it returns false'. Refute it at one input. -/
def lawS1342AFilterWrong : ChangeSpec := { name := "lawS1342AFilter", fn := fun _ => fun
  | [d1, d2, d3, d4] => { results := [.lit (.bool false)], args := [d1, d2, d3, d4] }
  | _ => none }
def LawS1342AFilterWrongFalsely : Prop := lawS1342AFilterRow.holds Yba.pinned (OpenSpec.ofChange lawS1342AFilterWrong)

/-- 'overlace.LawS1342CExact': WHATEVER THE INPUT: true; the input reads as it did. -/
def lawS1342CExactSpec : ChangeSpec := { name := "lawS1342CExact", fn := fun _ => fun
  | [d1, d2] => { results := [.lit (.bool true)], args := [d1, d2] }
  | _ => none }
def lawS1342CExactRow : OpenClaim := { program := "ybulkaatq", sum := "ca440dd75753bfddff4bc1c88e91014e0358f6b458560b2001ea97d9863688d8", func := "example.com/overlace/overlace.LawS1342CExact", spec := "lawS1342CExact", plainKeys := false, apart := false }
def LawS1342CExactSaid : Prop := lawS1342CExactRow.holds Yba.pinned (OpenSpec.ofChange lawS1342CExactSpec)

/-- ITS FALSE NEIGHBOUR: 'it returns false'. Refute it at one input. -/
def lawS1342CExactWrong : ChangeSpec := { name := "lawS1342CExact", fn := fun _ => fun
  | [d1, d2] => { results := [.lit (.bool false)], args := [d1, d2] }
  | _ => none }
def LawS1342CExactWrongFalsely : Prop := lawS1342CExactRow.holds Yba.pinned (OpenSpec.ofChange lawS1342CExactWrong)

/-- 'overlace.LawS1342CPrefix': WHATEVER THE INPUT: true; the input reads as it did. -/
def lawS1342CPrefixSpec : ChangeSpec := { name := "lawS1342CPrefix", fn := fun _ => fun
  | [d1, d2] => { results := [.lit (.bool true)], args := [d1, d2] }
  | _ => none }
def lawS1342CPrefixRow : OpenClaim := { program := "ybulkaatq", sum := "ca440dd75753bfddff4bc1c88e91014e0358f6b458560b2001ea97d9863688d8", func := "example.com/overlace/overlace.LawS1342CPrefix", spec := "lawS1342CPrefix", plainKeys := false, apart := false }
def LawS1342CPrefixSaid : Prop := lawS1342CPrefixRow.holds Yba.pinned (OpenSpec.ofChange lawS1342CPrefixSpec)

/-- ITS FALSE NEIGHBOUR: 'it returns false'. Refute it at one input. -/
def lawS1342CPrefixWrong : ChangeSpec := { name := "lawS1342CPrefix", fn := fun _ => fun
  | [d1, d2] => { results := [.lit (.bool false)], args := [d1, d2] }
  | _ => none }
def LawS1342CPrefixWrongFalsely : Prop := lawS1342CPrefixRow.holds Yba.pinned (OpenSpec.ofChange lawS1342CPrefixWrong)

end Rows
end Go.Proofs.Ybulkaatq
