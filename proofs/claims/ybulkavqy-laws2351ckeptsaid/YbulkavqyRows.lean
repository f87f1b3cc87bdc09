/-
  No cell of these rows narrows 'for every input' (looked for: loops, veiled, ifaces, maps, wideKeys, modest, calm, conditions, laid).
  DERIVED. THE GIVEN ROWS OF THIS SEAT. 2 by the template 'for every input the law returns true; each argument reads behind the call as it read before'; 0 by the template 'total and deterministic' (their statements: YbulkavqyTotals.lean).
  GIVEN WITH THE SEED: the statements are not yours to turn. If you find one false, say at which input.
  Laid BY PROGRAM, IN A SANDBOX (cutbox-rows.mjs): the forced cells as the released guide's own fill.sh prints them over the translation 4db2618d353a00e5… (all of the seat's roots in one cut). By AI agents, Wed Nov 11 2026. No macro, syntax, notation, axiom, sorry.
-/
import Derived.Test.YbulkavqyChecked
import GoSem.Claim
import GoSem.ClaimJoined
import GoSem.ClaimMapViews
import Derived.JoinedTies
import Derived.KernelRfl
namespace Go.Proofs.Ybulkavqy
/- THE CELL 'sum', in the pinned program and in every row, IS THE sha256 OF THE DUMP (.gsa) THAT YbulkavqyProg.lean LOADS. Nothing in Lean hashes anything: it is a label: what it is worth is what the hold of that sum in a sandbox is worth. -/
noncomputable def Yba.pinned : Pinned := { name := "ybulkavqy", sum := "4db2618d353a00e5633413d98b5b65a403c7556fb0ddd3d98eda86a51eee1069", checked := Yba.checked }
namespace Rows
def none {H : Type} : Left H := { results := [], args := [] }

/-- 'assent.LawS2351CFresh': WHATEVER THE INPUT: true; the input reads as it did. -/
def lawS2351CFreshSpec : ChangeSpec := { name := "lawS2351CFresh", fn := fun _ => fun
  | [d1, d2] => { results := [.lit (.bool true)], args := [d1, d2] }
  | _ => none }
def lawS2351CFreshRow : OpenClaim := { program := "ybulkavqy", sum := "4db2618d353a00e5633413d98b5b65a403c7556fb0ddd3d98eda86a51eee1069", func := "example.com/assent/assent.LawS2351CFresh", spec := "lawS2351CFresh", plainKeys := false, apart := false }
def LawS2351CFreshSaid : Prop := lawS2351CFreshRow.holds Yba.pinned (OpenSpec.ofChange lawS2351CFreshSpec)

/-- ITS FALSE NEIGHBOUR: 'it returns false'. Refute it at one input. -/
def lawS2351CFreshWrong : ChangeSpec := { name := "lawS2351CFresh", fn := fun _ => fun
  | [d1, d2] => { results := [.lit (.bool false)], args := [d1, d2] }
  | _ => none }
def LawS2351CFreshWrongFalsely : Prop := lawS2351CFreshRow.holds Yba.pinned (OpenSpec.ofChange lawS2351CFreshWrong)

/-- 'assent.LawS2351CKept': WHATEVER THE INPUT: true; the input reads as it did. -/
def lawS2351CKeptSpec : ChangeSpec := { name := "lawS2351CKept", fn := fun _ => fun
  | [d1, d2, d3, d4] => { results := [.lit (.bool true)], args := [d1, d2, d3, d4] }
  | _ => none }
def lawS2351CKeptRow : OpenClaim := { program := "ybulkavqy", sum := "4db2618d353a00e5633413d98b5b65a403c7556fb0ddd3d98eda86a51eee1069", func := "example.com/assent/assent.LawS2351CKept", spec := "lawS2351CKept", plainKeys := false, apart := false }
def LawS2351CKeptSaid : Prop := lawS2351CKeptRow.holds Yba.pinned (OpenSpec.ofChange lawS2351CKeptSpec)

/-- ITS FALSE NEIGHBOUR: 'it returns false'. Refute it at one input. -/
def lawS2351CKeptWrong : ChangeSpec := { name := "lawS2351CKept", fn := fun _ => fun
  | [d1, d2, d3, d4] => { results := [.lit (.bool false)], args := [d1, d2, d3, d4] }
  | _ => none }
def LawS2351CKeptWrongFalsely : Prop := lawS2351CKeptRow.holds Yba.pinned (OpenSpec.ofChange lawS2351CKeptWrong)

end Rows
end Go.Proofs.Ybulkavqy
