/-
  No cell of these rows narrows 'for every input' (looked for: loops, veiled, ifaces, maps, wideKeys, modest, calm, conditions, laid).
  DERIVED. THE GIVEN ROWS OF THIS SEAT. 5 by the template 'for every input the law returns true; each argument reads behind the call as it read before'; 0 by the template 'total and deterministic' (their statements: YbulkavsoTotals.lean).
  GIVEN WITH THE SEED: the statements are not yours to turn. If you find one false, say at which input.
  Laid BY PROGRAM, IN A SANDBOX (cutbox-rows.mjs): the forced cells as the released guide's own fill.sh prints them over the translation d36d40ee7add3328… (all of the seat's roots in one cut). By AI agents, Wed Nov 11 2026. No macro, syntax, notation, axiom, sorry.
-/
import Derived.Test.YbulkavsoChecked
import GoSem.Claim
import GoSem.ClaimJoined
import GoSem.ClaimMapViews
import Derived.JoinedTies
import Derived.KernelRfl
namespace Go.Proofs.Ybulkavso
/- THE CELL 'sum', in the pinned program and in every row, IS THE sha256 OF THE DUMP (.gsa) THAT YbulkavsoProg.lean LOADS. Nothing in Lean hashes anything: it is a label: what it is worth is what the hold of that sum in a sandbox is worth. -/
noncomputable def Yba.pinned : Pinned := { name := "ybulkavso", sum := "d36d40ee7add33284595f2538ef106cecbec4b2294be4a424e78b0373f2e5968", checked := Yba.checked }
namespace Rows
def none {H : Type} : Left H := { results := [], args := [] }

/-- 'stemroute.LawS2354AModel': WHATEVER THE INPUT: true; the input reads as it did. -/
def lawS2354AModelSpec : ChangeSpec := { name := "lawS2354AModel", fn := fun _ => fun
  | [d] => { results := [.lit (.bool true)], args := [d] }
  | _ => none }
def lawS2354AModelRow : OpenClaim := { program := "ybulkavso", sum := "d36d40ee7add33284595f2538ef106cecbec4b2294be4a424e78b0373f2e5968", func := "example.com/stemroute/stemroute.LawS2354AModel", spec := "lawS2354AModel", unfollowed := true, recurses := true, apart := false }
def LawS2354AModelSaid : Prop := lawS2354AModelRow.holds Yba.pinned (OpenSpec.ofChange lawS2354AModelSpec)

/-- ITS FALSE NEIGHBOUR: 'it returns false'. Refute it at one input. -/
def lawS2354AModelWrong : ChangeSpec := { name := "lawS2354AModel", fn := fun _ => fun
  | [d] => { results := [.lit (.bool false)], args := [d] }
  | _ => none }
def LawS2354AModelWrongFalsely : Prop := lawS2354AModelRow.holds Yba.pinned (OpenSpec.ofChange lawS2354AModelWrong)

/-- 'stemroute.LawS2354BFindsEach': WHATEVER THE INPUT: true; the input reads as it did. -/
def lawS2354BFindsEachSpec : ChangeSpec := { name := "lawS2354BFindsEach", fn := fun _ => fun
  | [d] => { results := [.lit (.bool true)], args := [d] }
  | _ => none }
def lawS2354BFindsEachRow : OpenClaim := { program := "ybulkavso", sum := "d36d40ee7add33284595f2538ef106cecbec4b2294be4a424e78b0373f2e5968", func := "example.com/stemroute/stemroute.LawS2354BFindsEach", spec := "lawS2354BFindsEach", apart := false }
def LawS2354BFindsEachSaid : Prop := lawS2354BFindsEachRow.holds Yba.pinned (OpenSpec.ofChange lawS2354BFindsEachSpec)

/-- ITS FALSE NEIGHBOUR: 'it returns false'. Refute it at one input. -/
def lawS2354BFindsEachWrong : ChangeSpec := { name := "lawS2354BFindsEach", fn := fun _ => fun
  | [d] => { results := [.lit (.bool false)], args := [d] }
  | _ => none }
def LawS2354BFindsEachWrongFalsely : Prop := lawS2354BFindsEachRow.holds Yba.pinned (OpenSpec.ofChange lawS2354BFindsEachWrong)

/-- 'stemroute.LawS2354BProbes': WHATEVER THE INPUT: true; the input reads as it did. -/
def lawS2354BProbesSpec : ChangeSpec := { name := "lawS2354BProbes", fn := fun _ => fun
  | [d1, d2] => { results := [.lit (.bool true)], args := [d1, d2] }
  | _ => none }
def lawS2354BProbesRow : OpenClaim := { program := "ybulkavso", sum := "d36d40ee7add33284595f2538ef106cecbec4b2294be4a424e78b0373f2e5968", func := "example.com/stemroute/stemroute.LawS2354BProbes", spec := "lawS2354BProbes", apart := false }
def LawS2354BProbesSaid : Prop := lawS2354BProbesRow.holds Yba.pinned (OpenSpec.ofChange lawS2354BProbesSpec)

/-- ITS FALSE NEIGHBOUR: 'it returns false'. Refute it at one input. -/
def lawS2354BProbesWrong : ChangeSpec := { name := "lawS2354BProbes", fn := fun _ => fun
  | [d1, d2] => { results := [.lit (.bool false)], args := [d1, d2] }
  | _ => none }
def LawS2354BProbesWrongFalsely : Prop := lawS2354BProbesRow.holds Yba.pinned (OpenSpec.ofChange lawS2354BProbesWrong)

/-- 'stemroute.LawS2354CModel': WHATEVER THE INPUT: true; the input reads as it did. -/
def lawS2354CModelSpec : ChangeSpec := { name := "lawS2354CModel", fn := fun _ => fun
  | [d] => { results := [.lit (.bool true)], args := [d] }
  | _ => none }
def lawS2354CModelRow : OpenClaim := { program := "ybulkavso", sum := "d36d40ee7add33284595f2538ef106cecbec4b2294be4a424e78b0373f2e5968", func := "example.com/stemroute/stemroute.LawS2354CModel", spec := "lawS2354CModel", unfollowed := true, recurses := true, apart := false }
def LawS2354CModelSaid : Prop := lawS2354CModelRow.holds Yba.pinned (OpenSpec.ofChange lawS2354CModelSpec)

/-- ITS FALSE NEIGHBOUR: 'it returns false'. Refute it at one input. -/
def lawS2354CModelWrong : ChangeSpec := { name := "lawS2354CModel", fn := fun _ => fun
  | [d] => { results := [.lit (.bool false)], args := [d] }
  | _ => none }
def LawS2354CModelWrongFalsely : Prop := lawS2354CModelRow.holds Yba.pinned (OpenSpec.ofChange lawS2354CModelWrong)

/-- 'stemroute.LawS2354CBuilt': WHATEVER THE INPUT: true; the input reads as it did. -/
def lawS2354CBuiltSpec : ChangeSpec := { name := "lawS2354CBuilt", fn := fun _ => fun
  | [d1, d2] => { results := [.lit (.bool true)], args := [d1, d2] }
  | _ => none }
def lawS2354CBuiltRow : OpenClaim := { program := "ybulkavso", sum := "d36d40ee7add33284595f2538ef106cecbec4b2294be4a424e78b0373f2e5968", func := "example.com/stemroute/stemroute.LawS2354CBuilt", spec := "lawS2354CBuilt", unfollowed := true, recurses := true, apart := false }
def LawS2354CBuiltSaid : Prop := lawS2354CBuiltRow.holds Yba.pinned (OpenSpec.ofChange lawS2354CBuiltSpec)

/-- ITS FALSE NEIGHBOUR: 'it returns false'. Refute it at one input. -/
def lawS2354CBuiltWrong : ChangeSpec := { name := "lawS2354CBuilt", fn := fun _ => fun
  | [d1, d2] => { results := [.lit (.bool false)], args := [d1, d2] }
  | _ => none }
def LawS2354CBuiltWrongFalsely : Prop := lawS2354CBuiltRow.holds Yba.pinned (OpenSpec.ofChange lawS2354CBuiltWrong)

end Rows
end Go.Proofs.Ybulkavso
