/-
  No cell of these rows narrows 'for every input' (looked for: loops, veiled, ifaces, maps, wideKeys, modest, calm, conditions, laid).
  DERIVED. THE GIVEN ROWS OF THIS SEAT. 2 by the template 'for every input the law returns true; each argument reads behind the call as it read before'; 0 by the template 'total and deterministic' (their statements: YbulkavmqFmtTotals.lean).
  GIVEN WITH THE SEED: the statements are not yours to turn. If you find one false, say at which input.
  Laid BY PROGRAM, IN A SANDBOX (cutbox-rows.mjs): the forced cells as the released guide's own fill.sh prints them over the translation bf7892ca97953fc2… (all of the seat's roots in one cut). By AI agents, Wed Nov 11 2026. No macro, syntax, notation, axiom, sorry.
-/
import Derived.Test.YbulkavmqFmtChecked
import GoSem.Claim
import GoSem.ClaimJoined
import GoSem.ClaimMapViews
import Derived.JoinedTies
import Derived.KernelRfl
namespace Go.Proofs.YbulkavmqFmt
/- THE CELL 'sum', in the pinned program and in every row, IS THE sha256 OF THE DUMP (.gsa) THAT YbulkavmqFmtProg.lean LOADS. Nothing in Lean hashes anything: it is a label: what it is worth is what the hold of that sum in a sandbox is worth. -/
noncomputable def Ybaf.pinned : Pinned := { name := "ybulkavmqfmt", sum := "bf7892ca97953fc232c0c7171cfd4b8289827aefa79fcfbcce97ba951f104ef6", checked := Ybaf.checked }
namespace Rows
def none {H : Type} : Left H := { results := [], args := [] }

/-- 'config.LawS2343CNilIffAllSet': WHATEVER THE INPUT: true; the input reads as it did. -/
def lawS2343CNilIffAllSetSpec : ChangeSpec := { name := "lawS2343CNilIffAllSet", fn := fun _ => fun
  | [d1, d2, d3] => { results := [.lit (.bool true)], args := [d1, d2, d3] }
  | _ => none }
def lawS2343CNilIffAllSetRow : OpenClaim := { program := "ybulkavmqfmt", sum := "bf7892ca97953fc232c0c7171cfd4b8289827aefa79fcfbcce97ba951f104ef6", func := "example.com/beckon/beckon/pkg/config.LawS2343CNilIffAllSet", spec := "lawS2343CNilIffAllSet", stops := ["fmt.errorf"], inPlace := ["fmt.errorf"], apart := false }
/-- NO THEOREM (fmt's text is open here; it may be false): for the released tool's asking of the row's closed facts alone. THE STATEMENT IS 'LawS2343CNilIffAllSetToldSaid' (YbulkavmqFmtCards.lean). -/
def LawS2343CNilIffAllSetFormAsk : Prop := lawS2343CNilIffAllSetRow.holds Ybaf.pinned (OpenSpec.ofChange lawS2343CNilIffAllSetSpec)

/-- ITS FALSE NEIGHBOUR: 'it returns false'. Refute it at one input. -/
def lawS2343CNilIffAllSetWrong : ChangeSpec := { name := "lawS2343CNilIffAllSet", fn := fun _ => fun
  | [d1, d2, d3] => { results := [.lit (.bool false)], args := [d1, d2, d3] }
  | _ => none }
def LawS2343CNilIffAllSetWrongFormAsk : Prop := lawS2343CNilIffAllSetRow.holds Ybaf.pinned (OpenSpec.ofChange lawS2343CNilIffAllSetWrong)

/-- 'config.LawS2343CKeepsReceiver': WHATEVER THE INPUT: true; the input reads as it did. -/
def lawS2343CKeepsReceiverSpec : ChangeSpec := { name := "lawS2343CKeepsReceiver", fn := fun _ => fun
  | [d1, d2, d3] => { results := [.lit (.bool true)], args := [d1, d2, d3] }
  | _ => none }
def lawS2343CKeepsReceiverRow : OpenClaim := { program := "ybulkavmqfmt", sum := "bf7892ca97953fc232c0c7171cfd4b8289827aefa79fcfbcce97ba951f104ef6", func := "example.com/beckon/beckon/pkg/config.LawS2343CKeepsReceiver", spec := "lawS2343CKeepsReceiver", stops := ["fmt.errorf"], inPlace := ["fmt.errorf"], apart := false }
/-- NO THEOREM (fmt's text is open here; it may be false): for the released tool's asking of the row's closed facts alone. THE STATEMENT IS 'LawS2343CKeepsReceiverToldSaid' (YbulkavmqFmtCards.lean). -/
def LawS2343CKeepsReceiverFormAsk : Prop := lawS2343CKeepsReceiverRow.holds Ybaf.pinned (OpenSpec.ofChange lawS2343CKeepsReceiverSpec)

/-- ITS FALSE NEIGHBOUR: 'it returns false'. Refute it at one input. -/
def lawS2343CKeepsReceiverWrong : ChangeSpec := { name := "lawS2343CKeepsReceiver", fn := fun _ => fun
  | [d1, d2, d3] => { results := [.lit (.bool false)], args := [d1, d2, d3] }
  | _ => none }
def LawS2343CKeepsReceiverWrongFormAsk : Prop := lawS2343CKeepsReceiverRow.holds Ybaf.pinned (OpenSpec.ofChange lawS2343CKeepsReceiverWrong)

end Rows
end Go.Proofs.YbulkavmqFmt
