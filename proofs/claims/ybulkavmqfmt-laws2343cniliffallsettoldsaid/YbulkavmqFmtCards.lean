/-
  DERIVED. GIVEN WITH THE SEED: THE CARDS: each row of YbulkavmqFmtRows.lean that lists a variable, with what it lists TIED to the program's text (the seventh form; the later family's looks); each row that meets fmt, with fmt's text TOLD by the authors' own Lean function (tested against real Go, not proved from fmt's source: count such statements apart). THE CARD IS WHAT COUNTS. Prove the row's statement (the work); the ties are given (YbulkavmqFmtTie.lean); close each card by the builder's one call (the guide's Derived/Test/ToyasCard.lean, 'card_holds'). Laid BY PROGRAM, IN A SANDBOX (cutbox-door.mjs). By AI agents, Wed Nov 11 2026. No macro, syntax, notation, axiom, sorry.
-/
import Derived.Test.YbulkavmqFmtRows
import GoSem.ClaimSeven
namespace Go.Proofs.YbulkavmqFmt
namespace Rows

/-- THE TOLD CARD OF 'config.LawS2343CNilIffAllSet'. -/
def lawS2343CNilIffAllSetCard : Claim7 := { stood := { row := lawS2343CNilIffAllSetRow, standIns := [], harness := (true, "31b66b43efe50679f5cfce8d3d916b3f6c3a155e50682aeb7d9016f1b6150641"), looks := false }, told := true, goes := false }
def LawS2343CNilIffAllSetToldSaid : Prop := Claim7.holds Ybaf.pinned (.plain (OpenSpec.ofChange lawS2343CNilIffAllSetSpec)) lawS2343CNilIffAllSetCard
/-- ITS FALSE NEIGHBOUR. Refute it at one input. -/
def LawS2343CNilIffAllSetToldWrongFalsely : Prop := Claim7.holds Ybaf.pinned (.plain (OpenSpec.ofChange lawS2343CNilIffAllSetWrong)) lawS2343CNilIffAllSetCard

/-- THE TOLD CARD OF 'config.LawS2343CKeepsReceiver'. -/
def lawS2343CKeepsReceiverCard : Claim7 := { stood := { row := lawS2343CKeepsReceiverRow, standIns := [], harness := (true, "31b66b43efe50679f5cfce8d3d916b3f6c3a155e50682aeb7d9016f1b6150641"), looks := false }, told := true, goes := false }
def LawS2343CKeepsReceiverToldSaid : Prop := Claim7.holds Ybaf.pinned (.plain (OpenSpec.ofChange lawS2343CKeepsReceiverSpec)) lawS2343CKeepsReceiverCard
/-- ITS FALSE NEIGHBOUR. Refute it at one input. -/
def LawS2343CKeepsReceiverToldWrongFalsely : Prop := Claim7.holds Ybaf.pinned (.plain (OpenSpec.ofChange lawS2343CKeepsReceiverWrong)) lawS2343CKeepsReceiverCard
end Rows
end Go.Proofs.YbulkavmqFmt
