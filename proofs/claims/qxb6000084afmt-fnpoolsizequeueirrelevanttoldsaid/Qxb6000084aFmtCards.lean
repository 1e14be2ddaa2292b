/-
  DERIVED. GIVEN WITH THE SEED: THE CARDS: each row of Qxb6000084aFmtRows.lean that lists a variable, with what it lists TIED to the program's text (the seventh form; the later family's looks); each row that meets fmt, with fmt's text TOLD by the authors' own Lean function (tested against real Go, not proved from fmt's source: count such statements apart). THE CARD IS WHAT COUNTS. Prove the row's statement (the work); the ties are given (Qxb6000084aFmtTie.lean); close each card by the builder's one call (the guide's Derived/Test/ToyasCard.lean, 'card_holds'). Laid BY PROGRAM, IN A SANDBOX (cutbox-door.mjs). By AI agents, Wed Nov 11 2026. No macro, syntax, notation, axiom, sorry.
-/
import Derived.Test.Qxb6000084aFmtRows
import GoSem.ClaimSeven
namespace Go.Proofs.Qxb6000084aFmt
namespace Rows

/-- THE TOLD CARD OF 'zzlaws_root_e1.FnPoolSizeMonotoneInCPUs'. -/
def fnPoolSizeMonotoneInCPUsCard : Claim7 := { stood := { row := fnPoolSizeMonotoneInCPUsRow, standIns := [], harness := (true, "420e8315fe3ffffe2aac1f4341c62e5805a801ba65f4be3464e227b002cba801"), looks := false }, told := true, goes := false }
def FnPoolSizeMonotoneInCPUsToldSaid : Prop := Claim7.holds Tryf.pinned (.plain (OpenSpec.ofChange fnPoolSizeMonotoneInCPUsSpec)) fnPoolSizeMonotoneInCPUsCard
/-- ITS FALSE NEIGHBOUR. Refute it at one input. -/
def FnPoolSizeMonotoneInCPUsToldWrongFalsely : Prop := Claim7.holds Tryf.pinned (.plain (OpenSpec.ofChange fnPoolSizeMonotoneInCPUsWrong)) fnPoolSizeMonotoneInCPUsCard

/-- THE TOLD CARD OF 'zzlaws_root_e1.FnPoolSizeQueueIrrelevant'. -/
def fnPoolSizeQueueIrrelevantCard : Claim7 := { stood := { row := fnPoolSizeQueueIrrelevantRow, standIns := [], harness := (true, "420e8315fe3ffffe2aac1f4341c62e5805a801ba65f4be3464e227b002cba801"), looks := false }, told := true, goes := false }
def FnPoolSizeQueueIrrelevantToldSaid : Prop := Claim7.holds Tryf.pinned (.plain (OpenSpec.ofChange fnPoolSizeQueueIrrelevantSpec)) fnPoolSizeQueueIrrelevantCard
/-- ITS FALSE NEIGHBOUR. Refute it at one input. -/
def FnPoolSizeQueueIrrelevantToldWrongFalsely : Prop := Claim7.holds Tryf.pinned (.plain (OpenSpec.ofChange fnPoolSizeQueueIrrelevantWrong)) fnPoolSizeQueueIrrelevantCard
end Rows
end Go.Proofs.Qxb6000084aFmt
