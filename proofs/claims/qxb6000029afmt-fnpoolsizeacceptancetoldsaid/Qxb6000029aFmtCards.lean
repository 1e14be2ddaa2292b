/-
  DERIVED. GIVEN WITH THE SEED: THE CARDS: each row of Qxb6000029aFmtRows.lean that lists a variable, with what it lists TIED to the program's text (the seventh form; the later family's looks); each row that meets fmt, with fmt's text TOLD by the authors' own Lean function (tested against real Go, not proved from fmt's source: count such statements apart). THE CARD IS WHAT COUNTS. Prove the row's statement (the work); the ties are given (Qxb6000029aFmtTie.lean); close each card by the builder's one call (the guide's Derived/Test/ToyasCard.lean, 'card_holds'). Laid BY PROGRAM, IN A SANDBOX (cutbox-door.mjs). By AI agents, Wed Nov 11 2026. No macro, syntax, notation, axiom, sorry.
-/
import Derived.Test.Qxb6000029aFmtRows
import GoSem.ClaimSeven
namespace Go.Proofs.Qxb6000029aFmt
namespace Rows

/-- THE TOLD CARD OF 'zzlaws_root_e1.FnPoolSizeDefaultMonotoneBounded'. -/
def fnPoolSizeDefaultMonotoneBoundedCard : Claim7 := { stood := { row := fnPoolSizeDefaultMonotoneBoundedRow, standIns := [], harness := (true, "dc209eb2f8103eefd4e51412778ef3eb0e65077cf468bb464c3f8f13fd70d295"), looks := false }, told := true, goes := false }
def FnPoolSizeDefaultMonotoneBoundedToldSaid : Prop := Claim7.holds Tryf.pinned (.plain (OpenSpec.ofChange fnPoolSizeDefaultMonotoneBoundedSpec)) fnPoolSizeDefaultMonotoneBoundedCard
/-- ITS FALSE NEIGHBOUR. Refute it at one input. -/
def FnPoolSizeDefaultMonotoneBoundedToldWrongFalsely : Prop := Claim7.holds Tryf.pinned (.plain (OpenSpec.ofChange fnPoolSizeDefaultMonotoneBoundedWrong)) fnPoolSizeDefaultMonotoneBoundedCard

/-- THE TOLD CARD OF 'zzlaws_root_e1.FnPoolSizeAcceptance'. -/
def fnPoolSizeAcceptanceCard : Claim7 := { stood := { row := fnPoolSizeAcceptanceRow, standIns := [], harness := (true, "dc209eb2f8103eefd4e51412778ef3eb0e65077cf468bb464c3f8f13fd70d295"), looks := false }, told := true, goes := false }
def FnPoolSizeAcceptanceToldSaid : Prop := Claim7.holds Tryf.pinned (.plain (OpenSpec.ofChange fnPoolSizeAcceptanceSpec)) fnPoolSizeAcceptanceCard
/-- ITS FALSE NEIGHBOUR. Refute it at one input. -/
def FnPoolSizeAcceptanceToldWrongFalsely : Prop := Claim7.holds Tryf.pinned (.plain (OpenSpec.ofChange fnPoolSizeAcceptanceWrong)) fnPoolSizeAcceptanceCard
end Rows
end Go.Proofs.Qxb6000029aFmt
