/-
  No cell of these rows narrows 'for every input' (looked for: loops, veiled, ifaces, maps, wideKeys, modest, calm, conditions, laid).
  DERIVED. THE GIVEN ROWS OF THIS SEAT. 2 by the template 'for every input the law returns true; each argument reads behind the call as it read before'; 0 by the template 'total and deterministic' (their statements: Qxb6000029aFmtTotals.lean).
  GIVEN WITH THE SEED: the statements are not yours to turn. If you find one false, say at which input.
  Laid BY PROGRAM, IN A SANDBOX (cutbox-rows.mjs): the forced cells as the released guide's own fill.sh prints them over the translation 27d86b5a336f748a… (all of the seat's roots in one cut). By AI agents, Wed Nov 11 2026. No macro, syntax, notation, axiom, sorry.
-/
import Derived.Test.Qxb6000029aFmtChecked
import GoSem.Claim
import GoSem.ClaimJoined
import GoSem.ClaimMapViews
import Derived.JoinedTies
import Derived.KernelRfl
namespace Go.Proofs.Qxb6000029aFmt
/- THE CELL 'sum', in the pinned program and in every row, IS THE sha256 OF THE DUMP (.gsa) THAT Qxb6000029aFmtProg.lean LOADS. Nothing in Lean hashes anything: it is a label: what it is worth is what the hold of that sum in a sandbox is worth. -/
noncomputable def Tryf.pinned : Pinned := { name := "qxb6000029afmt", sum := "27d86b5a336f748acf988f5196975d51914caf4bd30a1a65b999196b7bef7a18", checked := Tryf.checked }
namespace Rows
def none {H : Type} : Left H := { results := [], args := [] }

/-- 'zzlaws_root_e1.FnPoolSizeDefaultMonotoneBounded': WHATEVER THE INPUT: true; the input reads as it did. -/
def fnPoolSizeDefaultMonotoneBoundedSpec : ChangeSpec := { name := "fnPoolSizeDefaultMonotoneBounded", fn := fun _ => fun
  | [d1, d2, d3] => { results := [.lit (.bool true)], args := [d1, d2, d3] }
  | _ => none }
def fnPoolSizeDefaultMonotoneBoundedRow : OpenClaim := { program := "qxb6000029afmt", sum := "27d86b5a336f748acf988f5196975d51914caf4bd30a1a65b999196b7bef7a18", func := "example.com/bounded-pool/bounded-pool/zzlaws_root_e1.FnPoolSizeDefaultMonotoneBounded", spec := "fnPoolSizeDefaultMonotoneBounded", stops := ["fmt.errorf"], inPlace := ["fmt.errorf"], apart := false }
/-- NO THEOREM (fmt's text is open here; it may be false): for the released tool's asking of the row's closed facts alone. THE STATEMENT IS 'FnPoolSizeDefaultMonotoneBoundedToldSaid' (Qxb6000029aFmtCards.lean). -/
def FnPoolSizeDefaultMonotoneBoundedFormAsk : Prop := fnPoolSizeDefaultMonotoneBoundedRow.holds Tryf.pinned (OpenSpec.ofChange fnPoolSizeDefaultMonotoneBoundedSpec)

/-- ITS FALSE NEIGHBOUR: 'it returns false'. Refute it at one input. -/
def fnPoolSizeDefaultMonotoneBoundedWrong : ChangeSpec := { name := "fnPoolSizeDefaultMonotoneBounded", fn := fun _ => fun
  | [d1, d2, d3] => { results := [.lit (.bool false)], args := [d1, d2, d3] }
  | _ => none }
def FnPoolSizeDefaultMonotoneBoundedWrongFormAsk : Prop := fnPoolSizeDefaultMonotoneBoundedRow.holds Tryf.pinned (OpenSpec.ofChange fnPoolSizeDefaultMonotoneBoundedWrong)

/-- 'zzlaws_root_e1.FnPoolSizeAcceptance': WHATEVER THE INPUT: true; the input reads as it did. -/
def fnPoolSizeAcceptanceSpec : ChangeSpec := { name := "fnPoolSizeAcceptance", fn := fun _ => fun
  | [d1, d2, d3] => { results := [.lit (.bool true)], args := [d1, d2, d3] }
  | _ => none }
def fnPoolSizeAcceptanceRow : OpenClaim := { program := "qxb6000029afmt", sum := "27d86b5a336f748acf988f5196975d51914caf4bd30a1a65b999196b7bef7a18", func := "example.com/bounded-pool/bounded-pool/zzlaws_root_e1.FnPoolSizeAcceptance", spec := "fnPoolSizeAcceptance", stops := ["fmt.errorf"], inPlace := ["fmt.errorf"], apart := false }
/-- NO THEOREM (fmt's text is open here; it may be false): for the released tool's asking of the row's closed facts alone. THE STATEMENT IS 'FnPoolSizeAcceptanceToldSaid' (Qxb6000029aFmtCards.lean). -/
def FnPoolSizeAcceptanceFormAsk : Prop := fnPoolSizeAcceptanceRow.holds Tryf.pinned (OpenSpec.ofChange fnPoolSizeAcceptanceSpec)

/-- ITS FALSE NEIGHBOUR: 'it returns false'. Refute it at one input. -/
def fnPoolSizeAcceptanceWrong : ChangeSpec := { name := "fnPoolSizeAcceptance", fn := fun _ => fun
  | [d1, d2, d3] => { results := [.lit (.bool false)], args := [d1, d2, d3] }
  | _ => none }
def FnPoolSizeAcceptanceWrongFormAsk : Prop := fnPoolSizeAcceptanceRow.holds Tryf.pinned (OpenSpec.ofChange fnPoolSizeAcceptanceWrong)

end Rows
end Go.Proofs.Qxb6000029aFmt
