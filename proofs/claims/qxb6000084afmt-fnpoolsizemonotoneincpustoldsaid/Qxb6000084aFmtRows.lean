/-
  No cell of these rows narrows 'for every input' (looked for: loops, veiled, ifaces, maps, wideKeys, modest, calm, conditions, laid).
  DERIVED. THE GIVEN ROWS OF THIS SEAT. 2 by the template 'for every input the law returns true; each argument reads behind the call as it read before'; 0 by the template 'total and deterministic' (their statements: Qxb6000084aFmtTotals.lean).
  GIVEN WITH THE SEED: the statements are not yours to turn. If you find one false, say at which input.
  Laid BY PROGRAM, IN A SANDBOX (cutbox-rows.mjs): the forced cells as the released guide's own fill.sh prints them over the translation 7ec3c914fbe246ef… (all of the seat's roots in one cut). By AI agents, Wed Nov 11 2026. No macro, syntax, notation, axiom, sorry.
-/
import Derived.Test.Qxb6000084aFmtChecked
import GoSem.Claim
import GoSem.ClaimJoined
import GoSem.ClaimMapViews
import Derived.JoinedTies
import Derived.KernelRfl
namespace Go.Proofs.Qxb6000084aFmt
/- THE CELL 'sum', in the pinned program and in every row, IS THE sha256 OF THE DUMP (.gsa) THAT Qxb6000084aFmtProg.lean LOADS. Nothing in Lean hashes anything: it is a label: what it is worth is what the hold of that sum in a sandbox is worth. -/
noncomputable def Tryf.pinned : Pinned := { name := "qxb6000084afmt", sum := "7ec3c914fbe246ef3bfa4111b17020f5fa9c6edd6c1b82801c96bdfd3210f360", checked := Tryf.checked }
namespace Rows
def none {H : Type} : Left H := { results := [], args := [] }

/-- 'zzlaws_root_e1.FnPoolSizeMonotoneInCPUs': WHATEVER THE INPUT: true; the input reads as it did. -/
def fnPoolSizeMonotoneInCPUsSpec : ChangeSpec := { name := "fnPoolSizeMonotoneInCPUs", fn := fun _ => fun
  | [d1, d2, d3, d4] => { results := [.lit (.bool true)], args := [d1, d2, d3, d4] }
  | _ => none }
def fnPoolSizeMonotoneInCPUsRow : OpenClaim := { program := "qxb6000084afmt", sum := "7ec3c914fbe246ef3bfa4111b17020f5fa9c6edd6c1b82801c96bdfd3210f360", func := "example.com/bounded-pool/bounded-pool/zzlaws_root_e1.FnPoolSizeMonotoneInCPUs", spec := "fnPoolSizeMonotoneInCPUs", stops := ["fmt.errorf"], inPlace := ["fmt.errorf"], apart := false }
/-- NO THEOREM (fmt's text is open here; it may be false): for the released tool's asking of the row's closed facts alone. THE STATEMENT IS 'FnPoolSizeMonotoneInCPUsToldSaid' (Qxb6000084aFmtCards.lean). -/
def FnPoolSizeMonotoneInCPUsFormAsk : Prop := fnPoolSizeMonotoneInCPUsRow.holds Tryf.pinned (OpenSpec.ofChange fnPoolSizeMonotoneInCPUsSpec)

/-- ITS FALSE NEIGHBOUR: 'it returns false'. Refute it at one input. -/
def fnPoolSizeMonotoneInCPUsWrong : ChangeSpec := { name := "fnPoolSizeMonotoneInCPUs", fn := fun _ => fun
  | [d1, d2, d3, d4] => { results := [.lit (.bool false)], args := [d1, d2, d3, d4] }
  | _ => none }
def FnPoolSizeMonotoneInCPUsWrongFormAsk : Prop := fnPoolSizeMonotoneInCPUsRow.holds Tryf.pinned (OpenSpec.ofChange fnPoolSizeMonotoneInCPUsWrong)

/-- 'zzlaws_root_e1.FnPoolSizeQueueIrrelevant': WHATEVER THE INPUT: true; the input reads as it did. -/
def fnPoolSizeQueueIrrelevantSpec : ChangeSpec := { name := "fnPoolSizeQueueIrrelevant", fn := fun _ => fun
  | [d1, d2, d3, d4] => { results := [.lit (.bool true)], args := [d1, d2, d3, d4] }
  | _ => none }
def fnPoolSizeQueueIrrelevantRow : OpenClaim := { program := "qxb6000084afmt", sum := "7ec3c914fbe246ef3bfa4111b17020f5fa9c6edd6c1b82801c96bdfd3210f360", func := "example.com/bounded-pool/bounded-pool/zzlaws_root_e1.FnPoolSizeQueueIrrelevant", spec := "fnPoolSizeQueueIrrelevant", stops := ["fmt.errorf"], inPlace := ["fmt.errorf"], apart := false }
/-- NO THEOREM (fmt's text is open here; it may be false): for the released tool's asking of the row's closed facts alone. THE STATEMENT IS 'FnPoolSizeQueueIrrelevantToldSaid' (Qxb6000084aFmtCards.lean). -/
def FnPoolSizeQueueIrrelevantFormAsk : Prop := fnPoolSizeQueueIrrelevantRow.holds Tryf.pinned (OpenSpec.ofChange fnPoolSizeQueueIrrelevantSpec)

/-- ITS FALSE NEIGHBOUR: 'it returns false'. Refute it at one input. -/
def fnPoolSizeQueueIrrelevantWrong : ChangeSpec := { name := "fnPoolSizeQueueIrrelevant", fn := fun _ => fun
  | [d1, d2, d3, d4] => { results := [.lit (.bool false)], args := [d1, d2, d3, d4] }
  | _ => none }
def FnPoolSizeQueueIrrelevantWrongFormAsk : Prop := fnPoolSizeQueueIrrelevantRow.holds Tryf.pinned (OpenSpec.ofChange fnPoolSizeQueueIrrelevantWrong)

end Rows
end Go.Proofs.Qxb6000084aFmt
