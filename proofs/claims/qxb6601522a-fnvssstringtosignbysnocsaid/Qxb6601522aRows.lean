/-
  No cell of these rows narrows 'for every input' (looked for: loops, veiled, ifaces, maps, wideKeys, modest, calm, conditions, laid).
  DERIVED. THE GIVEN ROWS OF THIS SEAT. 2 by the template 'for every input the law returns true; each argument reads behind the call as it read before'; 0 by the template 'total and deterministic' (their statements: Qxb6601522aTotals.lean).
  GIVEN WITH THE SEED: the statements are not yours to turn. If you find one false, say at which input.
  Laid BY PROGRAM, IN A SANDBOX (cutbox-rows.mjs): the forced cells as the released guide's own fill.sh prints them over the translation 0fc25bb4fba41b4d… (all of the seat's roots in one cut). By AI agents, Wed Nov 11 2026. No macro, syntax, notation, axiom, sorry.
-/
import Derived.Test.Qxb6601522aChecked
import GoSem.Claim
import GoSem.ClaimJoined
import GoSem.ClaimMapViews
import Derived.JoinedTies
import Derived.KernelRfl
namespace Go.Proofs.Qxb6601522a
/- THE CELL 'sum', in the pinned program and in every row, IS THE sha256 OF THE DUMP (.gsa) THAT Qxb6601522aProg.lean LOADS. Nothing in Lean hashes anything: it is a label: what it is worth is what the hold of that sum in a sandbox is worth. -/
noncomputable def Try.pinned : Pinned := { name := "qxb6601522a", sum := "0fc25bb4fba41b4d25d24ce251c294264579e994a3e48e1c80ba126c24d9d456", checked := Try.checked }
namespace Rows
def none {H : Type} : Left H := { results := [], args := [] }

/-- 'zzlaws_root_b1.FnVssStringToSignBySnoc': WHATEVER THE INPUT: true; the input reads as it did. -/
def fnVssStringToSignBySnocSpec : ChangeSpec := { name := "fnVssStringToSignBySnoc", fn := fun _ => fun
  | [d1, d2, d3, d4, d5, d6, d7, d8] => { results := [.lit (.bool true)], args := [d1, d2, d3, d4, d5, d6, d7, d8] }
  | _ => none }
def fnVssStringToSignBySnocRow : OpenClaim := { program := "qxb6601522a", sum := "0fc25bb4fba41b4d25d24ce251c294264579e994a3e48e1c80ba126c24d9d456", func := "example.com/ingestsign/ingestsign/zzlaws_root_b1.FnVssStringToSignBySnoc", spec := "fnVssStringToSignBySnoc", apart := false }
def FnVssStringToSignBySnocSaid : Prop := fnVssStringToSignBySnocRow.holds Try.pinned (OpenSpec.ofChange fnVssStringToSignBySnocSpec)

/-- ITS FALSE NEIGHBOUR: 'it returns false'. Refute it at one input. -/
def fnVssStringToSignBySnocWrong : ChangeSpec := { name := "fnVssStringToSignBySnoc", fn := fun _ => fun
  | [d1, d2, d3, d4, d5, d6, d7, d8] => { results := [.lit (.bool false)], args := [d1, d2, d3, d4, d5, d6, d7, d8] }
  | _ => none }
def FnVssStringToSignBySnocWrongFalsely : Prop := fnVssStringToSignBySnocRow.holds Try.pinned (OpenSpec.ofChange fnVssStringToSignBySnocWrong)

/-- 'zzlaws_root_b1.FnVssStringToSignKeepsDst': WHATEVER THE INPUT: true; the input reads as it did. -/
def fnVssStringToSignKeepsDstSpec : ChangeSpec := { name := "fnVssStringToSignKeepsDst", fn := fun _ => fun
  | [d1, d2, d3, d4, d5, d6] => { results := [.lit (.bool true)], args := [d1, d2, d3, d4, d5, d6] }
  | _ => none }
def fnVssStringToSignKeepsDstRow : OpenClaim := { program := "qxb6601522a", sum := "0fc25bb4fba41b4d25d24ce251c294264579e994a3e48e1c80ba126c24d9d456", func := "example.com/ingestsign/ingestsign/zzlaws_root_b1.FnVssStringToSignKeepsDst", spec := "fnVssStringToSignKeepsDst", apart := false }
def FnVssStringToSignKeepsDstSaid : Prop := fnVssStringToSignKeepsDstRow.holds Try.pinned (OpenSpec.ofChange fnVssStringToSignKeepsDstSpec)

/-- ITS FALSE NEIGHBOUR: 'it returns false'. Refute it at one input. -/
def fnVssStringToSignKeepsDstWrong : ChangeSpec := { name := "fnVssStringToSignKeepsDst", fn := fun _ => fun
  | [d1, d2, d3, d4, d5, d6] => { results := [.lit (.bool false)], args := [d1, d2, d3, d4, d5, d6] }
  | _ => none }
def FnVssStringToSignKeepsDstWrongFalsely : Prop := fnVssStringToSignKeepsDstRow.holds Try.pinned (OpenSpec.ofChange fnVssStringToSignKeepsDstWrong)

end Rows
end Go.Proofs.Qxb6601522a
