/-
  No cell of these rows narrows 'for every input' (looked for: loops, veiled, ifaces, maps, wideKeys, modest, calm, conditions, laid).
  DERIVED. THE GIVEN ROWS OF THIS SEAT. 2 by the template 'for every input the law returns true; each argument reads behind the call as it read before'; 0 by the template 'total and deterministic' (their statements: Qxb6600808aTotals.lean).
  GIVEN WITH THE SEED: the statements are not yours to turn. If you find one false, say at which input.
  Laid BY PROGRAM, IN A SANDBOX (cutbox-rows.mjs): the forced cells as the released guide's own fill.sh prints them over the translation 7a1c41a06ef97949… (all of the seat's roots in one cut). By AI agents, Wed Nov 11 2026. No macro, syntax, notation, axiom, sorry.
-/
import Derived.Test.Qxb6600808aChecked
import GoSem.Claim
import GoSem.ClaimJoined
import GoSem.ClaimMapViews
import Derived.JoinedTies
import Derived.KernelRfl
namespace Go.Proofs.Qxb6600808a
/- THE CELL 'sum', in the pinned program and in every row, IS THE sha256 OF THE DUMP (.gsa) THAT Qxb6600808aProg.lean LOADS. Nothing in Lean hashes anything: it is a label: what it is worth is what the hold of that sum in a sandbox is worth. -/
noncomputable def Try.pinned : Pinned := { name := "qxb6600808a", sum := "7a1c41a06ef97949c26890f4d22031d819170716b1276cd0ceb995ee8c0bf80a", checked := Try.checked }
namespace Rows
def none {H : Type} : Left H := { results := [], args := [] }

/-- 'zzlaws_server_b1.FnChildNamesSortedSetOfChildren': WHATEVER THE INPUT: true; the input reads as it did. -/
def fnChildNamesSortedSetOfChildrenSpec : ChangeSpec := { name := "fnChildNamesSortedSetOfChildren", fn := fun _ => fun
  | [d] => { results := [.lit (.bool true)], args := [d] }
  | _ => none }
def fnChildNamesSortedSetOfChildrenRow : OpenClaim := { program := "qxb6600808a", sum := "7a1c41a06ef97949c26890f4d22031d819170716b1276cd0ceb995ee8c0bf80a", func := "example.com/zlatch/zlatch/zzlaws_server_b1.FnChildNamesSortedSetOfChildren", spec := "fnChildNamesSortedSetOfChildren", recurses := true, apart := false }
def FnChildNamesSortedSetOfChildrenSaid : Prop := fnChildNamesSortedSetOfChildrenRow.holds Try.pinned (OpenSpec.ofChange fnChildNamesSortedSetOfChildrenSpec)

/-- ITS FALSE NEIGHBOUR: 'it returns false'. Refute it at one input. -/
def fnChildNamesSortedSetOfChildrenWrong : ChangeSpec := { name := "fnChildNamesSortedSetOfChildren", fn := fun _ => fun
  | [d] => { results := [.lit (.bool false)], args := [d] }
  | _ => none }
def FnChildNamesSortedSetOfChildrenWrongFalsely : Prop := fnChildNamesSortedSetOfChildrenRow.holds Try.pinned (OpenSpec.ofChange fnChildNamesSortedSetOfChildrenWrong)

/-- 'zzlaws_server_b1.FnChildNamesOrderAndRepeatsFree': WHATEVER THE INPUT: true; the input reads as it did. -/
def fnChildNamesOrderAndRepeatsFreeSpec : ChangeSpec := { name := "fnChildNamesOrderAndRepeatsFree", fn := fun _ => fun
  | [d] => { results := [.lit (.bool true)], args := [d] }
  | _ => none }
def fnChildNamesOrderAndRepeatsFreeRow : OpenClaim := { program := "qxb6600808a", sum := "7a1c41a06ef97949c26890f4d22031d819170716b1276cd0ceb995ee8c0bf80a", func := "example.com/zlatch/zlatch/zzlaws_server_b1.FnChildNamesOrderAndRepeatsFree", spec := "fnChildNamesOrderAndRepeatsFree", recurses := true, apart := false }
def FnChildNamesOrderAndRepeatsFreeSaid : Prop := fnChildNamesOrderAndRepeatsFreeRow.holds Try.pinned (OpenSpec.ofChange fnChildNamesOrderAndRepeatsFreeSpec)

/-- ITS FALSE NEIGHBOUR: 'it returns false'. Refute it at one input. -/
def fnChildNamesOrderAndRepeatsFreeWrong : ChangeSpec := { name := "fnChildNamesOrderAndRepeatsFree", fn := fun _ => fun
  | [d] => { results := [.lit (.bool false)], args := [d] }
  | _ => none }
def FnChildNamesOrderAndRepeatsFreeWrongFalsely : Prop := fnChildNamesOrderAndRepeatsFreeRow.holds Try.pinned (OpenSpec.ofChange fnChildNamesOrderAndRepeatsFreeWrong)

end Rows
end Go.Proofs.Qxb6600808a
