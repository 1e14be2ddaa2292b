/-
  THE CLOSED FACTS FOR A WALK OVER fmt's STOPPED FRONT (fmt.Errorf, one integer operand), of this program, and the walks over poolSize, for every F. By an AI agent.
-/
import Derived.Test.Qxb6000084aFmtCards
import Derived.Stop.CallBack
import Derived.Stop.IfaceNil
import GoSem.ClaimData
import Derived.WalkKit
import Derived.WalkSpells
namespace Go.Proofs.Qxb6000084aFmt
open Go.RowKit Go.Extern.Stop Go.Stop Go.Extern

@[go_sem] theorem call8 (args : Array Value) (w : World) : (callFunc 8 args).run Tryf.prog w = ((FmtStop.errorf #[9, 28] #[23] args).run Tryf.prog w).andThen fun v w' => .ok (.value v) w' :=
  run_callFunc_extern Tryf.func8 (by kernel_rfl) (by kernel_rfl) (by kernel_rfl) (by kernel_rfl) args w
@[go_sem] theorem guard0 (name : String) (w : World) : (FmtStop.guard name).run Tryf.prog w = .ok () w := by kernel_rfl
@[go_sem] theorem fmt0 : FmtStop.printed? ⟨#[98, 111, 117, 110, 100, 101, 100, 112, 111, 111, 108, 58, 32, 119, 111, 114, 107, 101, 114, 115, 32, 105, 115, 32, 37, 100, 44, 32, 119, 97, 110, 116, 32, 48, 32, 111, 114, 32, 109, 111, 114, 101]⟩ 1 = some [(0, 100, false)] := by kernel_rfl
@[go_sem] theorem fmt0r (w : World) : (FmtDoors.printed ⟨#[98, 111, 117, 110, 100, 101, 100, 112, 111, 111, 108, 58, 32, 119, 111, 114, 107, 101, 114, 115, 32, 105, 115, 32, 37, 100, 44, 32, 119, 97, 110, 116, 32, 48, 32, 111, 114, 32, 109, 111, 114, 101]⟩ 1).run Tryf.prog w = .ok [(0, 100, false)] w := by kernel_rfl
@[go_sem] theorem fmt1 : FmtStop.printed? ⟨#[98, 111, 117, 110, 100, 101, 100, 112, 111, 111, 108, 58, 32, 113, 117, 101, 117, 101, 32, 105, 115, 32, 37, 100, 44, 32, 119, 97, 110, 116, 32, 48, 32, 111, 114, 32, 109, 111, 114, 101]⟩ 1 = some [(0, 100, false)] := by kernel_rfl
@[go_sem] theorem fmt1r (w : World) : (FmtDoors.printed ⟨#[98, 111, 117, 110, 100, 101, 100, 112, 111, 111, 108, 58, 32, 113, 117, 101, 117, 101, 32, 105, 115, 32, 37, 100, 44, 32, 119, 97, 110, 116, 32, 48, 32, 111, 114, 32, 109, 111, 114, 101]⟩ 1).run Tryf.prog w = .ok [(0, 100, false)] w := by kernel_rfl
def shape3 : List UInt8 := [5, 3, 0, 0, 0, 0, 0, 0, 0, 105, 110, 116]
@[go_sem] theorem op3_100 (name : String) (x : Int) (w : World) : (FmtStop.operand name false 100 false (.iface 3 (.int .i64 x))).run Tryf.prog w = .ok (shape3, Go.Extern.Stop.digits 8 (x % 2 ^ 64).toNat) w := by kernel_rfl
@[go_sem] theorem op3_100w (name : String) (x : Int) (w : World) : (FmtStop.operand name true 100 false (.iface 3 (.int .i64 x))).run Tryf.prog w = .ok (shape3, Go.Extern.Stop.digits 8 (x % 2 ^ 64).toNat) w := by kernel_rfl
@[go_sem] theorem ptr31 (w : World) : (FmtStop.ptrTo "errors.errorString").run Tryf.prog w = .ok 31 w := by kernel_rfl
@[go_sem] theorem elem31 (w : World) : (elemOf 31).run Tryf.prog w = .ok 33 w := by kernel_rfl
@[go_sem] theorem isError31 (w : World) : (FmtDoors.textMethod 31 "Error").run Tryf.prog w = .ok true w := by kernel_rfl

/-- What fmt is asked: the format's bytes, the operand's shape, its value. -/
def reading1 (n : Int) : List (List UInt8) := [[98, 111, 117, 110, 100, 101, 100, 112, 111, 111, 108, 58, 32, 119, 111, 114, 107, 101, 114, 115, 32, 105, 115, 32, 37, 100, 44, 32, 119, 97, 110, 116, 32, 48, 32, 111, 114, 32, 109, 111, 114, 101], shape3, digits 8 (n % 18446744073709551616).toNat]
def reading2 (n : Int) : List (List UInt8) := [[98, 111, 117, 110, 100, 101, 100, 112, 111, 111, 108, 58, 32, 113, 117, 101, 117, 101, 32, 105, 115, 32, 37, 100, 44, 32, 119, 97, 110, 116, 32, 48, 32, 111, 114, 32, 109, 111, 114, 101], shape3, digits 8 (n % 18446744073709551616).toNat]

set_option maxHeartbeats 400000 in
/-- workers is negative: 0 and an error that is not nil, in new memory. -/
theorem pool_neg1 (F : Interp) (a q c : Int) (w : World) (hF : F.answers w.tape) (ha : a < 0) :
    Calls Tryf.prog 6 #[.int .i64 a, .int .i64 q, .int .i64 c] w fun e w' => e = .returned (.tuple #[.int .i64 0, .iface 31 (.pointer (some ⟨w.heap.size + 1, 0, none⟩))]) ∧
      w' = ((w.alloc (.cells #[.iface 3 (.int .i64 a)] 20)).alloc (.cells #[.string (FmtStop.textOf (F "fmt.errorf" (reading1 a) 0))] 33)).drew := by
  have hF' := answers_open hF
  go_enter Tryf.func6, Tryf.ntmps6
  go_wp2
  go_ret2
  exact ⟨rfl, rfl⟩

set_option maxHeartbeats 400000 in
/-- workers is not, queue is negative. -/
theorem pool_neg2 (F : Interp) (a q c : Int) (w : World) (hF : F.answers w.tape) (ha : ¬ a < 0) (hq : q < 0) :
    Calls Tryf.prog 6 #[.int .i64 a, .int .i64 q, .int .i64 c] w fun e w' => e = .returned (.tuple #[.int .i64 0, .iface 31 (.pointer (some ⟨w.heap.size + 1, 0, none⟩))]) ∧
      w' = ((w.alloc (.cells #[.iface 3 (.int .i64 q)] 20)).alloc (.cells #[.string (FmtStop.textOf (F "fmt.errorf" (reading2 q) 0))] 33)).drew := by
  have hF' := answers_open hF
  go_enter Tryf.func6, Tryf.ntmps6
  go_wp2
  go_ret2
  exact ⟨rfl, rfl⟩

theorem ret2 {a b : Int} (h : a = b) : Ending.returned (.tuple #[.int .i64 a, .nilIface]) = .returned (.tuple #[.int .i64 b, .nilIface]) := by rw [h]

/-- The default count, wrapped as Go wraps it. -/
def dflt (c : Int) : Int := min (wrap64 (4 * c)) 200

set_option maxHeartbeats 400000 in
theorem pool_zero (q c : Int) (w : World) (hq : ¬ q < 0) :
    Calls Tryf.prog 6 #[.int .i64 0, .int .i64 q, .int .i64 c] w fun e w' => e = .returned (.tuple #[.int .i64 (dflt c), .nilIface]) ∧ w' = w := by
  go_enter Tryf.func6, Tryf.ntmps6
  go_wp2
  all_goals
    go_ret2
    exact ⟨ret2 (by unfold dflt; omega), rfl⟩

set_option maxHeartbeats 400000 in
theorem pool_pos (a q c : Int) (w : World) (ha : 0 < a) (hq : ¬ q < 0) :
    Calls Tryf.prog 6 #[.int .i64 a, .int .i64 q, .int .i64 c] w fun e w' => e = .returned (.tuple #[.int .i64 a, .nilIface]) ∧ w' = w := by
  go_enter Tryf.func6, Tryf.ntmps6
  go_wp2
  go_ret2
  exact ⟨rfl, rfl⟩

end Go.Proofs.Qxb6000084aFmt
