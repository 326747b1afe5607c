/-
  Seat b6605675aF: fmt.Sprintf("%s:%d%s", ..) (35, a stop) as the walk meets it; Address.String (31).
-/
import Derived.Test.Qxb6605675aFmtBase
import Derived.Stop.CallBack
import Derived.Stop.IfaceNil
import GoSem.ClaimData
namespace Go.Proofs.Qxb6605675aFmt
open Go.RowKit Go.Extern.Stop Go.Stop Go.Extern

theorem call35 (args : Array Value) (w : World) : (callFunc 35 args).run Tryf.prog w = ((FmtStop.sprintf #[9, 96] #[9] args).run Tryf.prog w).andThen fun v w' => .ok (.value v) w' :=
  run_callFunc_extern Tryf.func35 (by kernel_rfl) (by kernel_rfl) (by kernel_rfl) (by kernel_rfl) args w
theorem guardF (name : String) (w : World) : (FmtStop.guard name).run Tryf.prog w = .ok () w := by kernel_rfl
theorem fmt0 : FmtStop.printed? ⟨#[37, 115, 58, 37, 100, 37, 115]⟩ 3 = some [(0, 115, false), (1, 100, false), (2, 115, false)] := by kernel_rfl
theorem fmt0r (w : World) : (FmtDoors.printed ⟨#[37, 115, 58, 37, 100, 37, 115]⟩ 3).run Tryf.prog w = .ok [(0, 115, false), (1, 100, false), (2, 115, false)] w := by kernel_rfl
def shape9 : List UInt8 := [12, 6, 0, 0, 0, 0, 0, 0, 0, 115, 116, 114, 105, 110, 103]
def shape42 : List UInt8 := FmtStop.intCode .u16 :: [6, 0, 0, 0, 0, 0, 0, 0, 117, 105, 110, 116, 49, 54]
theorem op9_115 (name : String) (x : ByteArray) (w : World) : (FmtStop.operand name false 115 false (.iface 9 (.string x))).run Tryf.prog w = .ok (shape9, FmtStop.pack x.data.toList) w := by kernel_rfl
theorem op42_100 (name : String) (x : Int) (w : World) : (FmtStop.operand name false 100 false (.iface 42 (.int .u16 x))).run Tryf.prog w = .ok (shape42, digits 8 (x % 2 ^ 64).toNat) w := by kernel_rfl

attribute [local go_sem] call35 guardF fmt0 fmt0r op9_115 op42_100

/-- What fmt is asked. -/
def reading (h : ByteArray) (p : Int) (t : ByteArray) : List (List UInt8) :=
  [[37, 115, 58, 37, 100, 37, 115], shape9, FmtStop.pack h.data.toList, shape42, digits 8 (p % 18446744073709551616).toNat, shape9, FmtStop.pack t.data.toList]
/-- An address's text, as F tells it. -/
def addrText (F : Interp) (h : ByteArray) (p : Int) (t : ByteArray) : ByteArray := FmtStop.textOf (F "fmt.Sprintf" (reading h p t) 0)

set_option maxHeartbeats 1000000 in
theorem addrString (F : Interp) (h : ByteArray) (p : Int) (t : ByteArray) (w : World) (hF : F.answers w.tape) :
    Calls Tryf.prog 31 #[.agg #[.string h, .int .u16 p, .string t]] w fun e w' => e = .returned (.string (addrText F h p t)) ∧ Below w.heap.size w w' := by
  have hF' := answers_open hF
  go_enter Tryf.func31, Tryf.ntmps31
  go_wp2
  go_ret
  exact ⟨rfl, (((Below.refl _ _).alloc (Nat.le_refl _) _).alloc (by simp) _).drew⟩

end Go.Proofs.Qxb6605675aFmt
