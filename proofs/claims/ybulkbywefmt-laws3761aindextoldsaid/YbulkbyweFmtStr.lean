import Derived.Test.YbulkbyweFmtFr
import Derived.Stop.CallBack
import Derived.Stop.IfaceNil
import GoSem.ClaimData
namespace Go.Proofs.YbulkbyweFmt
open Go.Shelf Go.RowKit Go.Lib Go.Proofs
open Go.Extern.Stop Go.Stop Go.Extern

theorem Ybaf.call29 (args : Array Value) (w : World) : (callFunc 29 args).run Ybaf.prog w = ((FmtStop.sprintf #[9, 159] #[9] args).run Ybaf.prog w).andThen fun v w' => .ok (.value v) w' :=
  run_callFunc_extern Ybaf.func29 (by kernel_rfl) (by kernel_rfl) (by kernel_rfl) (by kernel_rfl) args w

theorem Ybaf.guard (name : String) (w : World) : (FmtStop.guard name).run Ybaf.prog w = .ok () w := by kernel_rfl

theorem Ybaf.fmtsd : FmtStop.printed? ⟨#[37, 115, 58, 37, 100]⟩ 2 = some [(0, 115, false), (1, 100, false)] := by kernel_rfl
theorem Ybaf.fmtsdr (w : World) : (FmtDoors.printed ⟨#[37, 115, 58, 37, 100]⟩ 2).run Ybaf.prog w = .ok [(0, 115, false), (1, 100, false)] w := by kernel_rfl

def Ybaf.shape9 : List UInt8 := [12, 6, 0, 0, 0, 0, 0, 0, 0, 115, 116, 114, 105, 110, 103]
theorem Ybaf.op9 (name : String) (x : ByteArray) (w : World) : (FmtStop.operand name false 115 false (.iface 9 (.string x))).run Ybaf.prog w = .ok (Ybaf.shape9, FmtStop.pack x.data.toList) w := by kernel_rfl
def Ybaf.shape60 : List UInt8 := [9, 6, 0, 0, 0, 0, 0, 0, 0, 117, 105, 110, 116, 54, 52]
theorem Ybaf.op60 (name : String) (x : Int) (w : World) : (FmtStop.operand name false 100 false (.iface 60 (.int .u64 x))).run Ybaf.prog w = .ok (Ybaf.shape60, Go.Extern.Stop.digits 8 (x % 2 ^ 64).toNat) w := by kernel_rfl

/-- WHAT fmt IS ASKED. -/
def sReading (nm : List UInt8) (x : Int) : List (List UInt8) :=
  [[37, 115, 58, 37, 100], Ybaf.shape9, FmtStop.pack nm, Ybaf.shape60, digits 8 (x % 18446744073709551616).toNat]

set_option maxHeartbeats 400000 in
set_option maxRecDepth 100000 in
theorem string19 (F : Interp) (nm : ByteArray) (x : Nat) (w : World) (hF : F.answers w.tape) :
    Calls Ybaf.prog 19 #[.agg #[.string nm, .int .u64 x]] w fun e w' => e = .returned (.string (FmtStop.textOf (F "fmt.Sprintf" (sReading nm.data.toList x) 0))) ∧ Fr (fun _ => False) w w' := by
  have hF' := answers_open hF
  have q1 := Ybaf.call29
  have q2 := Ybaf.guard
  have q3 := Ybaf.fmtsd
  have q4 := Ybaf.fmtsdr
  have q5 := Ybaf.op9
  have q6 := Ybaf.op60
  go_enter Ybaf.func19, Ybaf.ntmps19
  go_wp2
  go_ret
  refine ⟨rfl, ?_⟩
  exact ((Fr.alloc (X := fun _ => False) w _).trans (Fr.alloc (X := fun _ => False) _ _) (fun _ h => h) (fun _ _ h => h)).trans (Fr.drew (X := fun _ => False) _) (fun _ h => h) (fun _ _ h => h)
end Go.Proofs.YbulkbyweFmt
