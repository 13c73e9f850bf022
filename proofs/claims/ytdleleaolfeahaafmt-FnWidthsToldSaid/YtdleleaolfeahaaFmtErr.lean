/- fmt.Errorf("lzw: litWidth %d out of range", n) as the stop answers it: a new error that is not nil, whatever n. Condition: the tape's answers are a function's (F.answers). -/
import Derived.Test.YtdleleaolfeahaaFmtRows
import Derived.Stop.CallBack
import Derived.Stop.IfaceNil
import GoSem.ClaimData
import Derived.WalkKit
import Derived.WalkSpells
import Derived.Handy
namespace Go.Proofs.YtdleleaolfeahaaFmt
open Go.RowKit Go.Extern.Stop Go.Stop Go.Extern

@[go_sem] theorem Tryf.call24 (args : Array Value) (w : World) : (callFunc 24 args).run Tryf.prog w = ((FmtStop.errorf #[9, 81] #[48] args).run Tryf.prog w).andThen fun v w' => .ok (.value v) w' :=
  run_callFunc_extern Tryf.func24 (by kernel_rfl) (by kernel_rfl) (by kernel_rfl) (by kernel_rfl) args w
@[go_sem] theorem Tryf.guard (name : String) (w : World) : (FmtStop.guard name).run Tryf.prog w = .ok () w := by kernel_rfl
/-- "lzw: litWidth %d out of range" -/
def wfmt : ByteArray := ⟨#[108, 122, 119, 58, 32, 108, 105, 116, 87, 105, 100, 116, 104, 32, 37, 100, 32, 111, 117, 116, 32, 111, 102, 32, 114, 97, 110, 103, 101]⟩
@[go_sem] theorem Tryf.fmt0 : FmtStop.printed? ⟨#[108, 122, 119, 58, 32, 108, 105, 116, 87, 105, 100, 116, 104, 32, 37, 100, 32, 111, 117, 116, 32, 111, 102, 32, 114, 97, 110, 103, 101]⟩ 1 = some [(0, 100, false)] := by kernel_rfl
@[go_sem] theorem Tryf.fmt0r (w : World) : (FmtDoors.printed ⟨#[108, 122, 119, 58, 32, 108, 105, 116, 87, 105, 100, 116, 104, 32, 37, 100, 32, 111, 117, 116, 32, 111, 102, 32, 114, 97, 110, 103, 101]⟩ 1).run Tryf.prog w = .ok [(0, 100, false)] w := by kernel_rfl
def Tryf.shape3 : List UInt8 := [5, 3, 0, 0, 0, 0, 0, 0, 0, 105, 110, 116]
@[go_sem] theorem Tryf.op3_118 (name : String) (x : Int) (w : World) : (FmtStop.operand name false 118 false (.iface 3 (.int .i64 x))).run Tryf.prog w = .ok (Tryf.shape3, Go.Extern.Stop.digits 8 (x % 2 ^ 64).toNat) w := by kernel_rfl
@[go_sem] theorem Tryf.op3_100 (name : String) (x : Int) (w : World) : (FmtStop.operand name false 100 false (.iface 3 (.int .i64 x))).run Tryf.prog w = .ok (Tryf.shape3, Go.Extern.Stop.digits 8 (x % 2 ^ 64).toNat) w := by kernel_rfl
@[go_sem] theorem Tryf.op3_100w (name : String) (x : Int) (w : World) : (FmtStop.operand name true 100 false (.iface 3 (.int .i64 x))).run Tryf.prog w = .ok (Tryf.shape3, Go.Extern.Stop.digits 8 (x % 2 ^ 64).toNat) w := by kernel_rfl
@[go_sem] theorem Tryf.strict3 (name : String) (x : Int) (w : World) : (FmtStop.strict name (.iface 3 (.int .i64 x))).run Tryf.prog w = .ok (Tryf.shape3, Go.Extern.Stop.digits 8 (x % 2 ^ 64).toNat) w := by kernel_rfl
@[go_sem] theorem Tryf.ptr78 (w : World) : (FmtStop.ptrTo "errors.errorString").run Tryf.prog w = .ok 78 w := by kernel_rfl
@[go_sem] theorem Tryf.elem78 (w : World) : (elemOf 78).run Tryf.prog w = .ok 80 w := by kernel_rfl
@[go_sem] theorem Tryf.isError78 (w : World) : (FmtDoors.textMethod 78 "Error").run Tryf.prog w = .ok true w := by kernel_rfl

set_option maxHeartbeats 1000000 in
theorem errorf_width (F : Interp) (n : Int) (a : Addr) (w : World) (hF : F.answers w.tape) (hc : w.cell? a = some (.iface 3 (.int .i64 n))) :
    Calls Tryf.prog 22 #[.string ⟨#[108, 122, 119, 58, 32, 108, 105, 116, 87, 105, 100, 116, 104, 32, 37, 100, 32, 111, 117, 116, 32, 111, 102, 32, 114, 97, 110, 103, 101]⟩, .slice (some a) 1 1] w fun e w' => e = .returned (.iface 78 (.pointer (some ⟨w.heap.size, 0, none⟩))) ∧ ∃ x, (w.alloc (.cells #[.string x] 80)).drew = w' := by
  have hF' : ∀ i name reading k range, w.tape i (.extern (word name reading k) range) = F name reading k := hF
  go_enter Tryf.func22, Tryf.ntmps22
  go_wp2
  go_ret
  exact ⟨rfl, _, rfl⟩
end Go.Proofs.YtdleleaolfeahaaFmt
