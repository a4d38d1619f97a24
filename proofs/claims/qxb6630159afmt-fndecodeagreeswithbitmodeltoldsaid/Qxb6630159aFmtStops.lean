import Derived.Test.Qxb6630159aFmtRows
import Derived.WalkKit
import Derived.WalkSpells
import Derived.WalkLawsBesides
import Derived.Stop.CallBack
import Derived.Stop.IfaceNil
import Derived.Handy
import Derived.OpenShut
namespace Go.Proofs.Qxb6630159aFmt
open Go.RowKit Go.Extern.Stop Go.Stop Go.Extern

theorem call16 (args : Array Value) (w : World) : (callFunc 16 args).run Tryf.prog w = ((FmtStop.sprintf #[9, 73] #[9] args).run Tryf.prog w).andThen fun v w' => .ok (.value v) w' :=
  run_callFunc_extern Tryf.func16 (by kernel_rfl) (by kernel_rfl) (by kernel_rfl) (by kernel_rfl) args w
theorem guardF (name : String) (w : World) : (FmtStop.guard name).run Tryf.prog w = .ok () w := by kernel_rfl
theorem fmtLen : FmtStop.printed? ⟨#[37, 100, 32, 98, 121, 116, 101, 115, 44, 32, 119, 97, 110, 116, 32, 37, 100]⟩ 2 = some [(0, 100, false), (1, 100, false)] := by kernel_rfl
theorem fmtPad : FmtStop.printed? ⟨#[116, 104, 101, 32, 37, 100, 32, 98, 105, 116, 115, 32, 97, 102, 116, 101, 114, 32, 116, 104, 101, 32, 108, 97, 115, 116, 32, 102, 105, 101, 108, 100, 32, 109, 117, 115, 116, 32, 98, 101, 32, 48]⟩ 1 = some [(0, 100, false)] := by kernel_rfl
theorem fmtEnt : FmtStop.printed? ⟨#[101, 110, 116, 114, 121, 32, 37, 100, 32, 105, 115, 32, 37, 100, 44, 32, 109, 117, 115, 116, 32, 98, 101, 32, 98, 101, 108, 111, 119, 32, 66, 32, 61, 32, 37, 100]⟩ 3 = some [(0, 100, false), (1, 100, false), (2, 100, false)] := by kernel_rfl
def shape3 : List UInt8 := [5, 3, 0, 0, 0, 0, 0, 0, 0, 105, 110, 116]
def shape39 : List UInt8 := [9, 6, 0, 0, 0, 0, 0, 0, 0, 117, 105, 110, 116, 54, 52]
theorem op3 (name : String) (x : Int) (w : World) : (FmtStop.operand name false 100 false (.iface 3 (.int .i64 x))).run Tryf.prog w = .ok (shape3, Go.Extern.Stop.digits 8 (x % 2 ^ 64).toNat) w := by kernel_rfl
theorem op39 (name : String) (x : Int) (w : World) : (FmtStop.operand name false 100 false (.iface 39 (.int .u64 x))).run Tryf.prog w = .ok (shape39, Go.Extern.Stop.digits 8 (x % 2 ^ 64).toNat) w := by kernel_rfl

theorem wrongLength_any (s : ByteArray) (x y : Int) (w : World) :
    Calls Tryf.prog 18 #[.string s, .int .i64 x, .int .i64 y] w fun e w' => (∃ b, e = .returned (.pointer (some b))) ∧ Below w.heap.size w w' := by
  have h1 := call16
  have h2 := guardF
  have h3 := fmtLen
  have h4 := op3
  go_enter Tryf.func18, Tryf.ntmps18
  go_wp2
  all_goals (go_ret; exact ⟨⟨_, rfl⟩, by go_grown⟩)
end Go.Proofs.Qxb6630159aFmt
