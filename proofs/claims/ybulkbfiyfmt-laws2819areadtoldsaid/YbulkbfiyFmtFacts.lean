/- The closed facts for a walk over fmt's two stopped fronts in this dump (as the kit's own texts have them for other dumps): each by the kernel's evaluation. -/
import Derived.Test.YbulkbfiyFmtPos
import Derived.Stop.CallBack
import Derived.Stop.IfaceNil
namespace Go.Proofs.YbulkbfiyFmt
open Go.RowKit Go.Extern.Stop Go.Stop Go.Extern
attribute [local go_sem] eqNil22
set_option linter.unusedVariables false

theorem call17 (args : Array Value) (w : World) : (callFunc 17 args).run Ybaf.prog w = (FmtCalls.sprintf #[9, 47] #[9] args).run Ybaf.prog w :=
  run_callFunc_next Ybaf.func17 (by kernel_rfl) (by kernel_rfl) (by kernel_rfl) args w
attribute [local go_sem] call17
theorem call19 (args : Array Value) (w : World) : (callFunc 19 args).run Ybaf.prog w = ((FmtStop.errorf #[9, 47] #[31] args).run Ybaf.prog w).andThen fun v w' => .ok (.value v) w' :=
  run_callFunc_extern Ybaf.func19 (by kernel_rfl) (by kernel_rfl) (by kernel_rfl) (by kernel_rfl) args w
attribute [local go_sem] call19
theorem fguard (name : String) (w : World) : (FmtStop.guard name).run Ybaf.prog w = .ok () w := by kernel_rfl
attribute [local go_sem] fguard
theorem nextTurns : Extern.next FmtCalls.turnsRow = some (FmtCalls.begun #[] #[]) := by kernel_rfl

def text_a : ByteArray := ⟨#[110, 111, 32, 116, 114, 101, 101, 32, 104, 97, 115, 32, 97, 32, 110, 111, 100, 101, 32, 37, 100, 32, 100, 101, 101, 112, 32, 119, 105, 116, 104, 32, 116, 104, 101, 32, 99, 111, 117, 110, 116, 32, 37, 100]⟩
theorem fmt_a : FmtStop.printed? ⟨#[110, 111, 32, 116, 114, 101, 101, 32, 104, 97, 115, 32, 97, 32, 110, 111, 100, 101, 32, 37, 100, 32, 100, 101, 101, 112, 32, 119, 105, 116, 104, 32, 116, 104, 101, 32, 99, 111, 117, 110, 116, 32, 37, 100]⟩ 2 = some [(0, 100, false), (1, 100, false)] := by kernel_rfl
attribute [local go_sem] fmt_a
theorem fmt_ar (w : World) : (FmtDoors.printed ⟨#[110, 111, 32, 116, 114, 101, 101, 32, 104, 97, 115, 32, 97, 32, 110, 111, 100, 101, 32, 37, 100, 32, 100, 101, 101, 112, 32, 119, 105, 116, 104, 32, 116, 104, 101, 32, 99, 111, 117, 110, 116, 32, 37, 100]⟩ 2).run Ybaf.prog w = .ok [(0, 100, false), (1, 100, false)] w := by kernel_rfl
attribute [local go_sem] fmt_ar
def text_b : ByteArray := ⟨#[118, 97, 108, 117, 101, 32, 114, 117, 110, 115, 32, 112, 97, 115, 116, 32, 116, 104, 101, 32, 101, 110, 100, 32, 111, 102, 32, 116, 104, 101, 32, 105, 110, 112, 117, 116]⟩
theorem fmt_b : FmtStop.printed? ⟨#[118, 97, 108, 117, 101, 32, 114, 117, 110, 115, 32, 112, 97, 115, 116, 32, 116, 104, 101, 32, 101, 110, 100, 32, 111, 102, 32, 116, 104, 101, 32, 105, 110, 112, 117, 116]⟩ 0 = some [] := by kernel_rfl
attribute [local go_sem] fmt_b
theorem fmt_br (w : World) : (FmtDoors.printed ⟨#[118, 97, 108, 117, 101, 32, 114, 117, 110, 115, 32, 112, 97, 115, 116, 32, 116, 104, 101, 32, 101, 110, 100, 32, 111, 102, 32, 116, 104, 101, 32, 105, 110, 112, 117, 116]⟩ 0).run Ybaf.prog w = .ok [] w := by kernel_rfl
attribute [local go_sem] fmt_br
def text_c : ByteArray := ⟨#[97, 116, 32, 111, 99, 116, 101, 116, 32, 37, 100, 58, 32, 37, 115]⟩
theorem fmt_c : FmtStop.printed? ⟨#[97, 116, 32, 111, 99, 116, 101, 116, 32, 37, 100, 58, 32, 37, 115]⟩ 2 = some [(0, 100, false), (1, 115, false)] := by kernel_rfl
attribute [local go_sem] fmt_c
theorem fmt_cr (w : World) : (FmtDoors.printed ⟨#[97, 116, 32, 111, 99, 116, 101, 116, 32, 37, 100, 58, 32, 37, 115]⟩ 2).run Ybaf.prog w = .ok [(0, 100, false), (1, 115, false)] w := by kernel_rfl
attribute [local go_sem] fmt_cr

def shape5 : List UInt8 := [6, 5, 0, 0, 0, 0, 0, 0, 0, 117, 105, 110, 116, 56]
theorem op5_100 (name : String) (x : Int) (w : World) : (FmtStop.operand name false 100 false (.iface 5 (.int .u8 x))).run Ybaf.prog w = .ok (shape5, Go.Extern.Stop.digits 8 (x % 2 ^ 64).toNat) w := by kernel_rfl
attribute [local go_sem] op5_100
theorem op5_100w (name : String) (x : Int) (w : World) : (FmtStop.operand name true 100 false (.iface 5 (.int .u8 x))).run Ybaf.prog w = .ok (shape5, Go.Extern.Stop.digits 8 (x % 2 ^ 64).toNat) w := by kernel_rfl
attribute [local go_sem] op5_100w
theorem act5_100 (name : String) (x : Value) (w : World) : (FmtCalls.act name false 100 false (.iface 5 x)).run Ybaf.prog w = .ok (.closed false) w := by kernel_rfl
attribute [local go_sem] act5_100
def shape25 : List UInt8 := [9, 6, 0, 0, 0, 0, 0, 0, 0, 117, 105, 110, 116, 54, 52]
theorem op25_100 (name : String) (x : Int) (w : World) : (FmtStop.operand name false 100 false (.iface 25 (.int .u64 x))).run Ybaf.prog w = .ok (shape25, Go.Extern.Stop.digits 8 (x % 2 ^ 64).toNat) w := by kernel_rfl
attribute [local go_sem] op25_100
theorem op25_100w (name : String) (x : Int) (w : World) : (FmtStop.operand name true 100 false (.iface 25 (.int .u64 x))).run Ybaf.prog w = .ok (shape25, Go.Extern.Stop.digits 8 (x % 2 ^ 64).toNat) w := by kernel_rfl
attribute [local go_sem] op25_100w
theorem act25_100 (name : String) (x : Value) (w : World) : (FmtCalls.act name false 100 false (.iface 25 x)).run Ybaf.prog w = .ok (.closed false) w := by kernel_rfl
attribute [local go_sem] act25_100
def shape3 : List UInt8 := [5, 3, 0, 0, 0, 0, 0, 0, 0, 105, 110, 116]
theorem op3_100 (name : String) (x : Int) (w : World) : (FmtStop.operand name false 100 false (.iface 3 (.int .i64 x))).run Ybaf.prog w = .ok (shape3, Go.Extern.Stop.digits 8 (x % 2 ^ 64).toNat) w := by kernel_rfl
attribute [local go_sem] op3_100
theorem op3_100w (name : String) (x : Int) (w : World) : (FmtStop.operand name true 100 false (.iface 3 (.int .i64 x))).run Ybaf.prog w = .ok (shape3, Go.Extern.Stop.digits 8 (x % 2 ^ 64).toNat) w := by kernel_rfl
attribute [local go_sem] op3_100w
theorem act3_100 (name : String) (x : Value) (w : World) : (FmtCalls.act name false 100 false (.iface 3 x)).run Ybaf.prog w = .ok (.closed false) w := by kernel_rfl
attribute [local go_sem] act3_100
def shape9 : List UInt8 := [12, 6, 0, 0, 0, 0, 0, 0, 0, 115, 116, 114, 105, 110, 103]
theorem op9_115w (name : String) (x : ByteArray) (w : World) : (FmtStop.operand name true 115 false (.iface 9 (.string x))).run Ybaf.prog w = .ok (shape9, FmtStop.pack x.data.toList) w := by kernel_rfl
attribute [local go_sem] op9_115w
theorem ptr53 (w : World) : (FmtStop.ptrTo "errors.errorString").run Ybaf.prog w = .ok 53 w := by kernel_rfl
attribute [local go_sem] ptr53
theorem elem53 (w : World) : (elemOf 53).run Ybaf.prog w = .ok 55 w := by kernel_rfl
attribute [local go_sem] elem53

set_option maxHeartbeats 1000000 in
/-- fmt.Errorf as the decoder calls it: it gives an error of errors.New's make. -/
theorem errorf_any (F : Interp) (off : Int) (s : ByteArray) (X : Nat) (w : World) (hF : F.answers w.tape) (hc0 : w.cell? ⟨X, 0, none⟩ = some (.iface 3 (.int .i64 off))) (hc1 : w.cell? ⟨X, 1, none⟩ = some (.iface 9 (.string s))) :
    Calls Ybaf.prog 16 #[.string ⟨#[97, 116, 32, 111, 99, 116, 101, 116, 32, 37, 100, 58, 32, 37, 115]⟩, .slice (some ⟨X, 0, none⟩) 2 2] w fun e w' =>
      ∃ p, e = .returned (.iface 53 (.pointer p)) ∧ Below w.heap.size w w' := by
  have hF' := answers_open hF
  go_enter Ybaf.func16, Ybaf.ntmps16
  go_wp2
  go_ret
  exact ⟨_, rfl, ((Below.refl _ w).alloc (Nat.le_refl _) _).drew⟩

end Go.Proofs.YbulkbfiyFmt
