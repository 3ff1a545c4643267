import Derived.Test.YbulkcdssFmtProg
import Derived.WalkKit
import Derived.WalkSpells
import Derived.Stop.CallBack
import Derived.Stop.IfaceNil
import GoSem.ClaimData
namespace Go.Proofs.YbulkcdssFmt
open Go.RowKit Go.Extern.Stop Go.Stop Go.Extern
set_option linter.unusedVariables false

theorem call27 (args : Array Value) (w : World) : (callFunc 27 args).run Ybaf.prog w = (FmtCalls.errorf #[9, 77] #[32] args).run Ybaf.prog w :=
  run_callFunc_next Ybaf.func27 (by kernel_rfl) (by kernel_rfl) (by kernel_rfl) args w
theorem fguard (name : String) (w : World) : (FmtStop.guard name).run Ybaf.prog w = .ok () w := by kernel_rfl
-- the three formats: a sign that is no hex digit; an odd number; another number than is wanted
theorem fmtQ0 : FmtStop.printed? ⟨#[37, 113, 32, 97, 116, 32, 111, 102, 102, 115, 101, 116, 32, 37, 100, 32, 105, 115, 32, 110, 111, 116, 32, 97, 32, 104, 101, 120, 32, 100, 105, 103, 105, 116]⟩ 2 = some [(0, 113, false), (1, 100, false)] := by kernel_rfl
theorem fmtQr (w : World) : (FmtDoors.printed ⟨#[37, 113, 32, 97, 116, 32, 111, 102, 102, 115, 101, 116, 32, 37, 100, 32, 105, 115, 32, 110, 111, 116, 32, 97, 32, 104, 101, 120, 32, 100, 105, 103, 105, 116]⟩ 2).run Ybaf.prog w = .ok [(0, 113, false), (1, 100, false)] w := by kernel_rfl
theorem fmtO0 : FmtStop.printed? ⟨#[111, 100, 100, 32, 110, 117, 109, 98, 101, 114, 32, 111, 102, 32, 104, 101, 120, 32, 100, 105, 103, 105, 116, 115, 32, 40, 37, 100, 41, 58, 32, 97, 110, 32, 111, 99, 116, 101, 116, 32, 116, 97, 107, 101, 115, 32, 116, 119, 111]⟩ 1 = some [(0, 100, false)] := by kernel_rfl
theorem fmtOr (w : World) : (FmtDoors.printed ⟨#[111, 100, 100, 32, 110, 117, 109, 98, 101, 114, 32, 111, 102, 32, 104, 101, 120, 32, 100, 105, 103, 105, 116, 115, 32, 40, 37, 100, 41, 58, 32, 97, 110, 32, 111, 99, 116, 101, 116, 32, 116, 97, 107, 101, 115, 32, 116, 119, 111]⟩ 1).run Ybaf.prog w = .ok [(0, 100, false)] w := by kernel_rfl
theorem fmtW0 : FmtStop.printed? ⟨#[37, 100, 32, 104, 101, 120, 32, 100, 105, 103, 105, 116, 115, 44, 32, 119, 97, 110, 116, 32, 37, 100]⟩ 2 = some [(0, 100, false), (1, 100, false)] := by kernel_rfl
theorem fmtWr (w : World) : (FmtDoors.printed ⟨#[37, 100, 32, 104, 101, 120, 32, 100, 105, 103, 105, 116, 115, 44, 32, 119, 97, 110, 116, 32, 37, 100]⟩ 2).run Ybaf.prog w = .ok [(0, 100, false), (1, 100, false)] w := by kernel_rfl

def shape21 : List UInt8 := [4, 5, 0, 0, 0, 0, 0, 0, 0, 105, 110, 116, 51, 50]
def shape3 : List UInt8 := [5, 3, 0, 0, 0, 0, 0, 0, 0, 105, 110, 116]
theorem act21q (name : String) (x : Value) (w : World) : (FmtCalls.act name true 113 false (.iface 21 x)).run Ybaf.prog w = .ok (.closed true) w := by kernel_rfl
theorem op21q (name : String) (x : Int) (w : World) : (FmtStop.operand name true 113 false (.iface 21 (.int .i32 x))).run Ybaf.prog w = .ok (shape21, Go.Extern.Stop.digits 8 (x % 2 ^ 64).toNat) w := by kernel_rfl
theorem act3d (name : String) (x : Value) (w : World) : (FmtCalls.act name true 100 false (.iface 3 x)).run Ybaf.prog w = .ok (.closed true) w := by kernel_rfl
theorem op3d (name : String) (x : Int) (w : World) : (FmtStop.operand name true 100 false (.iface 3 (.int .i64 x))).run Ybaf.prog w = .ok (shape3, Go.Extern.Stop.digits 8 (x % 2 ^ 64).toNat) w := by kernel_rfl
theorem ptr85 (w : World) : (FmtStop.ptrTo "errors.errorString").run Ybaf.prog w = .ok 85 w := by kernel_rfl
theorem elem85 (w : World) : (elemOf 85).run Ybaf.prog w = .ok 87 w := by kernel_rfl
theorem isError85 (w : World) : (FmtDoors.textMethod 85 "Error").run Ybaf.prog w = .ok true w := by kernel_rfl

theorem nextTurns : Extern.next FmtCalls.turnsRow = some (FmtCalls.begun #[] #[]) := by kernel_rfl

attribute [local go_sem] call27 fguard fmtQ0 fmtQr fmtO0 fmtOr fmtW0 fmtWr act21q op21q act3d op3d ptr85 elem85 isError85

set_option maxHeartbeats 800000 in
theorem errorf_q (F : Interp) (r i : Int) (g : Nat) (w : World) (hF : F.answers w.tape) (hc0 : w.cell? ⟨g, 0, none⟩ = some (.iface 21 (.int .i32 r))) (hc1 : w.cell? ⟨g, 1, none⟩ = some (.iface 3 (.int .i64 i))) :
    Calls Ybaf.prog 17 #[.string ⟨#[37, 113, 32, 97, 116, 32, 111, 102, 102, 115, 101, 116, 32, 37, 100, 32, 105, 115, 32, 110, 111, 116, 32, 97, 32, 104, 101, 120, 32, 100, 105, 103, 105, 116]⟩, .slice (some ⟨g, 0, none⟩) 2 2] w fun e w' =>
      e = .returned (.iface 85 (.pointer (some ⟨w.heap.size, 0, none⟩))) ∧ Below w.heap.size w w' := by
  have hF' := answers_open hF
  go_enter Ybaf.func17, Ybaf.ntmps17
  go_wp2
  apply rows_value nextTurns
  case hr =>
    go_simp
    exact ⟨rfl, rfl⟩
  case h =>
    go_wp2
    go_ret
    exact ⟨rfl, ((Below.refl _ _).alloc (Nat.le_refl _) _).drew⟩

set_option maxHeartbeats 800000 in
theorem errorf_odd (F : Interp) (n : Int) (g : Nat) (w : World) (hF : F.answers w.tape) (hc0 : w.cell? ⟨g, 0, none⟩ = some (.iface 3 (.int .i64 n))) :
    Calls Ybaf.prog 17 #[.string ⟨#[111, 100, 100, 32, 110, 117, 109, 98, 101, 114, 32, 111, 102, 32, 104, 101, 120, 32, 100, 105, 103, 105, 116, 115, 32, 40, 37, 100, 41, 58, 32, 97, 110, 32, 111, 99, 116, 101, 116, 32, 116, 97, 107, 101, 115, 32, 116, 119, 111]⟩, .slice (some ⟨g, 0, none⟩) 1 1] w fun e w' =>
      e = .returned (.iface 85 (.pointer (some ⟨w.heap.size, 0, none⟩))) ∧ Below w.heap.size w w' := by
  have hF' := answers_open hF
  go_enter Ybaf.func17, Ybaf.ntmps17
  go_wp2
  apply rows_value nextTurns
  case hr =>
    go_simp
    exact ⟨rfl, rfl⟩
  case h =>
    go_wp2
    go_ret
    exact ⟨rfl, ((Below.refl _ _).alloc (Nat.le_refl _) _).drew⟩

set_option maxHeartbeats 800000 in
theorem errorf_want (F : Interp) (n m : Int) (g : Nat) (w : World) (hF : F.answers w.tape) (hc0 : w.cell? ⟨g, 0, none⟩ = some (.iface 3 (.int .i64 n))) (hc1 : w.cell? ⟨g, 1, none⟩ = some (.iface 3 (.int .i64 m))) :
    Calls Ybaf.prog 17 #[.string ⟨#[37, 100, 32, 104, 101, 120, 32, 100, 105, 103, 105, 116, 115, 44, 32, 119, 97, 110, 116, 32, 37, 100]⟩, .slice (some ⟨g, 0, none⟩) 2 2] w fun e w' =>
      e = .returned (.iface 85 (.pointer (some ⟨w.heap.size, 0, none⟩))) ∧ Below w.heap.size w w' := by
  have hF' := answers_open hF
  go_enter Ybaf.func17, Ybaf.ntmps17
  go_wp2
  apply rows_value nextTurns
  case hr =>
    go_simp
    exact ⟨rfl, rfl⟩
  case h =>
    go_wp2
    go_ret
    exact ⟨rfl, ((Below.refl _ _).alloc (Nat.le_refl _) _).drew⟩

end Go.Proofs.YbulkcdssFmt
