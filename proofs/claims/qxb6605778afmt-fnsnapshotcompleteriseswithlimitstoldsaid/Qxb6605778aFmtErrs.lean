/-
  fmt.Errorf AT THIS PROGRAM's THREE FORMATS: it hands back an error that is not nil, and makes new memory alone. Of its text nothing is asked.
-/
import Derived.Test.Qxb6605778aFmtProg
import Derived.WalkKit
import Derived.WalkSpells
import Derived.WalkLawsBesides
import Derived.KernelRfl
import Derived.Stop.CallBack
import Derived.Stop.IfaceNil
namespace Go.Proofs.Qxb6605778aFmt
open Go.RowKit Go.Extern.Stop Go.Stop Go.Extern

def F1 : ByteArray := ⟨#[109, 97, 110, 103, 108, 101, 100, 32, 110, 97, 109, 101, 32, 37, 113, 32, 104, 111, 108, 100, 115, 32, 97, 32, 39, 47, 39]⟩
def F2 : ByteArray := ⟨#[109, 97, 110, 103, 108, 101, 100, 32, 110, 97, 109, 101, 32, 37, 113, 58, 32, 39, 64, 39, 32, 110, 111, 116, 32, 102, 111, 108, 108, 111, 119, 101, 100, 32, 98, 121, 32, 39, 64, 39, 32, 111, 114, 32, 39, 95, 39]⟩
def F3 : ByteArray := ⟨#[110, 111, 116, 32, 97, 32, 115, 110, 97, 112, 115, 104, 111, 116, 58, 32, 119, 97, 110, 116, 32, 97, 110, 32, 105, 109, 109, 117, 116, 97, 98, 108, 101, 32, 100, 105, 114, 101, 99, 116, 111, 114, 121, 32, 111, 102, 32, 116, 104, 101, 32, 102, 105, 108, 101, 115, 32, 109, 101, 116, 97, 100, 97, 116, 97, 32, 97, 110, 100, 44, 32, 117, 110, 108, 101, 115, 115, 32, 105, 116, 32, 105, 115, 32, 97, 32, 100, 101, 108, 101, 116, 105, 111, 110, 44, 32, 99, 111, 110, 116, 101, 110, 116]⟩

theorem call36 (args : Array Value) (w : World) : (callFunc 36 args).run Tryf.prog w = (FmtCalls.errorf #[9, 69] #[24] args).run Tryf.prog w :=
  run_callFunc_next Tryf.func36 (by kernel_rfl) (by kernel_rfl) (by kernel_rfl) args w
theorem guard_ok (name : String) (w : World) : (FmtStop.guard name).run Tryf.prog w = .ok () w := by kernel_rfl
theorem fmt1 : FmtStop.printed? F1 1 = some [(0, 113, false)] := by kernel_rfl
theorem fmt1r (w : World) : (FmtDoors.printed F1 1).run Tryf.prog w = .ok [(0, 113, false)] w := by kernel_rfl
theorem fmt2 : FmtStop.printed? F2 1 = some [(0, 113, false)] := by kernel_rfl
theorem fmt2r (w : World) : (FmtDoors.printed F2 1).run Tryf.prog w = .ok [(0, 113, false)] w := by kernel_rfl
theorem fmt3 : FmtStop.printed? F3 0 = some [] := by kernel_rfl
theorem fmt3r (w : World) : (FmtDoors.printed F3 0).run Tryf.prog w = .ok [] w := by kernel_rfl
def shape9 : List UInt8 := [12, 6, 0, 0, 0, 0, 0, 0, 0, 115, 116, 114, 105, 110, 103]
theorem act9 (name : String) (x : Value) (w : World) : (FmtCalls.act name true 113 false (.iface 9 x)).run Tryf.prog w = .ok (.closed true) w := by kernel_rfl
theorem op9 (name : String) (x : ByteArray) (w : World) : (FmtStop.operand name true 113 false (.iface 9 (.string x))).run Tryf.prog w = .ok (shape9, FmtStop.pack x.data.toList) w := by kernel_rfl
theorem ptr81 (w : World) : (FmtStop.ptrTo "errors.errorString").run Tryf.prog w = .ok 81 w := by kernel_rfl
theorem elem81 (w : World) : (elemOf 81).run Tryf.prog w = .ok 83 w := by kernel_rfl
theorem isError81 (w : World) : (FmtDoors.textMethod 81 "Error").run Tryf.prog w = .ok true w := by kernel_rfl
theorem nextTurns : Extern.next FmtCalls.turnsRow = some (FmtCalls.begun #[] #[]) := by kernel_rfl
attribute [local go_sem] call36 guard_ok fmt1 fmt1r fmt2 fmt2r fmt3 fmt3r act9 op9 ptr81 elem81 isError81

set_option maxHeartbeats 800000 in
theorem errorf1 (s : ByteArray) (b : Nat) (w : World) (hc : w.cell? ⟨b, 0, none⟩ = some (.iface 9 (.string s))) :
    Calls Tryf.prog 25 #[.string F1, .slice (some ⟨b, 0, none⟩) 1 1] w fun e w' => (∃ v, e = .returned (.iface 81 (.pointer v))) ∧ Below w.heap.size w w' := by
  go_enter Tryf.func25, Tryf.ntmps25
  go_wp2
  apply rows_value nextTurns
  case hr =>
    go_simp
    exact ⟨rfl, rfl⟩
  case h =>
    go_wp2
    go_ret
    exact ⟨⟨_, rfl⟩, ((Below.refl _ _).alloc (Nat.le_refl _) _).drew⟩

set_option maxHeartbeats 800000 in
theorem errorf2 (s : ByteArray) (b : Nat) (w : World) (hc : w.cell? ⟨b, 0, none⟩ = some (.iface 9 (.string s))) :
    Calls Tryf.prog 25 #[.string F2, .slice (some ⟨b, 0, none⟩) 1 1] w fun e w' => (∃ v, e = .returned (.iface 81 (.pointer v))) ∧ Below w.heap.size w w' := by
  go_enter Tryf.func25, Tryf.ntmps25
  go_wp2
  apply rows_value nextTurns
  case hr =>
    go_simp
    exact ⟨rfl, rfl⟩
  case h =>
    go_wp2
    go_ret
    exact ⟨⟨_, rfl⟩, ((Below.refl _ _).alloc (Nat.le_refl _) _).drew⟩

theorem no37 : ¬ (37 : UInt8) ∈ F3.data := by decide +kernel

set_option maxHeartbeats 800000 in
theorem errorf3 (w : World) :
    Calls Tryf.prog 25 #[.string F3, .slice none 0 0] w fun e w' => (∃ v, e = .returned (.iface 81 (.pointer v))) ∧ Below w.heap.size w w' := by
  have h37 := no37
  go_enter Tryf.func25, Tryf.ntmps25
  go_wp2
  go_ret
  exact ⟨⟨_, rfl⟩, (Below.refl _ _).alloc (Nat.le_refl _) _⟩
end Go.Proofs.Qxb6605778aFmt
