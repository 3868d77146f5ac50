import Derived.Test.Qxb6616086aFmtCards
import Derived.WalkKit
import Derived.WalkSpells
import Derived.Tactics
import Derived.Tactics2
import Derived.Stop.CallBack
import Derived.Stop.IfaceNil
import Derived.Laws.Externs
import Derived.Deep.OwnRows
import Derived.Deep.RegionHeld3
import Derived.Deep.DrawnRows
import Derived.Deep.QuietTactic
import Derived.BigQuiet
namespace Go.Proofs.Qxb6616086aFmt.Dw
open Go.RowKit Go.Deep Go.Extern.Stop Go.Stop Go.Extern
set_option linter.unusedVariables false

theorem hide {p : Prop} (h : p) : Hid p := h
theorem unhide {p : Prop} (h : Hid p) : p := h

/-! what a walk over fmt's stopped front wants (as the kit's tool prints it for other dumps) -/
@[go_sem] theorem call31 (args : Array Value) (w : World) : (callFunc 31 args).run Tryf.prog w = ((FmtStop.errorf #[9, 80] #[33] args).run Tryf.prog w).andThen fun v w' => .ok (.value v) w' :=
  run_callFunc_extern Tryf.func31 (by kernel_rfl) (by kernel_rfl) (by kernel_rfl) (by kernel_rfl) args w
@[go_sem] theorem guard (name : String) (w : World) : (FmtStop.guard name).run Tryf.prog w = .ok () w := by kernel_rfl
def fKind : ByteArray := ⟨#[97, 110, 32, 101, 110, 116, 114, 121, 32, 111, 102, 32, 117, 110, 107, 110, 111, 119, 110, 32, 107, 105, 110, 100, 32, 37, 100]⟩
def fPast : ByteArray := ⟨#[97, 32, 102, 105, 101, 108, 100, 32, 111, 102, 32, 37, 100, 32, 98, 121, 116, 101, 115, 32, 114, 117, 110, 115, 32, 112, 97, 115, 116, 32, 116, 104, 101, 32, 101, 110, 100, 32, 111, 102, 32, 116, 104, 101, 32, 114, 101, 99, 111, 114, 100]⟩
@[go_sem] theorem kind1 : FmtStop.printed? fKind 1 = some [(0, 100, false)] := by kernel_rfl
@[go_sem] theorem kind1r (w : World) : (FmtDoors.printed fKind 1).run Tryf.prog w = .ok [(0, 100, false)] w := by kernel_rfl
@[go_sem] theorem kind0 : FmtStop.printed? fKind 0 = some [] := by kernel_rfl
@[go_sem] theorem kind0r (w : World) : (FmtDoors.printed fKind 0).run Tryf.prog w = .ok [] w := by kernel_rfl
@[go_sem] theorem past1 : FmtStop.printed? fPast 1 = some [(0, 100, false)] := by kernel_rfl
@[go_sem] theorem past1r (w : World) : (FmtDoors.printed fPast 1).run Tryf.prog w = .ok [(0, 100, false)] w := by kernel_rfl
@[go_sem] theorem past0 : FmtStop.printed? fPast 0 = some [] := by kernel_rfl
@[go_sem] theorem past0r (w : World) : (FmtDoors.printed fPast 0).run Tryf.prog w = .ok [] w := by kernel_rfl
def shape5 : List UInt8 := [6, 5, 0, 0, 0, 0, 0, 0, 0, 117, 105, 110, 116, 56]
@[go_sem] theorem op5_100 (name : String) (x : Int) (w : World) : (FmtStop.operand name false 100 false (.iface 5 (.int .u8 x))).run Tryf.prog w = .ok (shape5, Go.Extern.Stop.digits 8 (x % 2 ^ 64).toNat) w := by kernel_rfl
@[go_sem] theorem op5_100w (name : String) (x : Int) (w : World) : (FmtStop.operand name true 100 false (.iface 5 (.int .u8 x))).run Tryf.prog w = .ok (shape5, Go.Extern.Stop.digits 8 (x % 2 ^ 64).toNat) w := by kernel_rfl
@[go_sem] theorem strict5 (name : String) (x : Int) (w : World) : (FmtStop.strict name (.iface 5 (.int .u8 x))).run Tryf.prog w = .ok (shape5, Go.Extern.Stop.digits 8 (x % 2 ^ 64).toNat) w := by kernel_rfl
def shape47 : List UInt8 := [9, 6, 0, 0, 0, 0, 0, 0, 0, 117, 105, 110, 116, 54, 52]
@[go_sem] theorem op47_100 (name : String) (x : Int) (w : World) : (FmtStop.operand name false 100 false (.iface 47 (.int .u64 x))).run Tryf.prog w = .ok (shape47, Go.Extern.Stop.digits 8 (x % 2 ^ 64).toNat) w := by kernel_rfl
@[go_sem] theorem op47_100w (name : String) (x : Int) (w : World) : (FmtStop.operand name true 100 false (.iface 47 (.int .u64 x))).run Tryf.prog w = .ok (shape47, Go.Extern.Stop.digits 8 (x % 2 ^ 64).toNat) w := by kernel_rfl
@[go_sem] theorem strict47 (name : String) (x : Int) (w : World) : (FmtStop.strict name (.iface 47 (.int .u64 x))).run Tryf.prog w = .ok (shape47, Go.Extern.Stop.digits 8 (x % 2 ^ 64).toNat) w := by kernel_rfl
@[go_sem] theorem ptr83 (w : World) : (FmtStop.ptrTo "errors.errorString").run Tryf.prog w = .ok 83 w := by kernel_rfl
@[go_sem] theorem elem83 (w : World) : (elemOf 83).run Tryf.prog w = .ok 85 w := by kernel_rfl
@[go_sem] theorem isError83' (w : World) : (FmtDoors.textMethod 83 "Error").run Tryf.prog w = .ok true w := by kernel_rfl

/-- some error -/
def IsErr (v : Value) : Prop := ∃ t x, v = .iface t x

set_option maxHeartbeats 800000 in
theorem errorfKind (F : Interp) (x : Int) (b : Nat) (c : Nat) (w : World) (hF : F.answers w.tape) (h0 : w.cell? ⟨b, 0, none⟩ = some (.iface 5 (.int .u8 x))) (hb : b < w.heap.size) :
    Calls Tryf.prog 25 #[.string fKind, .slice (some ⟨b, 0, none⟩) 1 c] w fun e w' => e = .returned (.iface 83 (.pointer (some ⟨w.heap.size, 0, none⟩))) ∧ Below w.heap.size w w' := by
  have hF' := answers_open hF
  go_enter Tryf.func25, Tryf.ntmps25
  go_wp2
  go_ret
  exact ⟨rfl, ((Below.refl _ _).alloc (Nat.le_refl _) _).drew⟩

set_option maxHeartbeats 800000 in
theorem errorfPast (F : Interp) (x : Int) (b : Nat) (c : Nat) (w : World) (hF : F.answers w.tape) (h0 : w.cell? ⟨b, 0, none⟩ = some (.iface 47 (.int .u64 x))) (hb : b < w.heap.size) :
    Calls Tryf.prog 25 #[.string fPast, .slice (some ⟨b, 0, none⟩) 1 c] w fun e w' => e = .returned (.iface 83 (.pointer (some ⟨w.heap.size, 0, none⟩))) ∧ Below w.heap.size w w' := by
  have hF' := answers_open hF
  go_enter Tryf.func25, Tryf.ntmps25
  go_wp2
  go_ret
  exact ⟨rfl, ((Below.refl _ _).alloc (Nat.le_refl _) _).drew⟩

set_option maxHeartbeats 800000 in
theorem errorsNew (s : ByteArray) (w : World) :
    Calls Tryf.prog 30 #[.string s] w fun e w' => e = .returned (.iface 83 (.pointer (some ⟨w.heap.size, 0, none⟩))) ∧ w' = w.alloc (.cells #[.string s] 85) := by
  go_enter Tryf.func30, Tryf.ntmps30
  go_wp2
  go_ret
  exact ⟨rfl, rfl⟩

set_option maxHeartbeats 800000 in
theorem failFirst (rb : Nat) (t : TypeId) (x : Value) (w : World) (h1 : w.cell? ⟨rb, 1, none⟩ = some .nilIface) (f1 : w.frozen? ⟨rb, 1, none⟩ = false) :
    Calls Tryf.prog 24 #[.pointer (some ⟨rb, 0, none⟩), .iface t x] w fun e w' => e = .returned (.tuple #[]) ∧ w' = w.setCell ⟨rb, 1, none⟩ (.iface t x) := by
  go_enter Tryf.func24, Tryf.ntmps24
  go_wp2
  go_end0
  exact ⟨rfl, rfl⟩

set_option maxHeartbeats 800000 in
theorem failAgain (rb : Nat) (v : Value) (t : TypeId) (x : Value) (w : World) (h1 : w.cell? ⟨rb, 1, none⟩ = some (.iface t x)) :
    Calls Tryf.prog 24 #[.pointer (some ⟨rb, 0, none⟩), v] w fun e w' => e = .returned (.tuple #[]) ∧ w' = w := by
  go_enter Tryf.func24, Tryf.ntmps24
  go_wp2
  go_end0
  exact ⟨rfl, rfl⟩

set_option maxHeartbeats 800000 in
theorem nameOf (tb o : Nat) (s : ByteArray) (w : World) (h : w.cell? ⟨tb, o, none⟩ = some (.string s)) :
    Calls Tryf.prog 27 #[.pointer (some ⟨tb, o, none⟩)] w fun e w' => e = .returned (.string s) ∧ w' = w := by
  go_enter Tryf.func27, Tryf.ntmps27
  go_wp2
  go_ret
  exact ⟨rfl, rfl⟩
end Go.Proofs.Qxb6616086aFmt.Dw
