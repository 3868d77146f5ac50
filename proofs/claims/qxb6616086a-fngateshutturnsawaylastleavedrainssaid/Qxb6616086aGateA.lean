import Derived.Test.Qxb6616086aRows
import Derived.WalkKit
import Derived.WalkSpells
import Derived.Tactics
import Derived.Tactics2
import Derived.Defers
import Derived.Laws.Pointers
import Derived.Laws.LoneSync
import Derived.RegionTactic
import Derived.RegionCalls
import Derived.Deep.OwnRows
import Derived.Deep.RegionHeld3
import Derived.Deep.QuietTactic
import Derived.BigQuiet
import Derived.Conc.LoneSelect
namespace Go.Proofs.Qxb6616086a.Gate
open Go.RowKit Go.Deep
set_option linter.unusedVariables false

theorem hide {p : Prop} (h : p) : Hid p := h
theorem unhide {p : Prop} (h : Hid p) : p := h

set_option maxHeartbeats 400000 in
theorem store64 (a : Addr) (y : Int) (u : Value) (w : World) (hc : w.cell? a = some u) (hz : w.frozen? a = false) :
    Calls Try.prog 11 #[.pointer (some a), .int .i64 y] w fun e w' => e = .returned (.tuple #[]) ∧ w' = w.setCell a (.int .i64 y) := by
  have hst := run_call_store (P := Try.prog) Try.func16 (by kernel_rfl) (by kernel_rfl) (by kernel_rfl) (by kernel_rfl) (k := .i64) (y := y) hc hz
  obtain ⟨b, o, s⟩ := a
  have hs : s = none := by
    obtain ⟨_, _, _, _, h⟩ := World.shape?_of_cell? hc
    exact h
  subst hs
  go_enter Try.func11, Try.ntmps11
  go_wp2
  go_end0
  exact ⟨rfl, rfl⟩

set_option maxHeartbeats 400000 in
theorem load64 (a : Addr) (y : Int) (w : World) (hc : w.cell? a = some (.int .i64 y)) :
    Calls Try.prog 14 #[.pointer (some a)] w fun e w' => e = .returned (.int .i64 y) ∧ w' = w := by
  have hst := run_call_load (P := Try.prog) Try.func21 (by kernel_rfl) (by kernel_rfl) (by kernel_rfl) .i64 (by kernel_rfl) hc
  go_enter Try.func14, Try.ntmps14
  go_wp2
  go_ret
  exact ⟨rfl, rfl⟩

set_option maxHeartbeats 400000 in
theorem add64 (a : Addr) (x y : Int) (w : World) (hc : w.cell? a = some (.int .i64 x)) (hz : w.frozen? a = false) :
    Calls Try.prog 23 #[.pointer (some a), .int .i64 y] w fun e w' => e = .returned (.int .i64 (wrap64 (x + y))) ∧ w' = w.setCell a (.int .i64 (wrap64 (x + y))) := by
  have hadd := run_call_add (P := Try.prog) Try.func28 (by kernel_rfl) (by kernel_rfl) (by kernel_rfl) .i64 (by kernel_rfl) (y := y) (s := wrap64 (x + y)) hc hz (by simp [go_sem, wrap64, IntKind.wrap_i64])
  go_enter Try.func23, Try.ntmps23
  go_wp2
  go_ret
  exact ⟨rfl, rfl⟩

set_option maxHeartbeats 400000 in
theorem loadB (a : Addr) (y : Int) (w : World) (hc : w.cell? a = some (.int .u32 y)) :
    Calls Try.prog 20 #[.pointer (some a)] w fun e w' => e = .returned (.bool (y != 0)) ∧ w' = w := by
  have hst := run_call_load (P := Try.prog) Try.func24 (by kernel_rfl) (by kernel_rfl) (by kernel_rfl) .u32 (by kernel_rfl) hc
  go_enter Try.func20, Try.ntmps20
  go_wp2
  go_ret
  exact ⟨rfl, rfl⟩

/-- the word of a bool -/
def b32 (x : Bool) : Int := if x then 1 else 0

set_option maxHeartbeats 400000 in
theorem storeB (a : Addr) (x : Bool) (u : Value) (w : World) (hc : w.cell? a = some u) (hz : w.frozen? a = false) :
    Calls Try.prog 12 #[.pointer (some a), .bool x] w fun e w' => e = .returned (.tuple #[]) ∧ w' = (w.setCell a (.int .u32 (b32 x))).drew := by
  have hc' : w.drew.cell? a = some u := by go_simp
  have hz' : w.drew.frozen? a = false := by go_simp
  have hst := run_call_store (P := Try.prog) Try.func17 (by kernel_rfl) (by kernel_rfl) (by kernel_rfl) (by kernel_rfl) (k := .u32) (y := b32 x) hc' hz'
  cases x
  all_goals
    simp only [b32, if_true, if_false, Bool.false_eq_true] at hst ⊢
    go_enter Try.func12, Try.ntmps12
    go_wp2
    go_region_calls
    all_goals (go_end0; exact ⟨rfl, rfl⟩)

set_option maxHeartbeats 400000 in
theorem storeB_d (a : Addr) (u : Value) (m : FrameMode) (w : World) (hc : w.cell? a = some u) (hz : w.frozen? a = false) :
    CallsD Try.prog 12 #[.pointer (some a), .bool true] m w fun e m' w' => m' = m ∧ (e = .returned (.tuple #[]) ∧ w' = (w.setCell a (.int .u32 1)).drew) := by
  have hc' : w.drew.cell? a = some u := by go_simp
  have hz' : w.drew.frozen? a = false := by go_simp
  have hst := run_call_store (P := Try.prog) Try.func17 (by kernel_rfl) (by kernel_rfl) (by kernel_rfl) (by kernel_rfl) (k := .u32) (y := 1) hc' hz'
  go_enter_d Try.func12, Try.ntmps12
  go_wp2
  go_region_calls
  all_goals (go_end0; exact ⟨rfl, rfl⟩)

theorem disable (w : World) : (callFunc 34 #[]).run Try.prog w = .ok (.value (.tuple #[])) w := run_call_mark0 Try.func34 (by kernel_rfl) (by kernel_rfl) (by kernel_rfl) .disable (by kernel_rfl) w
theorem enable (w : World) : (callFunc 36 #[]).run Try.prog w = .ok (.value (.tuple #[])) w := run_call_mark0 Try.func36 (by kernel_rfl) (by kernel_rfl) (by kernel_rfl) .enable (by kernel_rfl) w
theorem acquire (a : Addr) (w : World) : (callFunc 37 #[.pointer (some a)]).run Try.prog w = .ok (.value (.tuple #[])) w := run_call_marked Try.func37 (by kernel_rfl) (by kernel_rfl) (by kernel_rfl) .acquire (by kernel_rfl) a w
theorem releaseMerge (a : Addr) (w : World) : (callFunc 39 #[.pointer (some a)]).run Try.prog w = .ok (.value (.tuple #[])) w := run_call_marked Try.func39 (by kernel_rfl) (by kernel_rfl) (by kernel_rfl) .releaseMerge (by kernel_rfl) a w

set_option maxHeartbeats 400000 in
theorem unlock_d (a : Addr) (u : FrameMode) (w : World) (hc : w.cell? a = some (.int .i32 1)) (hz : w.frozen? a = false) :
    CallsD Try.prog 31 #[.pointer (some a)] u w fun e u' w' => u' = u ∧ (e = .returned (.tuple #[]) ∧ w' = w.setCell a (.int .i32 0)) := by
  have hd := disable
  have he := enable
  have hr := releaseMerge
  have hadd := run_call_add (P := Try.prog) Try.func40 (by kernel_rfl) (by kernel_rfl) (by kernel_rfl) .i32 (by kernel_rfl) (y := -1) (s := 0) hc hz (by simp [go_sem]; rfl)
  have hcv := run_convert_to_unsafe (P := Try.prog) (src := 77) (dst := 81) Try.underlying77 Try.underlying81 (by kernel_rfl) hc
  go_enter_d Try.func31, Try.ntmps31
  go_wp2
  go_end0
  go_wp2
  go_end0
  exact ⟨rfl, rfl⟩

set_option maxHeartbeats 400000 in
theorem lock (a : Addr) (w : World) (hc : w.cell? a = some (.int .i32 0)) (hz : w.frozen? a = false) :
    Calls Try.prog 30 #[.pointer (some a)] w fun e w' => e = .returned (.tuple #[]) ∧ w' = w.setCell a (.int .i32 1) := by
  have hd := disable
  have he := enable
  have ha := acquire
  have hcas := run_call_cas_hit (P := Try.prog) Try.func35 (by kernel_rfl) (by kernel_rfl) (by kernel_rfl) .i32 (by kernel_rfl) (y := 1) hc hz
  have hc' : (w.setCell a (.int .i32 1)).cell? a = some (.int .i32 1) := World.cell?_setCell_same w a _ hc
  have hcv := run_convert_to_unsafe (P := Try.prog) (src := 77) (dst := 81) Try.underlying77 Try.underlying81 (by kernel_rfl) hc'
  go_enter Try.func30, Try.ntmps30
  go_wp2
  first | go_end0 | (simp only [Exit.inBlock, Exit.then]; refine bodyPost_ret (results_none rfl _ _ _) rfl ?_) | refine bodyPost_ret (results_none rfl _ _ _) rfl ?_
  go_wp2
  go_end0
  exact ⟨rfl, rfl⟩
end Go.Proofs.Qxb6616086a.Gate
