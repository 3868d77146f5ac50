import Derived.Test.Qxb6616487aRows
import Derived.Test.Qxb6616487aPtr
import Derived.WalkKit
import Derived.WalkSpells
import Derived.Deep.OwnRows
import Derived.Deep.RegionHeld3
import Derived.Deep.DrawnRows
import Derived.Deep.QuietTactic
import Derived.BigQuiet
namespace Go.Proofs.Qxb6616487a.Fr
open Go.RowKit Go.Deep

theorem hide {p : Prop} (h : p) : Hid p := h
theorem unhide {p : Prop} (h : Hid p) : p := h

/-- item, from, at, write -/
abbrev Acc := Int × Int × Int × Bool
def rd (x : Acc) (wn : Int) : Bool := !x.2.2.2 && (x.2.1 == wn)

set_option maxHeartbeats 400000 in
theorem isRead (i f a wn : Int) (wr : Bool) (w : World) :
    Calls Try.prog 19 #[.agg #[.int .i64 i, .int .i64 f, .int .i64 a, .bool wr], .int .i64 wn] w fun e w' => e = .returned (.bool (rd (i, f, a, wr) wn)) ∧ Below w.heap.size w w' := by
  cases wr
  all_goals
    go_enter Try.func19, Try.ntmps19
    go_wp2
    go_ret
    exact ⟨by simp [rd], (Below.refl _ _).alloc (Nat.le_refl _) _⟩

set_option maxHeartbeats 400000 in
theorem accessOf (i f a : Int) (wr : Bool) (w : World) :
    Calls Try.prog 35 #[.agg #[.int .i64 i, .int .i64 f, .int .i64 a, .bool wr]] w fun e w' => e = .returned (.agg #[.int .i64 i, .int .i64 f, .int .i64 a, .bool wr]) ∧ Below w.heap.size w w' := by
  go_enter Try.func35, Try.ntmps35
  go_wp2
  exact bodyPost_ret (v := .agg #[.int .i64 i, .int .i64 f, .int .i64 a, .bool wr]) (by simp [results, Try.results35, go_sem]) rfl ⟨rfl, ((Below.refl _ _).alloc (Nat.le_refl _) _).alloc (by simp) _⟩

set_option maxHeartbeats 400000 in
theorem newTxn (num : Int) (ao : Option Addr) (n c : Nat) (w : World) :
    Calls Try.prog 16 #[.int .i64 num, .slice ao n c] w fun e w' => e = .returned (.pointer (some ⟨w.heap.size, 0, none⟩)) ∧ Below w.heap.size w w' ∧ w'.cell? ⟨w.heap.size, 0, none⟩ = some (.int .i64 num) ∧ w'.cell? ⟨w.heap.size, 4, none⟩ = some (.slice ao n c) ∧ w.heap.size < w'.heap.size := by
  go_enter Try.func16, Try.ntmps16
  go_wp2
  go_ret
  exact ⟨rfl, (Below.refl _ _).alloc (Nat.le_refl _) _, by simp, by simp, by simp⟩

set_option maxHeartbeats 400000 in
theorem txnAccesses (b : Nat) (ao : Option Addr) (n c : Nat) (w : World) (h : w.cell? ⟨b, 4, none⟩ = some (.slice ao n c)) :
    Calls Try.prog 37 #[.pointer (some ⟨b, 0, none⟩)] w fun e w' => e = .returned (.slice ao n c) ∧ w' = w := by
  go_enter Try.func37, Try.ntmps37
  go_wp2
  go_ret
  exact ⟨rfl, rfl⟩

set_option maxHeartbeats 400000 in
theorem closure (i f a wn : Int) (wr : Bool) (cb wb : Nat) (w : World) (hc : w.cell? ⟨cb, 0, none⟩ = some (.pointer (some ⟨wb, 0, none⟩))) (hn : w.cell? ⟨wb, 0, none⟩ = some (.int .i64 wn)) (l1 : cb < w.heap.size) (l2 : wb < w.heap.size) :
    Calls Try.prog 53 #[.agg #[.int .i64 i, .int .i64 f, .int .i64 a, .bool wr], .pointer (some ⟨cb, 0, none⟩)] w fun e w' => e = .returned (.bool (rd (i, f, a, wr) wn)) ∧ Below w.heap.size w w' := by
  cases wr
  all_goals
    go_enter Try.func53, Try.ntmps53
    go_wp2
    go_quiet (fail)
    go_wp2
    go_ret
    exact ⟨by simp [rd], ⟨rfl, rfl, rfl, by simp, fun k hk => blk_alloc_lt _ _ _ hk⟩⟩

/-- the value of an access -/
abbrev av (x : Acc) : Value := .agg #[.int .i64 x.1, .int .i64 x.2.1, .int .i64 x.2.2.1, .bool x.2.2.2]

theorem isReadX (x : Acc) (wn : Int) (w : World) : Calls Try.prog 19 #[av x, .int .i64 wn] w fun e w' => e = .returned (.bool (rd x wn)) ∧ Below w.heap.size w w' := isRead _ _ _ _ _ _
theorem accessOfX (x : Acc) (w : World) : Calls Try.prog 35 #[av x] w fun e w' => e = .returned (av x) ∧ Below w.heap.size w w' := accessOf _ _ _ _ _
theorem closureX (x : Acc) (wn : Int) (cb wb : Nat) (w : World) (hc : w.cell? ⟨cb, 0, none⟩ = some (.pointer (some ⟨wb, 0, none⟩))) (hn : w.cell? ⟨wb, 0, none⟩ = some (.int .i64 wn)) (l1 : cb < w.heap.size) (l2 : wb < w.heap.size) :
    Calls Try.prog 53 #[av x, .pointer (some ⟨cb, 0, none⟩)] w fun e w' => e = .returned (.bool (rd x wn)) ∧ Below w.heap.size w w' := closure _ _ _ _ _ _ _ _ hc hn l1 l2
end Go.Proofs.Qxb6616487a.Fr
