import Derived.Test.Qxb6617619aRows
import Derived.WalkKit
import Derived.WalkSpells
import Derived.WalkLawsBesides
namespace Go.Proofs.Qxb6617619a
open Go.RowKit

theorem grown_trans {a b c : World} (h : Grown a b) (k : Grown b c) : Grown a c :=
  ⟨World.keptBut_trans h.1 k.1, fun p => (k.2.1 p).trans (h.2.1 p), Nat.le_trans h.2.2 k.2.2⟩

/-- how many half months of year y lie in [f, e) -/
def hv (f e y : Int) : Int := max (min e ((y + 1) * 24) - max f (y * 24)) 0

theorem ret_int {k : IntKind} {a b : Int} (h : a = b) : Ending.returned (.int k a) = .returned (.int k b) := by rw [h]

set_option maxHeartbeats 400000 in
set_option maxRecDepth 100000 in
theorem halves (f e y : Int) (w : World) (f1 : -4611686018427387904 ≤ f) (f2 : f ≤ 4611686018427387904) (e1 : -4611686018427387904 ≤ e) (e2 : e ≤ 4611686018427387904) (y1 : -2147483648 ≤ y) (y2 : y ≤ 2147483648) :
    Calls Try.prog 5 #[.int .i64 f, .int .i64 e, .int .i64 y] w fun r w' => r = .returned (.int .i64 (hv f e y)) ∧ Grown w w' := by
  by_cases a : (y + 1) * 24 < e
  · by_cases b : f < y * 24
    all_goals
      go_enter Try.func5, Try.ntmps5
      go_wp2
      all_goals
        go_ret
        exact ⟨ret_int (by unfold hv; omega), by repeat (first | exact Grown.refl _ | apply Grown.drew | apply Grown.alloc)⟩
  · by_cases b : f < y * 24
    all_goals
      go_enter Try.func5, Try.ntmps5
      go_wp2
      all_goals
        go_ret
        exact ⟨ret_int (by unfold hv; omega), by repeat (first | exact Grown.refl _ | apply Grown.drew | apply Grown.alloc)⟩

theorem tdiv24 (x : Int) : x.tdiv 24 = if 0 ≤ x then x / 24 else -((-x) / 24) := by
  by_cases h : 0 ≤ x
  · rw [if_pos h, Int.tdiv_eq_ediv_of_nonneg h]
  · rw [if_neg h]
    have : x.tdiv 24 = -((-x).tdiv 24) := by rw [Int.neg_tdiv, Int.neg_neg]
    rw [this, Int.tdiv_eq_ediv_of_nonneg (by omega)]
theorem tmod24 (x : Int) : x.tmod 24 = if 0 ≤ x then x % 24 else -((-x) % 24) := by
  have h1 := Int.tmod_def x 24
  rw [h1, tdiv24]
  split <;> omega

set_option maxHeartbeats 400000 in
set_option maxRecDepth 100000 in
theorem floorDiv (x : Int) (w : World) (x1 : -17179869184 ≤ x) (x2 : x ≤ 17179869184) :
    Calls Try.prog 6 #[.int .i64 x] w fun r w' => r = .returned (.int .i64 (x / 24)) ∧ w' = w := by
  have hd := tdiv24 x
  have hm := tmod24 x
  by_cases h : 0 ≤ x
  · rw [if_pos h] at hd hm
    go_enter Try.func6, Try.ntmps6
    go_wp2
    all_goals
      go_ret
      exact ⟨ret_int (by omega), rfl⟩
  · rw [if_neg h] at hd hm
    by_cases z : (-x) % 24 = 0
    · have hmz : x.tmod 24 = 0 := by omega
      clear hm
      have HD : Hid (x.tdiv 24 = -((-x) / 24)) := hd
      clear hd
      go_enter Try.func6, Try.ntmps6
      go_wp2
      all_goals
        go_ret
        have := HD.out
        exact ⟨ret_int (by omega), rfl⟩
    · have hmz : (x.tmod 24 != 0) = true := by rw [bne_iff_ne]; omega
      have hb1 : -1000000000 ≤ x.tdiv 24 := by omega
      have hb2 : x.tdiv 24 ≤ 0 := by omega
      clear hm
      have HD : Hid (x.tdiv 24 = -((-x) / 24)) := hd
      clear hd
      go_enter Try.func6, Try.ntmps6
      go_wp2
      all_goals
        go_ret
        have := HD.out
        exact ⟨ret_int (by omega), rfl⟩
end Go.Proofs.Qxb6617619a
