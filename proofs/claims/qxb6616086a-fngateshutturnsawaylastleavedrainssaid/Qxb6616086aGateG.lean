import Derived.Test.Qxb6616086aGateF
namespace Go.Proofs.Qxb6616086a.Gate
open Go.RowKit Go.Deep Go.Conc
set_option linter.unusedVariables false

theorem eq_self (f : Nat → Int) (w : World) : (Op.equalIn 10000 22 (.agg (arr f)) (.agg (arr f))).run Try.prog w = .ok true w := by
  show (Op.equalIn (9999 + 1) 22 (.agg (arr f)) (.agg (arr f))).run Try.prog w = .ok true w
  have hp : ∀ i, i < 16 → (part 2 (arr f) i).run Try.prog w = .ok (.int .i64 (f i)) w := by
    intro i hi
    simp [part, isAgg, run_underlying Try.underlying2, arr_get f hi]
  have he : ∀ i, (Op.equalIn 9999 2 (.int .i64 (f i)) (.int .i64 (f i))).run Try.prog w = .ok true w := by
    intro i
    have := run_equalIn_int (P := Try.prog) w 9998 2 .i64 .i64 (f i) (f i) Try.underlying2
    simpa using this
  have hsz : (sizeOf 2).run Try.prog w = .ok 1 w := by
    have h : (Try.prog.info? 2).map (·.size) = some 1 := by kernel_rfl
    obtain ⟨i, hi, hs⟩ := Option.map_eq_some_iff.1 h
    simp [sizeOf, typeInfo, hi, hs]
  rw [Op.equalIn]
  simp only [Sem.run_bind, run_underlying Try.underlying22, Result.andThen_ok, hsz]
  simp [Std.Legacy.Range.forIn_eq_forIn_range', List.range', hp, he]

theorem guard22 : Try.prog.eqGuardType Try.prog.depth 22 = false := by kernel_rfl

/-! the plain law -/
theorem wsum_congr {f g : Nat → Int} : ∀ n, (∀ i, i < n → f i = g i) → wsum f n = wsum g n
  | 0, _ => rfl
  | n + 1, h => by
    show wrap64 (wsum f n + f n) = wrap64 (wsum g n + g n)
    rw [wsum_congr n (fun i hi => h i (by omega)), h n (by omega)]

theorem wsum_upd (f : Nat → Int) (i : Nat) (d : Int) : ∀ n, wsum (upd f i (wrap64 (f i + d))) n = if i < n then wrap64 (wsum f n + d) else wsum f n
  | 0 => by simp [wsum]
  | n + 1 => by
    show wrap64 (wsum (upd f i (wrap64 (f i + d))) n + upd f i (wrap64 (f i + d)) n) = if i < n + 1 then wrap64 (wrap64 (wsum f n + f n) + d) else wrap64 (wsum f n + f n)
    rw [wsum_upd f i d n]
    by_cases e : n = i
    · subst e
      rw [if_neg (by omega), if_pos (by omega)]
      simp only [upd, if_true, wrap64]
      omega
    · simp only [upd, if_neg e]
      by_cases l : i < n
      · rw [if_pos l, if_pos (by omega)]
        simp only [wrap64]
        omega
      · rw [if_neg l, if_neg (by omega)]

def In64 (x : Int) : Prop := -9223372036854775808 ≤ x ∧ x ≤ 9223372036854775807
theorem wrap_in (x : Int) : In64 (wrap64 x) := by
  unfold In64 wrap64
  omega
theorem wrap_of_in {x : Int} (h : In64 x) : wrap64 x = x := by
  unfold In64 at h
  unfold wrap64
  omega
theorem wsum_in (f : Nat → Int) : ∀ n, In64 (wsum f n)
  | 0 => by simp [wsum, In64]
  | n + 1 => wrap_in _
end Go.Proofs.Qxb6616086a.Gate
