import Derived.Test.Qxb6616086aGateC
import Derived.Deep.RegionWith
import Derived.Laws.StructEq
namespace Go.Proofs.Qxb6616086a.Gate
open Go.RowKit Go.Deep Go.Conc
set_option linter.unusedVariables false

def isAggV : Value → Bool
  | .agg _ => true
  | _ => false

/-- an array of sixteen -/
def arr (f : Nat → Int) : Array Value := ((List.range 16).map fun i => Value.int .i64 (f i)).toArray
theorem arr_size (f : Nat → Int) : (arr f).size = 16 := by simp [arr]
theorem arr_get (f : Nat → Int) {i : Nat} (h : i < 16) : (arr f)[i]? = some (.int .i64 (f i)) := by simp [arr, h]
theorem arr_ext {f : Nat → Int} {c : Array Value} (hs : c.size = 16) (h : ∀ i, i < 16 → c[i]? = some (.int .i64 (f i))) : c = arr f := by
  apply Array.ext_getElem?
  intro i
  by_cases hi : i < 16
  · rw [h i hi, arr_get f hi]
  · rw [Array.getElem?_eq_none (by omega), Array.getElem?_eq_none (by rw [arr_size]; omega)]

set_option maxHeartbeats 1000000 in
set_option maxRecDepth 100000 in
theorem zzSum (f : Nat → Int) (w : World) : Calls Try.prog 4 #[.agg (arr f)] w fun e w' => e = .returned (.int .i64 (wsum f 16)) ∧ Below w.heap.size w w' := by
  go_enter Try.func4, Try.ntmps4
  go_wp2_with fail
  go_loop [3, 4] (fun s i => ∃ k : Nat, k ≤ 16 ∧ i = .int .i64 k ∧ s = .int .i64 (wsum f k)) (fun s i => 16 - (intOf i).toNat)
  case atStart => exact ⟨0, by omega, rfl, rfl⟩
  case round =>
    obtain ⟨k, hk, rfl, rfl⟩ := hrel
    by_cases hlt : k < 16
    · have i0 : (0 : Int) ≤ (k : Int) := by omega
      have i1 : (k : Int) < 16 := by omega
      have c0 := arr_get f hlt
      go_wp2
      go_round
      case rel => exact ⟨k + 1, by omega, by go_num, rfl⟩
      case measure => simp [intOf]; omega
    · have hke : k = 16 := by omega
      subst hke
      go_wp2
      go_ret
      exact ⟨rfl, (Below.refl _ _).alloc (Nat.le_refl _) _⟩

set_option maxRecDepth 100000 in
theorem drained (gb cb : Nat) (f : Nat → Int) (sh dn m : Int) (cl : Bool) (w : World) (G : Gt w gb cb f sh dn m cl) :
    Calls Try.prog 9 #[.pointer (some ⟨gb, 0, none⟩)] w fun e w' => e = .returned (.bool cl) ∧ w' = w := by
  refine calls_of_loneTo fun cs => ?_
  have e : Frame.enter Try.prog 9 #[.pointer (some ⟨gb, 0, none⟩)] .normal = (base 9).at ⟨#[.pointer (some ⟨gb, 0, none⟩), undef, undef, undef, undef, undef, undef, undef, undef, undef], []⟩ [.code (Try.f9.body.getD .skip)] := by
    simp [Frame.enter, Frame.at, Try.func9, base, Try.f9]
  rw [e]
  have hd := G.dr
  have hch := G.ch
  clear G e
  refine LoneTo.goes (n := 18) ?_
  simp only [Try.f9, Option.getD_some]
  s_c stepG_seq
  s_reg
  s_op
  s_c stepG_region_end
  s_c stepG_seq
  s_reg
  s_op
  s_op
  s_op
  s_op
  s_c stepG_region_end
  s_c stepG_seq
  s_reg
  s_stop
  cases cl
  · refine LoneTo.step (step_lone_select_default (c := cb) (z := .agg #[]) (cap := 0) (s := 0) (r := 0) (tm := false) (stepG_comm (cases := #[rcase cb (.agg #[])]) (blocking := false) (shape := .select) (w' := w) rfl rfl (by decide) (by simp [go_sem, execOp, rcase, Act.eval])) hch) ?_
    rw [Frame.finish_at]
    walk_nrm
    refine LoneTo.goes (n := 10) ?_
    s_op
    s_op
    s_c stepG_region_end
    s_c stepG_block
    s_cond false
    s_c stepG_seq
    s_reg
    s_op
    s_c stepG_region_end
    s_c stepG_ret'
    s_stop
    exact LoneTo.done ⟨.returned (.bool false), _, rfl, ⟨rfl, rfl⟩, rfl, rfl, rfl, rfl, _, Try.func9, by simp [results, Try.f9, Frame.at]⟩
  · refine LoneTo.step (step_lone_select_recv_shut (c := cb) (z := .agg #[]) (cap := 0) (s := 0) (r := 0) (tm := false) (stepG_comm (cases := #[rcase cb (.agg #[])]) (blocking := false) (shape := .select) (w' := w) rfl rfl (by decide) (by simp [go_sem, execOp, rcase, Act.eval])) hch) ?_
    rw [Frame.finish_at]
    walk_nrm
    refine LoneTo.goes (n := 10) ?_
    s_op
    s_op
    s_c stepG_region_end
    s_c stepG_block
    s_cond true
    s_c stepG_seq
    s_reg
    s_op
    s_c stepG_region_end
    s_c stepG_ret'
    s_stop
    exact LoneTo.done ⟨.returned (.bool true), _, rfl, ⟨rfl, rfl⟩, rfl, rfl, rfl, rfl, _, Try.func9, by simp [results, Try.f9, Frame.at]⟩

/-! the zero gate -/
theorem zero54 : ((Try.prog.info? 54).bind (·.zero)).map (fun v => (isAggV v, v.cells.size, v.cells[912]?, v.cells[914]?, v.cells[915]?, (List.range 16).map fun i => v.cells[i * 57]?)) =
    some (true, 917, some (.int .u32 0), some (.int .u32 0), some (.int .i32 0), (List.range 16).map fun _ => some (.int .i64 0)) := by kernel_rfl
end Go.Proofs.Qxb6616086a.Gate
