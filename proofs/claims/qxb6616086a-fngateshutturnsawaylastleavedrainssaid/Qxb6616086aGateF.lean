import Derived.Test.Qxb6616086aGateE
import Derived.Laws.Rows
namespace Go.Proofs.Qxb6616086a.Gate
open Go.RowKit Go.Deep Go.Conc
set_option linter.unusedVariables false

theorem info22 (f : Nat → Int) : (Try.prog.info? 22).map (·.size) = some (arr f).size := by
  rw [arr_size]
  kernel_rfl
theorem arr_one (f : Nat → Int) : (arr f).all (·.oneCell') = true := by
  rw [Array.all_eq_true_iff_forall_mem]
  intro v hv
  simp [arr] at hv
  obtain ⟨a, _, rfl⟩ := hv
  rfl
def av (f : Nat → Int) (i : Nat) : Value := .int .i64 (f i)
/-- a row of sixteen is an array -/
theorem row_arr {w : World} {b : Nat} {f : Nat → Int} (h : w.rowIs b 22 16 (av f)) : w.heap[b]? = some (.cells (arr f) 22 (0, 0)) := by
  obtain ⟨c, hb, hs, hc⟩ := h
  rw [hb, arr_ext hs hc]
theorem arr_row {w : World} {b : Nat} {f : Nat → Int} (h : w.heap[b]? = some (.cells (arr f) 22 (0, 0))) : w.rowIs b 22 16 (av f) := ⟨_, h, arr_size f, fun i hi => arr_get f hi⟩

theorem zeros16 {i : Nat} (hi : i < 16) : (#[Value.int .i64 0, .int .i64 0, .int .i64 0, .int .i64 0, .int .i64 0, .int .i64 0, .int .i64 0, .int .i64 0, .int .i64 0, .int .i64 0, .int .i64 0, .int .i64 0, .int .i64 0, .int .i64 0, .int .i64 0, .int .i64 0])[i]? = some (.int .i64 0) := by
  show ((List.replicate 16 (Value.int .i64 0)).toArray)[i]? = _
  rw [List.getElem?_toArray, List.getElem?_replicate, if_pos hi]

/-- while the counts are read: k of them are laid -/
structure Rd (w wr : World) (f : Nat → Int) (k : Nat) : Prop where
  bel : Below w.heap.size w wr
  res : wr.rowIs w.heap.size 22 16 (av fun _ => 0)
  out : wr.rowIs (w.heap.size + 1) 22 16 (av fun j => if j < k then f j else 0)

set_option maxHeartbeats 1000000 in
set_option maxRecDepth 100000 in
theorem counts (gb cb : Nat) (f : Nat → Int) (sh dn m : Int) (cl : Bool) (w : World) (G : Gt w gb cb f sh dn m cl) :
    Calls Try.prog 8 #[.pointer (some ⟨gb, 0, none⟩)] w fun e w' => e = .returned (.agg (arr f)) ∧ Below w.heap.size w w' := by
  go_enter Try.func8, Try.ntmps8
  go_wp2_with fail
  go_loopw [5] (fun i wr => ∃ k : Nat, k ≤ 16 ∧ i = .int .i64 k ∧ Rd w wr f k) (fun i _ => 16 - (intOf i).toNat)
  case atStart =>
    refine ⟨0, by omega, rfl, ((Below.refl _ _).alloc (Nat.le_refl _) _).alloc (by simp) _, ?_, ?_⟩
    · exact (World.rowIs_alloc w _ 22 _ (fun i hi => by
        have hi' : i < 16 := by simpa using hi
        simpa [av] using zeros16 hi')).alloc _
    · have := World.rowIs_alloc (w.alloc (.cells #[.int .i64 0, .int .i64 0, .int .i64 0, .int .i64 0, .int .i64 0, .int .i64 0, .int .i64 0, .int .i64 0, .int .i64 0, .int .i64 0, .int .i64 0, .int .i64 0, .int .i64 0, .int .i64 0, .int .i64 0, .int .i64 0] 22)) #[.int .i64 0, .int .i64 0, .int .i64 0, .int .i64 0, .int .i64 0, .int .i64 0, .int .i64 0, .int .i64 0, .int .i64 0, .int .i64 0, .int .i64 0, .int .i64 0, .int .i64 0, .int .i64 0, .int .i64 0, .int .i64 0] 22 (av fun j => if j < 0 then f j else 0) (fun i hi => by
        have hi' : i < 16 := by simpa using hi
        simpa [av] using zeros16 hi')
      simpa using this
  case round =>
    obtain ⟨k, hk, rfl, R⟩ := hrel
    by_cases hlt : k < 16
    · have i0 : (0 : Int) ≤ (k : Int) := by omega
      have i1 : (k : Int) < 16 := by omega
      have c0 := (R.bel.cell (p := ⟨gb, k * 57, none⟩) G.lt).trans (G.cnt k hlt)
      have c1 := R.out.cell hlt
      have c2 := R.out.frozen k
      have HR := hide R
      have HG := hide G
      clear R G
      go_wp2_with (go_at_call 14; refine (load64 _ _ _ c0).mono ?_; rintro e w' ⟨rfl, hw'⟩; subst hw')
      go_roundw
      case rel =>
        have R := unhide HR
        refine ⟨k + 1, by omega, by go_num, R.bel.setCell (by simp) _, R.res.setOther (by simp) _, (R.out.set k _).congr fun i hi => ?_⟩
        show (if i = k then Value.int .i64 (f k) else .int .i64 (if i < k then f i else 0)) = .int .i64 (if i < k + 1 then f i else 0)
        by_cases e : i = k
        · subst e; simp
        · by_cases l : i < k
          · rw [if_neg e, if_pos l, if_pos (by omega)]
          · rw [if_neg e, if_neg l, if_neg (by omega)]
      case measure => simp [intOf]; omega
    · have hke : k = 16 := by omega
      subst hke
      have g1 : wr.heap[w.heap.size + 1]? = some (.cells (arr f) 22 (0, 0)) := row_arr (R.out.congr fun i hi => by simp [av, hi])
      have g0 := row_arr R.res
      have HR := hide R.bel
      clear R G
      go_wp2_with (first | refine wpList_load_row rfl 22 (.tmp 3) rfl (w.heap.size + 1) rfl 22 (arr f) (0, 0) _ g1 Try.underlying22 rfl (info22 f) ?_ | refine wpList_store_row rfl 22 (.tmp 2) (.tmp 19) rfl w.heap.size (arr f) rfl rfl 22 _ g0 (info22 f) (by rw [arr_size, arr_size]) (arr_one f) ?_)
      have g2 := setRow_heap wr w.heap.size _ (arr f) 22 (0, 0) g0
      refine bodyPost_ret (results_cell_row rfl _ _ w.heap.size 22 (arr f) (0, 0) _ rfl g2 Try.underlying22 rfl (info22 f)) rfl ⟨rfl, ?_⟩
      exact (unhide HR).trans ⟨rfl, rfl, rfl, by simp, fun k hk => setRow_other _ _ _ _ (by omega)⟩
end Go.Proofs.Qxb6616086a.Gate
