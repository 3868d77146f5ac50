import Derived.Test.Qxb6616086aGateH
import Derived.ProofKit
import Derived.Below
import Derived.OpenShut
import Derived.ChangeOld
import Derived.Deep.Slices
namespace Go.Proofs.Qxb6616086a.Gate
open Go.ChangeShapes Go.WideShapes Go.ChangeAt Go.RowKit Go.Deep
set_option linter.unusedVariables false

set_option maxHeartbeats 1000000 in
set_option maxRecDepth 100000 in
theorem walk (f : Nat → Int) (a b c : Int) (hf : ∀ i, i < 16 → In64 (f i)) (w : World) :
    Calls Try.prog 3 #[.agg (arr f), .int .i64 a, .int .i64 b, .int .i64 c] w fun e w' => e = .returned (.bool true) ∧ Below w.heap.size w w' := by
  by_cases a0 : a < 0
  · go_enter Try.func3, Try.ntmps3
    go_wp2_with fail
    go_ret
    exact ⟨rfl, (Below.refl _ _).alloc (Nat.le_refl _) _⟩
  by_cases a1 : 16 ≤ a
  · go_enter Try.func3, Try.ntmps3
    go_wp2_with fail
    go_ret
    exact ⟨rfl, (Below.refl _ _).alloc (Nat.le_refl _) _⟩
  by_cases b0 : b < 0
  · go_enter Try.func3, Try.ntmps3
    go_wp2_with fail
    go_ret
    exact ⟨rfl, (Below.refl _ _).alloc (Nat.le_refl _) _⟩
  by_cases b1 : 16 ≤ b
  · go_enter Try.func3, Try.ntmps3
    go_wp2_with fail
    go_ret
    exact ⟨rfl, (Below.refl _ _).alloc (Nat.le_refl _) _⟩
  by_cases c0 : c < 0
  · go_enter Try.func3, Try.ntmps3
    go_wp2_with fail
    go_ret
    exact ⟨rfl, (Below.refl _ _).alloc (Nat.le_refl _) _⟩
  by_cases c1 : 16 ≤ c
  · go_enter Try.func3, Try.ntmps3
    go_wp2_with fail
    go_ret
    exact ⟨rfl, (Below.refl _ _).alloc (Nat.le_refl _) _⟩
  obtain ⟨a', rfl⟩ := Int.eq_ofNat_of_zero_le (show 0 ≤ a by omega)
  obtain ⟨b', rfl⟩ := Int.eq_ofNat_of_zero_le (show 0 ≤ b by omega)
  obtain ⟨c', rfl⟩ := Int.eq_ofNat_of_zero_le (show 0 ≤ c by omega)
  exact walkIn f a' b' c' (by omega) (by omega) (by omega) hf w

theorem own : ownKnob Try.prog.godebug = none := by kernel_rfl
theorem laidOut : laidOutB Try.prog = true := by kernel_rfl
theorem cells22 : Try.prog.cellsOf 22 = 16 := by kernel_rfl
theorem cells2 : Try.prog.cellsOf 2 = 1 := by kernel_rfl

theorem wf_bounds {x : Int} (h : (Lit.int .i64 x).wf = true) : In64 x := by
  have h2 : decide ((-9223372036854775808 : Int) ≤ x) = true ∧ decide (x ≤ (9223372036854775807 : Int)) = true := by
    have := h
    simp only [Lit.wf, Bool.and_eq_true] at this
    exact this
  exact ⟨of_decide_eq_true h2.1, of_decide_eq_true h2.2⟩

/-- the array that came in -/
theorem arr_of {H : Type} {enc : TypeId × Value → H} {W : World} {v : Value} {fuel base : Nat} {x : DataW H × List MemPlace} (hv : Value.okWide Try.prog W .any base 22 v)
    (h : DataW.trod enc Try.prog W 0 (fun _ => true) true fuel 22 v.cells.toList = some x) : ∃ f : Nat → Int, v = .agg (arr f) ∧ ∀ i, i < 16 → In64 (f i) := by
  simp only [Value.okWide, Try.underlying22] at hv
  obtain ⟨cs, rfl, hsz, _⟩ := hv
  rw [cells22] at hsz
  simp only [Value.cells] at h
  obtain ⟨xs, m, _, _, _, hxl, hx⟩ := DataW.trod_array Try.underlying22 h
  have each : ∀ i, i < 16 → ∃ z : Int, cs[i]? = some (.int .i64 z) ∧ In64 z := by
    intro i hi
    have hi' := hx i hi
    rw [cells2, Nat.mul_one] at hi'
    have hd : (cs.toList.drop i).take 1 = [cs[i]] := by
      rw [List.drop_eq_getElem_cons (by simpa [hsz] using hi)]
      simp
    rw [hd, List.getElem?_eq_getElem (by omega)] at hi'
    obtain ⟨z, e, _, wz⟩ := DataW.trod_int Try.underlying2 hi'
    simp at e
    exact ⟨z, by rw [Array.getElem?_eq_getElem (by omega), e], wf_bounds wz⟩
  obtain ⟨f, hf⟩ := choose_lt each
  exact ⟨f, by rw [arr_ext hsz (fun i hi => (hf i hi).1)], fun i hi => (hf i hi).2⟩

set_option maxRecDepth 100000 in
theorem lifted (os : Os) (started : os.Started) (H : Type) (enc : TypeId × Value → H) :
    ReturnsInHanded {} Try.checked os 3 .any (Rows.fnGateShutTurnsAwayLastLeaveDrainsSpec.pre6 enc Try.prog Try.f3 Rows.fnGateShutTurnsAwayLastLeaveDrainsRow.domain false) (Rows.fnGateShutTurnsAwayLastLeaveDrainsSpec.post enc Try.prog Try.f3 false true false false) := by
  refine returnsInHanded_of_change (C := Try.checked) own started (by kernel_rfl) Try.func3
    (ChangeSpec.witness6 (enc := enc) (C := Try.checked) false ⟨#[], #[.agg #[.int .i64 0, .int .i64 0, .int .i64 0, .int .i64 0, .int .i64 0, .int .i64 0, .int .i64 0, .int .i64 0, .int .i64 0, .int .i64 0, .int .i64 0, .int .i64 0, .int .i64 0, .int .i64 0, .int .i64 0, .int .i64 0], .int .i64 0, .int .i64 0, .int .i64 0], []⟩ 8 (by kernel_rfl) (by kernel_rfl) (by kernel_rfl) (by kernel_rfl)) ?_
  intro W base args ds gs before hval0 hW hcnd _
  have hval : ∀ (j : Nat) t v, Try.f3.params[j]? = some t → args[j]? = some v → Value.okWide Try.prog W .any base t v := hval0
  have hW' := hW
  obtain ⟨p, q, hA0, hV, rfl, hfz, hnd⟩ := hW
  have hA : DataW.TrodAll enc Try.prog W 0 (fun _ => true) true Try.f3.params.toList args.toList ds p := hA0
  rw [Try.params3] at hA hval
  obtain ⟨v0, vs0, d0, ds0, p0, q0, hargs, rfl, rfl, h0, r0⟩ := trodAll_cons hA
  obtain ⟨v1, vs1, d1, ds1, p1, q1, rfl, rfl, rfl, h1, r1⟩ := trodAll_cons r0
  obtain ⟨v2, vs2, d2, ds2, p2, q2, rfl, rfl, rfl, h2, r2⟩ := trodAll_cons r1
  obtain ⟨v3, vs3, d3, ds3, p3, q3, rfl, rfl, rfl, h3, r3⟩ := trodAll_cons r2
  obtain ⟨rfl, rfl, rfl⟩ := trodAll_nil r3
  obtain rfl : args = #[v0, v1, v2, v3] := by cases args; simp_all
  obtain ⟨rfl, rfl⟩ := trodVars_none hV
  obtain ⟨x1, rfl, rfl, rfl, w1⟩ := open_int Try.underlying3 (hval 1 3 v1 rfl rfl) h1
  obtain ⟨x2, rfl, rfl, rfl, w2⟩ := open_int Try.underlying3 (hval 2 3 v2 rfl rfl) h2
  obtain ⟨x3, rfl, rfl, rfl, w3⟩ := open_int Try.underlying3 (hval 3 3 v3 rfl rfl) h3
  have k0 := h0
  have lt0 : ∀ x ∈ p0, x.block < W.heap.size := by obtain ⟨m, hm⟩ := k0; exact DataW.trod_lt m _ _ _ hm
  obtain ⟨f0, g0⟩ := h0
  obtain ⟨f, rfl, hf⟩ := arr_of (hval 0 22 v0 rfl rfl) g0
  clear hA0 hval0
  refine (walk f x1 x2 x3 hf W).mono fun e W' ⟨he, bel⟩ => ?_
  subst he
  exact ⟨_, rfl, _, _, _, [], _, [], hW', trodAll_mk1 (shut_bool Try.underlying4 _), (trodAll_cons_mk (Below.trod laidOut (by kernel_rfl) (of_decide_eq_true (by kernel_rfl)) k0 bel lt0) (trodAll_cons_mk (shut_int Try.underlying3 w1) (trodAll_cons_mk (shut_int Try.underlying3 w2) (trodAll_cons_mk (shut_int Try.underlying3 w3) trodAll_mk0)))), rfl, bel.frame _, fun h => by cases h⟩

theorem over : Rows.fnGateShutTurnsAwayLastLeaveDrainsRow.holds Try.pinned (OpenSpec.ofChange Rows.fnGateShutTurnsAwayLastLeaveDrainsSpec) :=
  OpenClaim.holds_of_wide 3 Try.f3 rfl rfl rfl rfl rfl rfl rfl ⟨rfl, rfl, rfl, rfl, rfl⟩ rfl rfl rfl rfl rfl (by kernel_rfl) Try.func3 (by kernel_rfl)
    (of_decide_eq_true (by kernel_rfl)) (by unfold Func.isWrapper; first | (rw [if_pos (by decide +kernel)]; kernel_rfl) | (rw [if_neg (by decide +kernel)]; exact ⟨rfl, rfl⟩))
    (fun os started H enc _ => lifted os started H enc)

/-- THE STATEMENT -/
theorem proved : Rows.FnGateShutTurnsAwayLastLeaveDrainsSaid := over
end Go.Proofs.Qxb6616086a.Gate
