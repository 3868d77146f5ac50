import Derived.Test.Qxb6616487aHoldC
import Derived.ProofKit
import Derived.Below
import Derived.OpenShut
import Derived.ShutString
import Derived.ChangeOld
import Derived.Deep.SlicePairs
namespace Go.Proofs.Qxb6616487a.Hold
open Go.ChangeShapes Go.WideShapes Go.ChangeAt Go.RowKit Go.Deep

theorem own : ownKnob Try.prog.godebug = none := by kernel_rfl
theorem laidOut : laidOutB Try.prog = true := by kernel_rfl
theorem cells25 : Try.prog.cellsOf 25 = 2 := by kernel_rfl
theorem cells5 : Try.prog.cellsOf 5 = 1 := by kernel_rfl
theorem cells3 : Try.prog.cellsOf 3 = 1 := by kernel_rfl

/-- a slice of LockFields that came in, told as the walk wants it -/
theorem pairs_of {H : Type} {enc : TypeId × Value → H} {W : World} {a : Option Addr} {n c fuel : Nat} {x : DataW H × List MemPlace}
    (h : DataW.trod enc Try.prog W 0 (fun _ => true) true fuel 22 [.slice a n c] = some x) : n ≤ 9223372036854775807 ∧ ∃ M X, PairsAt W a n M X := by
  rcases open_slice_pairs Try.underlying22 Try.underlying25 cells25 rfl rfl cells5 cells3 h with ⟨e, _⟩ | ⟨ad, len, cap, m, q, V0, V1, D0, D1, P0, P1, e, _, hl, hm, hmm, _, hx⟩
  · simp at e
    obtain ⟨rfl, rfl, rfl⟩ := e
    exact ⟨by omega, fun _ => 0, fun _ => 0, fun i hi => absurd hi (Nat.not_lt_zero i)⟩
  · simp at e
    obtain ⟨rfl, rfl, rfl⟩ := e
    simp at hmm
    subst hmm
    refine ⟨by unfold maxLen at hm; omega, ?_⟩
    have each : ∀ i, i < n → ∃ q : Int × Int, V0 i = .int .u8 q.1 ∧ V1 i = .int .i64 q.2 := by
      intro i hi
      obtain ⟨_, _, t0, t1⟩ := hx i (by omega)
      obtain ⟨z0, e0, _⟩ := DataW.trod_int Try.underlying5 t0
      obtain ⟨z1, e1, _⟩ := DataW.trod_int Try.underlying3 t1
      simp at e0 e1
      exact ⟨(z0, z1), e0, e1⟩
    obtain ⟨f, hf⟩ := choose_lt each
    refine ⟨fun i => (f i).1, fun i => (f i).2, fun i hi => ?_⟩
    obtain ⟨k0, k1, _, _⟩ := hx i (by omega)
    obtain ⟨f0, f1⟩ := hf i hi
    rw [f0] at k0
    rw [f1] at k1
    obtain ⟨b, off, spot⟩ := ad
    have hspot : spot = none := by simpa [Addr.add] using World.cell?_spot (hx 0 (by omega)).1
    subst hspot
    rw [add_plain] at k0 k1
    exact ⟨b, off, rfl, World.block_lt_of_cell? _ _ k0, k0, by simpa [Nat.add_assoc] using k1⟩

set_option maxRecDepth 100000 in
theorem lifted (os : Os) (started : os.Started) (H : Type) (enc : TypeId × Value → H) :
    ReturnsInHanded {} Try.checked os 3 .any (Rows.fnHoldersPushScriptAppendsAndNumbersSpec.pre6 enc Try.prog Try.f3 Rows.fnHoldersPushScriptAppendsAndNumbersRow.domain false) (Rows.fnHoldersPushScriptAppendsAndNumbersSpec.post enc Try.prog Try.f3 false true false false) := by
  refine returnsInHanded_of_change (C := Try.checked) own started (by kernel_rfl) Try.func3
    (ChangeSpec.witness6 (enc := enc) (C := Try.checked) false ⟨#[], #[.slice none 0 0, .slice none 0 0], []⟩ 8 (by kernel_rfl) (by kernel_rfl) (by kernel_rfl) (by kernel_rfl)) ?_
  intro W base args ds gs before hval0 hW hcnd _
  have hval : ∀ (j : Nat) t v, Try.f3.params[j]? = some t → args[j]? = some v → Value.okWide Try.prog W .any base t v := hval0
  have hW' := hW
  obtain ⟨p, q, hA0, hV, rfl, hfz, hnd⟩ := hW
  have hA : DataW.TrodAll enc Try.prog W 0 (fun _ => true) true Try.f3.params.toList args.toList ds p := hA0
  rw [Try.params3] at hA hval
  obtain ⟨v0, vs0, d0, ds0, p0, q0, hargs, rfl, rfl, h0, r0⟩ := trodAll_cons hA
  obtain ⟨v1, vs1, d1, ds1, p1, q1, rfl, rfl, rfl, h1, r1⟩ := trodAll_cons r0
  obtain ⟨rfl, rfl, rfl⟩ := trodAll_nil r1
  obtain rfl : args = #[v0, v1] := by cases args; simp_all
  obtain ⟨rfl, rfl⟩ := trodVars_none hV
  obtain ⟨a0, len0, cap0, rfl⟩ := okWide_slice Try.underlying22 (hval 0 22 v0 rfl rfl)
  obtain ⟨a1, len1, cap1, rfl⟩ := okWide_slice Try.underlying22 (hval 1 22 v1 rfl rfl)
  have k0 := h0
  have k1 := h1
  have lt0 : ∀ x ∈ p0, x.block < W.heap.size := by obtain ⟨m, hm⟩ := k0; exact DataW.trod_lt m _ _ _ hm
  have lt1 : ∀ x ∈ p1, x.block < W.heap.size := by obtain ⟨m, hm⟩ := k1; exact DataW.trod_lt m _ _ _ hm
  obtain ⟨f0, g0⟩ := h0
  obtain ⟨f1, g1⟩ := h1
  obtain ⟨m0, M0, X0, z0⟩ := pairs_of (by simpa [Value.cells] using g0)
  obtain ⟨m1, M1, X1, z1⟩ := pairs_of (by simpa [Value.cells] using g1)
  clear hA0 hval0
  refine (walkAll a0 a1 len0 cap0 len1 cap1 M0 X0 M1 X1 W z0 z1 m0 m1).mono fun e W' ⟨he, bel⟩ => ?_
  subst he
  exact ⟨_, rfl, _, _, _, [], _, [], hW', trodAll_mk1 (shut_bool Try.underlying4 _), (trodAll_cons_mk (Below.trod laidOut (by kernel_rfl) (of_decide_eq_true (by kernel_rfl)) k0 bel lt0) (trodAll_cons_mk (Below.trod laidOut (by kernel_rfl) (of_decide_eq_true (by kernel_rfl)) k1 bel lt1) trodAll_mk0)), rfl, bel.frame _, fun h => by cases h⟩

theorem over : Rows.fnHoldersPushScriptAppendsAndNumbersRow.holds Try.pinned (OpenSpec.ofChange Rows.fnHoldersPushScriptAppendsAndNumbersSpec) :=
  OpenClaim.holds_of_wide 3 Try.f3 rfl rfl rfl rfl rfl rfl rfl ⟨rfl, rfl, rfl, rfl, rfl⟩ rfl rfl rfl rfl rfl (by kernel_rfl) Try.func3 (by kernel_rfl)
    (of_decide_eq_true (by kernel_rfl)) (by unfold Func.isWrapper; first | (rw [if_pos (by decide +kernel)]; kernel_rfl) | (rw [if_neg (by decide +kernel)]; exact ⟨rfl, rfl⟩))
    (fun os started H enc _ => lifted os started H enc)

/-- THE STATEMENT -/
theorem proved : Rows.FnHoldersPushScriptAppendsAndNumbersSaid := over
end Go.Proofs.Qxb6616487a.Hold
