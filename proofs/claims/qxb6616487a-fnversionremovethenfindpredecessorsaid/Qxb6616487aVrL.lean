import Derived.Test.Qxb6616487aVrK
import Derived.ProofKit
import Derived.Below
import Derived.OpenShut
import Derived.ShutString
import Derived.ChangeOld
import Derived.Deep.SlicePairs
namespace Go.Proofs.Qxb6616487a.Vr
open Go.ChangeShapes Go.WideShapes Go.ChangeAt Go.RowKit Go.Deep
set_option linter.unusedVariables false

theorem own : ownKnob Try.prog.godebug = none := by kernel_rfl
theorem laidOut : laidOutB Try.prog = true := by kernel_rfl
theorem cells63 : Try.prog.cellsOf 63 = 1 := by kernel_rfl
theorem cells90 : Try.prog.cellsOf 90 = 2 := by kernel_rfl
theorem cells3 : Try.prog.cellsOf 3 = 1 := by kernel_rfl

theorem wf_bounds {x : Int} (h : (Lit.int .i64 x).wf = true) : -9223372036854775808 ≤ x ∧ x ≤ 9223372036854775807 := by
  have h2 : decide ((-9223372036854775808 : Int) ≤ x) = true ∧ decide (x ≤ (9223372036854775807 : Int)) = true := by
    have := h
    simp only [Lit.wf, Bool.and_eq_true] at this
    exact this
  exact ⟨of_decide_eq_true h2.1, of_decide_eq_true h2.2⟩

/-- one inner slice -/
theorem inner_of {H : Type} {enc : TypeId × Value → H} {W : World} {v : Value} {fuel : Nat} {x : DataW H × List MemPlace}
    (h : DataW.trod enc Try.prog W 0 (fun _ => true) true fuel 63 [v] = some x) :
    ∃ q : Option Addr × Nat × Nat × (Nat → Int) × (Nat → Int), v = .slice q.1 q.2.1 q.2.2.1 ∧ q.2.1 ≤ 9223372036854775807 ∧
      ∀ k, k < q.2.1 → ∃ b off, q.1 = some ⟨b, off, none⟩ ∧ b < W.heap.size ∧ W.cell? ⟨b, off + k * 2, none⟩ = some (.int .i64 (q.2.2.2.1 k)) ∧ W.cell? ⟨b, off + k * 2 + 1, none⟩ = some (.int .i64 (q.2.2.2.2 k)) ∧ -9223372036854775808 ≤ q.2.2.2.1 k ∧ q.2.2.2.1 k ≤ 9223372036854775807 := by
  rcases open_slice_pairs Try.underlying63 Try.underlying90 cells90 rfl rfl cells3 cells3 h with ⟨e, _⟩ | ⟨ad, len, cap, m, q, V0, V1, D0, D1, P0, P1, e, _, hl, hm, hmm, _, hx⟩
  · simp at e
    exact ⟨(none, 0, 0, fun _ => 0, fun _ => 0), e, Nat.zero_le _, fun k hk => absurd hk (Nat.not_lt_zero k)⟩
  · simp at e
    simp at hmm
    subst hmm
    have each : ∀ i, i < len → ∃ q : Int × Int, V0 i = .int .i64 q.1 ∧ V1 i = .int .i64 q.2 ∧ -9223372036854775808 ≤ q.1 ∧ q.1 ≤ 9223372036854775807 := by
      intro i hi
      obtain ⟨_, _, t0, t1⟩ := hx i (by omega)
      obtain ⟨z0, e0, _, w0⟩ := DataW.trod_int Try.underlying3 t0
      obtain ⟨z1, e1, _⟩ := DataW.trod_int Try.underlying3 t1
      simp at e0 e1
      exact ⟨(z0, z1), e0, e1, wf_bounds w0⟩
    obtain ⟨f, hf⟩ := choose_lt each
    refine ⟨(some ad, len, m, fun i => (f i).1, fun i => (f i).2), e, by unfold maxLen at hm; show len ≤ _; omega, fun i hi => ?_⟩
    have hi' : i < len := hi
    obtain ⟨k0, k1, _, _⟩ := hx i (by omega)
    obtain ⟨f0, f1, f2, f3⟩ := hf i hi'
    rw [f0] at k0
    rw [f1] at k1
    obtain ⟨b, off, spot⟩ := ad
    have hspot : spot = none := by simpa [Addr.add] using World.cell?_spot (hx 0 (by omega)).1
    subst hspot
    rw [add_plain] at k0 k1
    exact ⟨b, off, rfl, World.block_lt_of_cell? _ _ k0, k0, by simpa [Nat.add_assoc] using k1, f2, f3⟩

theorem blks_of {H : Type} {enc : TypeId × Value → H} {W : World} {a : Option Addr} {n c fuel : Nat} {x : DataW H × List MemPlace}
    (h : DataW.trod enc Try.prog W 0 (fun _ => true) true fuel 48 [.slice a n c] = some x) :
    n ≤ 9223372036854775807 ∧ ∃ L A C T R, Blks W a n L A C T R ∧ (∀ i, i < n → L i ≤ 9223372036854775807) ∧ ∀ i k, i < n → k < L i → -9223372036854775808 ≤ T i k ∧ T i k ≤ 9223372036854775807 := by
  rcases open_slice1 Try.underlying48 cells63 h with ⟨e, _⟩ | ⟨ad, len, cap, m, q, V, D, Pl, e, _, hl, hm, hmm, _, hx⟩
  · simp at e
    obtain ⟨rfl, rfl, rfl⟩ := e
    exact ⟨by omega, fun _ => 0, fun _ => none, fun _ => 0, fun _ _ => 0, fun _ _ => 0, ⟨fun i hi => absurd hi (Nat.not_lt_zero i), fun i _ hi => absurd hi (Nat.not_lt_zero i)⟩, fun i hi => absurd hi (Nat.not_lt_zero i), fun i _ hi => absurd hi (Nat.not_lt_zero i)⟩
  · simp at e
    obtain ⟨rfl, rfl, rfl⟩ := e
    simp at hmm
    subst hmm
    refine ⟨by unfold maxLen at hm; omega, ?_⟩
    obtain ⟨f, hf⟩ := choose_lt (fun i (hi : i < n) => inner_of (hx i (by omega)).2)
    refine ⟨fun i => (f i).2.1, fun i => (f i).1, fun i => (f i).2.2.1, fun i k => (f i).2.2.2.1 k, fun i k => (f i).2.2.2.2 k, ⟨fun i hi => ?_, fun i k hi hk => ?_⟩, fun i hi => (hf i hi).2.1, fun i k hi hk => ?_⟩
    · have k0 := (hx i (by omega)).1
      rw [(hf i hi).1] at k0
      obtain ⟨b, off, spot⟩ := ad
      have hspot : spot = none := by simpa [Addr.add] using World.cell?_spot (hx 0 (by omega)).1
      subst hspot
      rw [add_plain] at k0
      exact ⟨b, off, rfl, World.block_lt_of_cell? _ _ k0, k0⟩
    · obtain ⟨b, off, e, hl, c0, c1, _, _⟩ := (hf i hi).2.2 k hk
      exact ⟨b, off, e, hl, c0, c1⟩
    · obtain ⟨b, off, e, hl, c0, c1, h1, h2⟩ := (hf i hi).2.2 k hk
      exact ⟨h1, h2⟩

set_option maxRecDepth 100000 in
theorem lifted (os : Os) (started : os.Started) (H : Type) (enc : TypeId × Value → H) :
    ReturnsInHanded {} Try.checked os 6 .any (Rows.fnVersionRemoveThenFindPredecessorSpec.pre6 enc Try.prog Try.f6 Rows.fnVersionRemoveThenFindPredecessorRow.domain false) (Rows.fnVersionRemoveThenFindPredecessorSpec.post enc Try.prog Try.f6 false true false false) := by
  refine returnsInHanded_of_change (C := Try.checked) own started (by kernel_rfl) Try.func6
    (ChangeSpec.witness6 (enc := enc) (C := Try.checked) false ⟨#[], #[.slice none 0 0, .int .i64 0], []⟩ 8 (by kernel_rfl) (by kernel_rfl) (by kernel_rfl) (by kernel_rfl)) ?_
  intro W base args ds gs before hval0 hW hcnd _
  have hval : ∀ (j : Nat) t v, Try.f6.params[j]? = some t → args[j]? = some v → Value.okWide Try.prog W .any base t v := hval0
  have hW' := hW
  obtain ⟨p, q, hA0, hV, rfl, hfz, hnd⟩ := hW
  have hA : DataW.TrodAll enc Try.prog W 0 (fun _ => true) true Try.f6.params.toList args.toList ds p := hA0
  rw [Try.params6] at hA hval
  obtain ⟨v0, vs0, d0, ds0, p0, q0, hargs, rfl, rfl, h0, r0⟩ := trodAll_cons hA
  obtain ⟨v1, vs1, d1, ds1, p1, q1, rfl, rfl, rfl, h1, r1⟩ := trodAll_cons r0
  obtain ⟨rfl, rfl, rfl⟩ := trodAll_nil r1
  obtain rfl : args = #[v0, v1] := by cases args; simp_all
  obtain ⟨rfl, rfl⟩ := trodVars_none hV
  obtain ⟨a0, len0, cap0, rfl⟩ := okWide_slice Try.underlying48 (hval 0 48 v0 rfl rfl)
  obtain ⟨x1, rfl, rfl, rfl, w1⟩ := open_int Try.underlying3 (hval 1 3 v1 rfl rfl) h1
  have k0 := h0
  have lt0 : ∀ x ∈ p0, x.block < W.heap.size := by obtain ⟨m, hm⟩ := k0; exact DataW.trod_lt m _ _ _ hm
  obtain ⟨f0, g0⟩ := h0
  obtain ⟨m0, L, A, C, T, R, z0, z1, z2⟩ := blks_of (by simpa [Value.cells] using g0)
  clear hA0 hval0
  refine (walk a0 len0 cap0 x1 L A C T R W z0 m0 z1 z2).mono fun e W' ⟨he, bel⟩ => ?_
  subst he
  exact ⟨_, rfl, _, _, _, [], _, [], hW', trodAll_mk1 (shut_bool Try.underlying4 _), (trodAll_cons_mk (Below.trod laidOut (by kernel_rfl) (of_decide_eq_true (by kernel_rfl)) k0 bel lt0) (trodAll_cons_mk (shut_int Try.underlying3 w1) trodAll_mk0)), rfl, bel.frame _, fun h => by cases h⟩

theorem over : Rows.fnVersionRemoveThenFindPredecessorRow.holds Try.pinned (OpenSpec.ofChange Rows.fnVersionRemoveThenFindPredecessorSpec) :=
  OpenClaim.holds_of_wide 6 Try.f6 rfl rfl rfl rfl rfl rfl rfl ⟨rfl, rfl, rfl, rfl, rfl⟩ rfl rfl rfl rfl rfl (by kernel_rfl) Try.func6 (by kernel_rfl)
    (of_decide_eq_true (by kernel_rfl)) (by unfold Func.isWrapper; first | (rw [if_pos (by decide +kernel)]; kernel_rfl) | (rw [if_neg (by decide +kernel)]; exact ⟨rfl, rfl⟩))
    (fun os started H enc _ => lifted os started H enc)

/-- THE STATEMENT -/
theorem proved : Rows.FnVersionRemoveThenFindPredecessorSaid := over
end Go.Proofs.Qxb6616487a.Vr
