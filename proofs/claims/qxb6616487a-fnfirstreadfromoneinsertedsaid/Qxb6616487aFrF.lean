import Derived.Test.Qxb6616487aFrE
import Derived.ProofKit
import Derived.Below
import Derived.OpenShut
import Derived.ShutString
import Derived.ChangeOld
import Derived.Deep.SlicePairs
namespace Go.Proofs.Qxb6616487a.Fr
open Go.ChangeShapes Go.WideShapes Go.ChangeAt Go.RowKit Go.Deep

theorem own : ownKnob Try.prog.godebug = none := by kernel_rfl
theorem laidOut : laidOutB Try.prog = true := by kernel_rfl
theorem cells44 : Try.prog.cellsOf 44 = 4 := by kernel_rfl
theorem cells2 : Try.prog.cellsOf 2 = 1 := by kernel_rfl
theorem cells3 : Try.prog.cellsOf 3 = 1 := by kernel_rfl
theorem cells4 : Try.prog.cellsOf 4 = 1 := by kernel_rfl

set_option maxRecDepth 100000 in
/-- one element's four cells -/
theorem acc_of {H : Type} {enc : TypeId × Value → H} {W : World} {n : Nat} {cs : List Value} {y : DataW H × List MemPlace} (hl : cs.length = 4)
    (h : DataW.trod enc Try.prog W 0 (fun _ => true) true n 44 cs = some y) : ∃ x : Acc, cs = [.int .i64 x.1, .int .i64 x.2.1, .int .i64 x.2.2.1, .bool x.2.2.2] := by
  obtain ⟨xs, k, hk, hxy, _, hxl, hf⟩ := DataW.trod_struct Try.underlying44 h
  match xs, hxl, cs, hl with
  | [y0, y1, y2, y3], _, [v0, v1, v2, v3], _ =>
    have g0 := hf 0 _ rfl
    have g1 := hf 1 _ rfl
    have g2 := hf 2 _ rfl
    have g3 := hf 3 _ rfl
    simp [cells2, cells3, cells4] at g0 g1 g2 g3
    obtain ⟨z0, e0, _⟩ := DataW.trod_int Try.underlying3 g0
    obtain ⟨z1, e1, _⟩ := DataW.trod_int Try.underlying3 g1
    obtain ⟨z2, e2, _⟩ := DataW.trod_int Try.underlying2 g2
    obtain ⟨z3, e3, _⟩ := DataW.trod_bool Try.underlying4 g3
    simp at e0 e1 e2 e3
    exact ⟨(z0, z1, z2, z3), by simp [e0, e1, e2, e3]⟩

theorem quads_of {H : Type} {enc : TypeId × Value → H} {W : World} {a : Option Addr} {n c fuel : Nat} {x : DataW H × List MemPlace}
    (h : DataW.trod enc Try.prog W 0 (fun _ => true) true fuel 35 [.slice a n c] = some x) : n ≤ 9223372036854775807 ∧ ∃ f, QuadsAt W a n f := by
  rcases open_slice Try.underlying35 h with ⟨e, _⟩ | ⟨ad, len, cap, m, q, D, Pl, e, _, hl, hm, hmm, _, hx⟩
  · simp at e
    obtain ⟨rfl, rfl, rfl⟩ := e
    exact ⟨by omega, fun _ => zeroAcc, QuadsAt.nil _ _ _⟩
  · simp at e
    obtain ⟨rfl, rfl, rfl⟩ := e
    simp at hmm
    subst hmm
    refine ⟨by unfold maxLen at hm; omega, ?_⟩
    rw [cells44] at hx
    have each : ∀ i, i < n → ∃ x : Acc, ∃ b off, ad = ⟨b, off, none⟩ ∧ accAt W b (off + i * 4) x := by
      intro i hi
      obtain ⟨cs', h1, h2⟩ := hx i (by omega)
      obtain ⟨_, hlen, hcell⟩ := World.cells?_some h1
      obtain ⟨y, rfl⟩ := acc_of hlen h2
      obtain ⟨b, off, spot⟩ := ad
      have hspot : spot = none := by
        obtain ⟨cs0, h10, h20⟩ := hx 0 (by omega)
        obtain ⟨_, hlen0, hcell0⟩ := World.cells?_some h10
        obtain ⟨y0, rfl⟩ := acc_of hlen0 h20
        have k := hcell0 0 (by simp)
        simp only [Nat.zero_mul, List.getElem?_cons_zero] at k
        simpa [Addr.add] using World.cell?_spot k
      subst hspot
      have k0 := hcell 0 (by simp)
      have k1 := hcell 1 (by simp)
      have k2 := hcell 2 (by simp)
      have k3 := hcell 3 (by simp)
      rw [add_add, add_plain] at k0 k1 k2 k3
      exact ⟨y, b, off, rfl, by simpa using k0, by simpa [Nat.add_assoc] using k1, by simpa [Nat.add_assoc] using k2, by simpa [Nat.add_assoc] using k3⟩
    obtain ⟨f, hf⟩ := choose_lt each
    refine ⟨f, fun i hi => ?_⟩
    obtain ⟨b, off, rfl, hc⟩ := hf i hi
    exact ⟨b, off, rfl, World.block_lt_of_cell? _ _ hc.1, hc⟩

set_option maxRecDepth 100000 in
theorem lifted (os : Os) (started : os.Started) (H : Type) (enc : TypeId × Value → H) :
    ReturnsInHanded {} Try.checked os 4 .any (Rows.fnFirstReadFromJoinedHistorySpec.pre6 enc Try.prog Try.f4 Rows.fnFirstReadFromJoinedHistoryRow.domain false) (Rows.fnFirstReadFromJoinedHistorySpec.post enc Try.prog Try.f4 false true false false) := by
  refine returnsInHanded_of_change (C := Try.checked) own started (by kernel_rfl) Try.func4
    (ChangeSpec.witness6 (enc := enc) (C := Try.checked) false ⟨#[], #[.slice none 0 0, .slice none 0 0, .int .i64 0, .int .i64 0], []⟩ 8 (by kernel_rfl) (by kernel_rfl) (by kernel_rfl) (by kernel_rfl)) ?_
  intro W base args ds gs before hval0 hW hcnd _
  have hval : ∀ (j : Nat) t v, Try.f4.params[j]? = some t → args[j]? = some v → Value.okWide Try.prog W .any base t v := hval0
  have hW' := hW
  obtain ⟨p, q, hA0, hV, rfl, hfz, hnd⟩ := hW
  have hA : DataW.TrodAll enc Try.prog W 0 (fun _ => true) true Try.f4.params.toList args.toList ds p := hA0
  rw [Try.params4] at hA hval
  obtain ⟨v0, vs0, d0, ds0, p0, q0, hargs, rfl, rfl, h0, r0⟩ := trodAll_cons hA
  obtain ⟨v1, vs1, d1, ds1, p1, q1, rfl, rfl, rfl, h1, r1⟩ := trodAll_cons r0
  obtain ⟨v2, vs2, d2, ds2, p2, q2, rfl, rfl, rfl, h2, r2⟩ := trodAll_cons r1
  obtain ⟨v3, vs3, d3, ds3, p3, q3, rfl, rfl, rfl, h3, r3⟩ := trodAll_cons r2
  obtain ⟨rfl, rfl, rfl⟩ := trodAll_nil r3
  obtain rfl : args = #[v0, v1, v2, v3] := by cases args; simp_all
  obtain ⟨rfl, rfl⟩ := trodVars_none hV
  obtain ⟨a0, len0, cap0, rfl⟩ := okWide_slice Try.underlying35 (hval 0 35 v0 rfl rfl)
  obtain ⟨a1, len1, cap1, rfl⟩ := okWide_slice Try.underlying35 (hval 1 35 v1 rfl rfl)
  obtain ⟨x2, rfl, rfl, rfl, w2⟩ := open_int Try.underlying3 (hval 2 3 v2 rfl rfl) h2
  obtain ⟨x3, rfl, rfl, rfl, w3⟩ := open_int Try.underlying3 (hval 3 3 v3 rfl rfl) h3
  have k0 := h0
  have k1 := h1
  have lt0 : ∀ x ∈ p0, x.block < W.heap.size := by obtain ⟨m, hm⟩ := k0; exact DataW.trod_lt m _ _ _ hm
  have lt1 : ∀ x ∈ p1, x.block < W.heap.size := by obtain ⟨m, hm⟩ := k1; exact DataW.trod_lt m _ _ _ hm
  obtain ⟨f0, g0⟩ := h0
  obtain ⟨f1, g1⟩ := h1
  obtain ⟨m0, F0, z0⟩ := quads_of (by simpa [Value.cells] using g0)
  obtain ⟨m1, F1, z1⟩ := quads_of (by simpa [Value.cells] using g1)
  clear hA0 hval0
  refine (walkAll a0 a1 len0 cap0 len1 cap1 F0 F1 x2 x3 W z0 z1 m0 m1).mono fun e W' ⟨he, bel⟩ => ?_
  subst he
  exact ⟨_, rfl, _, _, _, [], _, [], hW', trodAll_mk1 (shut_bool Try.underlying4 _), (trodAll_cons_mk (Below.trod laidOut (by kernel_rfl) (of_decide_eq_true (by kernel_rfl)) k0 bel lt0) (trodAll_cons_mk (Below.trod laidOut (by kernel_rfl) (of_decide_eq_true (by kernel_rfl)) k1 bel lt1) (trodAll_cons_mk (shut_int Try.underlying3 w2) (trodAll_cons_mk (shut_int Try.underlying3 w3) trodAll_mk0)))), rfl, bel.frame _, fun h => by cases h⟩

theorem over : Rows.fnFirstReadFromJoinedHistoryRow.holds Try.pinned (OpenSpec.ofChange Rows.fnFirstReadFromJoinedHistorySpec) :=
  OpenClaim.holds_of_wide 4 Try.f4 rfl rfl rfl rfl rfl rfl rfl ⟨rfl, rfl, rfl, rfl, rfl⟩ rfl rfl rfl rfl rfl (by kernel_rfl) Try.func4 (by kernel_rfl)
    (of_decide_eq_true (by kernel_rfl)) (by unfold Func.isWrapper; first | (rw [if_pos (by decide +kernel)]; kernel_rfl) | (rw [if_neg (by decide +kernel)]; exact ⟨rfl, rfl⟩))
    (fun os started H enc _ => lifted os started H enc)

/-- THE STATEMENT -/
theorem proved : Rows.FnFirstReadFromJoinedHistorySaid := over
end Go.Proofs.Qxb6616487a.Fr
