/- The frame is the kit's shell for this law (proof-skeleton.mjs); the walk is filled in. -/
import Derived.Test.Qxb6617619aRows
import Derived.Test.Qxb6617619aHv
import Derived.WalkKit
import Derived.ProofKit
import Derived.OpenShut
import Derived.ShutString
namespace Go.Proofs.Qxb6617619a.fnHalvesInCountsTheYearsHalvesAndSplits
open Go.ChangeShapes Go.WideShapes Go.ChangeAt Go.RowKit
open Go.ChangeMaps (open_string shut_string)
set_option linter.unusedVariables false      -- a walk need not use every 'w<i>' (that an integer argument fits its kind)

theorem own : ownKnob Try.prog.godebug = none := by kernel_rfl

/-- of the year's first k half months, those in [f, e) -/
def cn (f e y k : Int) : Int := max (min e (y * 24 + k) - max f (y * 24)) 0

theorem cn_step (f e y : Int) (k : Int) (h0 : 0 ≤ k) : cn f e y (k + 1) = cn f e y k + if f ≤ y * 24 + k ∧ y * 24 + k < e then 1 else 0 := by
  unfold cn; split <;> omega
theorem cn_end (f e y : Int) : cn f e y 24 = hv f e y := by unfold cn hv; omega
theorem hv_split (f c e y : Int) (h1 : f ≤ c) (h2 : c ≤ e) : hv f c y + hv c e y = hv f e y := by unfold hv; omega
theorem hv_bd (f e y : Int) : 0 ≤ hv f e y ∧ hv f e y ≤ 24 := by unfold hv; omega
theorem cn_bd (f e y k : Int) (h0 : 0 ≤ k) : 0 ≤ cn f e y k ∧ cn f e y k ≤ k := by unfold cn; omega

theorem hide {p : Prop} (h : p) : Hid p := h

set_option maxHeartbeats 1000000 in
set_option maxRecDepth 100000 in
theorem core (f e y c : Int) (f1 : -4611686018427387904 ≤ f) (f2 : f ≤ 4611686018427387904) (e1 : -4611686018427387904 ≤ e) (e2 : e ≤ 4611686018427387904) (y1 : -1073741824 ≤ y) (y2 : y ≤ 1073741824) (c1 : -4611686018427387904 ≤ c) (c2 : c ≤ 4611686018427387904) (w : World) :
    Calls Try.prog 3 #[.int .i64 f, .int .i64 e, .int .i64 y, .int .i64 c] w fun r w' => r = .returned (.bool true) ∧ Grown w w' := by
  go_enter Try.func3, Try.ntmps3
  go_wp2_with fail
  refine (halves f e y _ f1 f2 e1 e2 (by omega) (by omega)).mono ?_
  rintro r w1 ⟨rfl, g1⟩
  have G := hide g1
  clear g1
  go_wp2
  go_loop [11, 12, 13] (fun n i _ => ∃ k : Nat, k ≤ 24 ∧ i = .int .i64 k ∧ n = .int .i64 (cn f e y k)) (fun _ i _ => 24 - (intOf i).toNat)
  case atStart => exact ⟨0, by omega, rfl, by simp [cn]; omega⟩
  case round =>
    obtain ⟨k, hk, rfl, rfl⟩ := hrel
    have hb := cn_bd f e y k (by omega)
    obtain ⟨hb1, hb2⟩ := hb
    by_cases hlt : k < 24
    · have hs := hide (cn_step f e y k (by omega))
      by_cases q1 : f ≤ y * 24 + k
      · by_cases q2 : y * 24 + k < e
        · go_wp2
          go_round
          case rel => exact ⟨k + 1, by omega, by go_num, by have := hs.out; rw [if_pos ⟨q1, q2⟩] at this; simp only [Int.natCast_add, Int.natCast_one]; rw [this]⟩
          case measure => simp [intOf]; omega
        · go_wp2
          go_round
          case rel => exact ⟨k + 1, by omega, by go_num, by have := hs.out; rw [if_neg (by omega)] at this; simp only [Int.natCast_add, Int.natCast_one]; rw [this, Int.add_zero]⟩
          case measure => simp [intOf]; omega
      · go_wp2
        go_round
        case rel => exact ⟨k + 1, by omega, by go_num, by have := hs.out; rw [if_neg (by omega)] at this; simp only [Int.natCast_add, Int.natCast_one]; rw [this, Int.add_zero]⟩
        case measure => simp [intOf]; omega
    · have hk24 : k = 24 := by omega
      subst hk24
      clear hb1 hb2 hk hlt
      rw [show cn f e y ((24 : Nat) : Int) = hv f e y from cn_end f e y]
      by_cases q1 : f ≤ c
      · by_cases q2 : c ≤ e
        · have hs := hide (hv_split f c e y q1 q2)
          obtain ⟨p1, p2⟩ := hv_bd f c y
          obtain ⟨p3, p4⟩ := hv_bd c e y
          go_wp2_with fail
          refine (halves f c y _ f1 f2 c1 c2 (by omega) (by omega)).mono ?_
          rintro r w2 ⟨rfl, g2⟩
          have G2 := hide (grown_trans G.out g2)
          clear g2
          go_wp2_with fail
          refine (halves c e y _ c1 c2 e1 e2 (by omega) (by omega)).mono ?_
          rintro r w3 ⟨rfl, g3⟩
          have G3 := hide (grown_trans G2.out g3)
          clear g3
          have hq := hs.out
          go_wp2
          go_ret
          exact ⟨rfl, G3.out⟩
        · go_wp2
          go_ret
          exact ⟨rfl, G.out⟩
      · go_wp2
        go_ret
        exact ⟨rfl, G.out⟩
/-! ### the walk -/
theorem walk (a0 : Int) (a1 : Int) (a2 : Int) (a3 : Int) (w0 : (Lit.int .i64 a0).wf = true) (w1 : (Lit.int .i64 a1).wf = true) (w2 : (Lit.int .i64 a2).wf = true) (w3 : (Lit.int .i64 a3).wf = true) (w : World) :
    Calls Try.prog 3 #[.int .i64 a0, .int .i64 a1, .int .i64 a2, .int .i64 a3] w fun e w' => e = .returned (.bool true) ∧ Grown w w' := by
  by_cases d0 : -4611686018427387904 ≤ a0 ∧ a0 ≤ 4611686018427387904
  · by_cases d1 : -4611686018427387904 ≤ a1 ∧ a1 ≤ 4611686018427387904
    · by_cases d3 : -4611686018427387904 ≤ a3 ∧ a3 ≤ 4611686018427387904
      · by_cases d2 : -1073741824 ≤ a2 ∧ a2 ≤ 1073741824
        · exact core a0 a1 a2 a3 d0.1 d0.2 d1.1 d1.2 d2.1 d2.2 d3.1 d3.2 w
        · by_cases k : a2 < -1073741824
          all_goals
            obtain ⟨d01, d02⟩ := d0
            obtain ⟨d11, d12⟩ := d1
            obtain ⟨d31, d32⟩ := d3
            go_enter Try.func3, Try.ntmps3
            go_wp2
            go_ret
            exact ⟨rfl, by repeat (first | exact Grown.refl _ | apply Grown.drew | apply Grown.alloc)⟩
      · by_cases k : a3 < -4611686018427387904
        all_goals
          obtain ⟨d01, d02⟩ := d0
          obtain ⟨d11, d12⟩ := d1
          go_enter Try.func3, Try.ntmps3
          go_wp2
          go_ret
          exact ⟨rfl, by repeat (first | exact Grown.refl _ | apply Grown.drew | apply Grown.alloc)⟩
    · by_cases k : a1 < -4611686018427387904
      all_goals
        obtain ⟨d01, d02⟩ := d0
        go_enter Try.func3, Try.ntmps3
        go_wp2
        go_ret
        exact ⟨rfl, by repeat (first | exact Grown.refl _ | apply Grown.drew | apply Grown.alloc)⟩
  · by_cases k : a0 < -4611686018427387904
    all_goals
      go_enter Try.func3, Try.ntmps3
      go_wp2
      go_ret
      exact ⟨rfl, by repeat (first | exact Grown.refl _ | apply Grown.drew | apply Grown.alloc)⟩

/-! ### the row's step -/
set_option maxRecDepth 100000 in
theorem lifted (os : Os) (started : os.Started) (H : Type) (enc : TypeId × Value → H) :
    ReturnsInHanded {} Try.checked os 3 .any (Rows.fnHalvesInCountsTheYearsHalvesAndSplitsSpec.pre6 enc Try.prog Try.f3 Rows.fnHalvesInCountsTheYearsHalvesAndSplitsRow.domain false) (Rows.fnHalvesInCountsTheYearsHalvesAndSplitsSpec.post enc Try.prog Try.f3 false true false false) := by
  refine returnsInHanded_of_change (C := Try.checked) own started (by kernel_rfl) Try.func3
    (ChangeSpec.witness6 (enc := enc) (C := Try.checked) false ⟨#[], #[.int .i64 0, .int .i64 0, .int .i64 0, .int .i64 0], []⟩ 8 (by kernel_rfl) (by kernel_rfl) (by kernel_rfl) (by kernel_rfl)) ?_
  intro W base args ds gs before hval0 hW hcnd _
  have hval : ∀ (j : Nat) t v, Try.f3.params[j]? = some t → args[j]? = some v → Value.okWide Try.prog W .any base t v := hval0
  have hW' := hW
  obtain ⟨p, q, hA0, hV, rfl, hfz, hnd⟩ := hW
  have hA : DataW.TrodAll enc Try.prog W 0 (fun _ => true) true Try.f3.params.toList args.toList ds p := hA0
  rw [Try.params3] at hA hval
  obtain ⟨v0, vs0, d0, ds0, p0, q0, hargs, rfl, rfl, h0, r0⟩ := trodAll_cons hA
  obtain ⟨v1, vs1, d1, ds1, p1, q1, rfl, rfl, rfl, h1, r1⟩ := trodAll_cons r0
  obtain ⟨v2, vs2, d2, ds2, p2, q2, rfl, rfl, rfl, h2, r2⟩ := trodAll_cons r1
  obtain ⟨v3, vs3, d3, ds3, p3, q3, rfl, rfl, rfl, h3, r3⟩ := trodAll_cons r2
  obtain ⟨rfl, rfl, rfl⟩ := trodAll_nil r3
  obtain rfl : args = #[v0, v1, v2, v3] := by cases args; simp_all
  obtain ⟨rfl, rfl⟩ := trodVars_none hV
  obtain ⟨a0, rfl, rfl, rfl, w0⟩ := open_int Try.underlying2 (hval 0 2 v0 rfl rfl) h0
  obtain ⟨a1, rfl, rfl, rfl, w1⟩ := open_int Try.underlying2 (hval 1 2 v1 rfl rfl) h1
  obtain ⟨a2, rfl, rfl, rfl, w2⟩ := open_int Try.underlying3 (hval 2 3 v2 rfl rfl) h2
  obtain ⟨a3, rfl, rfl, rfl, w3⟩ := open_int Try.underlying2 (hval 3 2 v3 rfl rfl) h3
  clear hA0 hval0
  simp only [List.append_nil] at hW'
  refine (walk a0 a1 a2 a3 w0 w1 w2 w3 W).mono fun e W' ⟨he, hg⟩ => ?_
  subst he
  exact ⟨_, rfl, post_of_same (pa := []) (pv := []) hW' (fun _ _ _ => (trodAll_cons_mk (shut_bool Try.underlying4 _) trodAll_mk0)) (fun sp _ => (trodAll_cons_mk (shut_int Try.underlying2 w0) (trodAll_cons_mk (shut_int Try.underlying2 w1) (trodAll_cons_mk (shut_int Try.underlying3 w2) (trodAll_cons_mk (shut_int Try.underlying2 w3) trodAll_mk0))))) (fun _ _ => rfl) rfl
    (hg.frame _) hg.2.1 (ok_one (by kernel_rfl) rfl (okWide_bool_mk Try.underlying4 _))⟩

theorem over : Rows.fnHalvesInCountsTheYearsHalvesAndSplitsRow.holds Try.pinned (OpenSpec.ofChange Rows.fnHalvesInCountsTheYearsHalvesAndSplitsSpec) :=
  OpenClaim.holds_of_wide 3 Try.f3 rfl rfl rfl rfl rfl rfl rfl ⟨rfl, rfl, rfl, rfl, rfl⟩ rfl rfl rfl rfl rfl (by kernel_rfl) Try.func3 (by kernel_rfl)
    (of_decide_eq_true (by kernel_rfl)) (by unfold Func.isWrapper; first | (rw [if_pos (by decide +kernel)]; kernel_rfl) | (rw [if_neg (by decide +kernel)]; exact ⟨rfl, rfl⟩))
    (fun os started H enc _ => lifted os started H enc)

/-- THE STATEMENT -/
theorem proved : Rows.FnHalvesInCountsTheYearsHalvesAndSplitsSaid :=
  over
end Go.Proofs.Qxb6617619a.fnHalvesInCountsTheYearsHalvesAndSplits
